import PyProof.Rows.All
import Wide.All
import OpenK.AllK
import Wide.FinOn
import Lean
import KE.KBytesWalk
import PyProof.ObjNew
import PyProof.AttrMissHeap
import PyProof.Rows.Chain
import PyProof.Rows.InDataRows
import PyProof.Rows.TupIn
import PyProof.Rows.RuleC_bool
import PyProof.FString5
import PyProof.StrLawsIn
import PyProof.IsiHeapPairs
import PyProof.Rows.TupMore
import PyProof.Rows.TupAssign
import PyProof.RulesDelMore
import PyProof.DelItemList
import PyProof.GenQ
import PyProof.JoinWalk
import PyProof.StrCalls6
import PyProof.GenArm
import PyProof.CodeObjX
import PyProof.StrLawsFirst
import PyProof.PureStr
import PySem.Challenge.RW_ik0158_01
set_option autoImplicit false
set_option maxRecDepth 100000
set_option Elab.async false
set_option bootstrap.genMatcherCode false
set_option genSizeOf false
set_option genSizeOfSpec false
set_option linter.all false
set_option tactic.hygienic false
set_option maxHeartbeats 2000000
namespace Mine.Internal
section
theorem o_a {A0:Prop}{Z:Prop}{G:Prop}(h:A0/\Z) (k:A0->Z->G):G:=let ⟨w,z⟩:=h;k w z
theorem o_e.{u0}{α0:Sort u0}{Z:α0->Prop}{G:Prop}(h:∃ x0,Z x0) (k:∀ x0,Z x0->G):G:=let ⟨w,z⟩:=h;k w z
theorem M4 {A0:Prop}{A1:Prop}{Z:Prop}{G:Prop}(h:A0/\A1/\Z) (k:A0->A1->Z->G):G:=o_a h fun w20 z=>o_a z (k w20)
theorem y5.{u0}{α0:Sort u0}{A0:Prop}{Z:α0->Prop}{G:Prop}(h:A0/\∃ x0,Z x0) (k:A0->∀ x0,Z x0->G):G:=o_a h fun w20 z=>o_e z (k w20)
theorem c9.{u0}{α0:Sort u0}{A0:α0->Prop}{Z:α0->Prop}{G:Prop}(h:∃ x0,A0 x0/\Z x0) (k:∀ x0,A0 x0->Z x0->G):G:=o_e h fun w20 z=>o_a z (k w20)
theorem X9.{u0,u1}{α0:Sort u0}{α1:Sort u1}{Z:α0->α1->Prop}{G:Prop}(h:∃ x0,∃ x1,Z x0 x1) (k:∀ x0,∀ x1,Z x0 x1->G):G:=o_e h fun w20 z=>o_e z (k w20)
theorem U0 {A0:Prop}{A1:Prop}{A2:Prop}{Z:Prop}{G:Prop}(h:A0/\A1/\A2/\Z) (k:A0->A1->A2->Z->G):G:=M4 h fun w30 w31 z=>o_a z (k w30 w31)
theorem D9.{u0}{α0:Sort u0}{A0:Prop}{A1:α0->Prop}{Z:α0->Prop}{G:Prop}(h:A0/\∃ x0,A1 x0/\Z x0) (k:A0->∀ x0,A1 x0->Z x0->G):G:=y5 h fun w30 w31 z=>o_a z (k w30 w31)
theorem u9.{u0}{α0:Sort u0}{A0:α0->Prop}{A1:α0->Prop}{Z:α0->Prop}{G:Prop}(h:∃ x0,A0 x0/\A1 x0/\Z x0) (k:∀ x0,A0 x0->A1 x0->Z x0->G):G:=c9 h fun w30 w31 z=>o_a z (k w30 w31)
theorem I9.{u0,u1}{α0:Sort u0}{α1:Sort u1}{A0:α0->α1->Prop}{Z:α0->α1->Prop}{G:Prop}(h:∃ x0,∃ x1,A0 x0 x1/\Z x0 x1) (k:∀ x0,∀ x1,A0 x0 x1->Z x0 x1->G):G:=X9 h fun w30 w31 z=>o_a z (k w30 w31)
theorem a4u.{u0,u1,u2}{α0:Sort u0}{α1:Sort u1}{α2:Sort u2}{Z:α0->α1->α2->Prop}{G:Prop}(h:∃ x0,∃ x1,∃ x2,Z x0 x1 x2) (k:∀ x0,∀ x1,∀ x2,Z x0 x1 x2->G):G:=X9 h fun w30 w31 z=>o_e z (k w30 w31)
theorem Q8 {A0:Prop}{A1:Prop}{A2:Prop}{A3:Prop}{Z:Prop}{G:Prop}(h:A0/\A1/\A2/\A3/\Z) (k:A0->A1->A2->A3->Z->G):G:=U0 h fun w40 w41 w42 z=>o_a z (k w40 w41 w42)
theorem o_aeaa.{u0}{α0:Sort u0}{A0:Prop}{A1:α0->Prop}{A2:α0->Prop}{Z:α0->Prop}{G:Prop}(h:A0/\∃ x0,A1 x0/\A2 x0/\Z x0) (k:A0->∀ x0,A1 x0->A2 x0->Z x0->G):G:=D9 h fun w40 w41 w42 z=>o_a z (k w40 w41 w42)
theorem G0.{u0,u1}{α0:Sort u0}{α1:Sort u1}{A0:Prop}{A1:α0->α1->Prop}{Z:α0->α1->Prop}{G:Prop}(h:A0/\∃ x0,∃ x1,A1 x0 x1/\Z x0 x1) (k:A0->∀ x0,∀ x1,A1 x0 x1->Z x0 x1->G):G:=y5 h fun w40 w41 z=>c9 z (k w40 w41)
theorem K8.{u0}{α0:Sort u0}{A0:α0->Prop}{A1:α0->Prop}{A2:α0->Prop}{Z:α0->Prop}{G:Prop}(h:∃ x0,A0 x0/\A1 x0/\A2 x0/\Z x0) (k:∀ x0,A0 x0->A1 x0->A2 x0->Z x0->G):G:=u9 h fun w40 w41 w42 z=>o_a z (k w40 w41 w42)
theorem d9.{u0,u1}{α0:Sort u0}{α1:Sort u1}{A0:α0->α1->Prop}{A1:α0->α1->Prop}{Z:α0->α1->Prop}{G:Prop}(h:∃ x0,∃ x1,A0 x0 x1/\A1 x0 x1/\Z x0 x1) (k:∀ x0,∀ x1,A0 x0 x1->A1 x0 x1->Z x0 x1->G):G:=I9 h fun w40 w41 w42 z=>o_a z (k w40 w41 w42)
theorem S0.{u0,u1,u2}{α0:Sort u0}{α1:Sort u1}{α2:Sort u2}{A0:α0->α1->α2->Prop}{Z:α0->α1->α2->Prop}{G:Prop}(h:∃ x0,∃ x1,∃ x2,A0 x0 x1 x2/\Z x0 x1 x2) (k:∀ x0,∀ x1,∀ x2,A0 x0 x1 x2->Z x0 x1 x2->G):G:=a4u h fun w40 w41 w42 z=>o_a z (k w40 w41 w42)
theorem I7.{u0,u1,u2,u3}{α0:Sort u0}{α1:Sort u1}{α2:Sort u2}{α3:Sort u3}{Z:α0->α1->α2->α3->Prop}{G:Prop}(h:∃ x0,∃ x1,∃ x2,∃ x3,Z x0 x1 x2 x3) (k:∀ x0,∀ x1,∀ x2,∀ x3,Z x0 x1 x2 x3->G):G:=a4u h fun w40 w41 w42 z=>o_e z (k w40 w41 w42)
theorem a9g {A0:Prop}{A1:Prop}{A2:Prop}{A3:Prop}{A4:Prop}{Z:Prop}{G:Prop}(h:A0/\A1/\A2/\A3/\A4/\Z) (k:A0->A1->A2->A3->A4->Z->G):G:=Q8 h fun w50 w51 w52 w53 z=>o_a z (k w50 w51 w52 w53)
theorem W9.{u0}{α0:Sort u0}{A0:Prop}{A1:Prop}{A2:α0->Prop}{A3:α0->Prop}{Z:α0->Prop}{G:Prop}(h:A0/\A1/\∃ x0,A2 x0/\A3 x0/\Z x0) (k:A0->A1->∀ x0,A2 x0->A3 x0->Z x0->G):G:=M4 h fun w50 w51 z=>u9 z (k w50 w51)
theorem q9.{u0,u1}{α0:Sort u0}{α1:Sort u1}{A0:Prop}{A1:α0->α1->Prop}{A2:α0->α1->Prop}{Z:α0->α1->Prop}{G:Prop}(h:A0/\∃ x0,∃ x1,A1 x0 x1/\A2 x0 x1/\Z x0 x1) (k:A0->∀ x0,∀ x1,A1 x0 x1->A2 x0 x1->Z x0 x1->G):G:=G0 h fun w50 w51 w52 w53 z=>o_a z (k w50 w51 w52 w53)
theorem a9k.{u0,u1,u2,u3}{α0:Sort u0}{α1:Sort u1}{α2:Sort u2}{α3:Sort u3}{A0:Prop}{Z:α0->α1->α2->α3->Prop}{G:Prop}(h:A0/\∃ x0,∃ x1,∃ x2,∃ x3,Z x0 x1 x2 x3) (k:A0->∀ x0,∀ x1,∀ x2,∀ x3,Z x0 x1 x2 x3->G):G:=y5 h fun w50 w51 z=>a4u z (k w50 w51)
theorem M6.{u0,u1}{α0:Sort u0}{α1:Sort u1}{A0:α0->α1->Prop}{A1:α0->α1->Prop}{A2:α0->α1->Prop}{Z:α0->α1->Prop}{G:Prop}(h:∃ x0,∃ x1,A0 x0 x1/\A1 x0 x1/\A2 x0 x1/\Z x0 x1) (k:∀ x0,∀ x1,A0 x0 x1->A1 x0 x1->A2 x0 x1->Z x0 x1->G):G:=d9 h fun w50 w51 w52 w53 z=>o_a z (k w50 w51 w52 w53)
theorem M8.{u0,u1,u2}{α0:Sort u0}{α1:Sort u1}{α2:Sort u2}{A0:α0->α1->α2->Prop}{A1:α0->α1->α2->Prop}{Z:α0->α1->α2->Prop}{G:Prop}(h:∃ x0,∃ x1,∃ x2,A0 x0 x1 x2/\A1 x0 x1 x2/\Z x0 x1 x2) (k:∀ x0,∀ x1,∀ x2,A0 x0 x1 x2->A1 x0 x1 x2->Z x0 x1 x2->G):G:=S0 h fun w50 w51 w52 w53 z=>o_a z (k w50 w51 w52 w53)
theorem J4.{u0,u1,u2,u3,u4}{α0:Sort u0}{α1:Sort u1}{α2:Sort u2}{α3:Sort u3}{α4:Sort u4}{Z:α0->α1->α2->α3->α4->Prop}{G:Prop}(h:∃ x0,∃ x1,∃ x2,∃ x3,∃ x4,Z x0 x1 x2 x3 x4) (k:∀ x0,∀ x1,∀ x2,∀ x3,∀ x4,Z x0 x1 x2 x3 x4->G):G:=I7 h fun w50 w51 w52 w53 z=>o_e z (k w50 w51 w52 w53)
theorem E8 {A0:Prop}{A1:Prop}{A2:Prop}{A3:Prop}{A4:Prop}{A5:Prop}{Z:Prop}{G:Prop}(h:A0/\A1/\A2/\A3/\A4/\A5/\Z) (k:A0->A1->A2->A3->A4->A5->Z->G):G:=a9g h fun w60 w61 w62 w63 w64 z=>o_a z (k w60 w61 w62 w63 w64)
theorem Z7.{u0}{α0:Sort u0}{A0:α0->Prop}{A1:α0->Prop}{A2:α0->Prop}{A3:α0->Prop}{A4:α0->Prop}{Z:α0->Prop}{G:Prop}(h:∃ x0,A0 x0/\A1 x0/\A2 x0/\A3 x0/\A4 x0/\Z x0) (k:∀ x0,A0 x0->A1 x0->A2 x0->A3 x0->A4 x0->Z x0->G):G:=K8 h fun w60 w61 w62 w63 z=>M4 z (k w60 w61 w62 w63)
theorem H9.{u0,u1}{α0:Sort u0}{α1:Sort u1}{A0:α0->α1->Prop}{A1:α0->α1->Prop}{A2:α0->α1->Prop}{A3:α0->α1->Prop}{Z:α0->α1->Prop}{G:Prop}(h:∃ x0,∃ x1,A0 x0 x1/\A1 x0 x1/\A2 x0 x1/\A3 x0 x1/\Z x0 x1) (k:∀ x0,∀ x1,A0 x0 x1->A1 x0 x1->A2 x0 x1->A3 x0 x1->Z x0 x1->G):G:=M6 h fun w60 w61 w62 w63 w64 z=>o_a z (k w60 w61 w62 w63 w64)
theorem E4.{u0,u1,u2}{α0:Sort u0}{α1:Sort u1}{α2:Sort u2}{A0:α0->α1->α2->Prop}{A1:α0->α1->α2->Prop}{A2:α0->α1->α2->Prop}{Z:α0->α1->α2->Prop}{G:Prop}(h:∃ x0,∃ x1,∃ x2,A0 x0 x1 x2/\A1 x0 x1 x2/\A2 x0 x1 x2/\Z x0 x1 x2) (k:∀ x0,∀ x1,∀ x2,A0 x0 x1 x2->A1 x0 x1 x2->A2 x0 x1 x2->Z x0 x1 x2->G):G:=M8 h fun w60 w61 w62 w63 w64 z=>o_a z (k w60 w61 w62 w63 w64)
theorem y1.{u0,u1,u2,u3}{α0:Sort u0}{α1:Sort u1}{α2:Sort u2}{α3:Sort u3}{A0:α0->α1->α2->α3->Prop}{A1:α0->α1->α2->α3->Prop}{A2:α0->α1->α2->α3->Prop}{Z:α0->α1->α2->α3->Prop}{G:Prop}(h:∃ x0,∃ x1,∃ x2,∃ x3,A0 x0 x1 x2 x3/\A1 x0 x1 x2 x3/\A2 x0 x1 x2 x3/\Z x0 x1 x2 x3) (k:∀ x0,∀ x1,∀ x2,∀ x3,A0 x0 x1 x2 x3->A1 x0 x1 x2 x3->A2 x0 x1 x2 x3->Z x0 x1 x2 x3->G):G:=I7 h fun w70 w71 w72 w73 z=>U0 z (k w70 w71 w72 w73)
theorem G1.{u0,u1,u2}{α0:Sort u0}{α1:Sort u1}{α2:Sort u2}{A0:α0->α1->α2->Prop}{A1:α0->α1->α2->Prop}{A2:α0->α1->α2->Prop}{A3:α0->α1->α2->Prop}{A4:α0->α1->α2->Prop}{Z:α0->α1->α2->Prop}{G:Prop}(h:∃ x0,∃ x1,∃ x2,A0 x0 x1 x2/\A1 x0 x1 x2/\A2 x0 x1 x2/\A3 x0 x1 x2/\A4 x0 x1 x2/\Z x0 x1 x2) (k:∀ x0,∀ x1,∀ x2,A0 x0 x1 x2->A1 x0 x1 x2->A2 x0 x1 x2->A3 x0 x1 x2->A4 x0 x1 x2->Z x0 x1 x2->G):G:=E4 h fun w80 w81 w82 w83 w84 w85 z=>M4 z (k w80 w81 w82 w83 w84 w85)
theorem y3.{u0,u1,u2,u3}{α0:Sort u0}{α1:Sort u1}{α2:Sort u2}{α3:Sort u3}{A0:Prop}{A1:α0->α1->α2->α3->Prop}{A2:α0->α1->α2->α3->Prop}{A3:α0->α1->α2->α3->Prop}{A4:α0->α1->α2->α3->Prop}{Z:α0->α1->α2->α3->Prop}{G:Prop}(h:A0/\∃ x0,∃ x1,∃ x2,∃ x3,A1 x0 x1 x2 x3/\A2 x0 x1 x2 x3/\A3 x0 x1 x2 x3/\A4 x0 x1 x2 x3/\Z x0 x1 x2 x3) (k:A0->∀ x0,∀ x1,∀ x2,∀ x3,A1 x0 x1 x2 x3->A2 x0 x1 x2 x3->A3 x0 x1 x2 x3->A4 x0 x1 x2 x3->Z x0 x1 x2 x3->G):G:=a9k h fun w90 w91 w92 w93 w94 z=>Q8 z (k w90 w91 w92 w93 w94)
theorem N2.{u0,u1,u2,u3}{α0:Sort u0}{α1:Sort u1}{α2:Sort u2}{α3:Sort u3}{A0:α0->α1->α2->α3->Prop}{A1:α0->α1->α2->α3->Prop}{A2:α0->α1->α2->α3->Prop}{A3:α0->α1->α2->α3->Prop}{A4:α0->α1->α2->α3->Prop}{Z:α0->α1->α2->α3->Prop}{G:Prop}(h:∃ x0,∃ x1,∃ x2,∃ x3,A0 x0 x1 x2 x3/\A1 x0 x1 x2 x3/\A2 x0 x1 x2 x3/\A3 x0 x1 x2 x3/\A4 x0 x1 x2 x3/\Z x0 x1 x2 x3) (k:∀ x0,∀ x1,∀ x2,∀ x3,A0 x0 x1 x2 x3->A1 x0 x1 x2 x3->A2 x0 x1 x2 x3->A3 x0 x1 x2 x3->A4 x0 x1 x2 x3->Z x0 x1 x2 x3->G):G:=y1 h fun w90 w91 w92 w93 w94 w95 w96 z=>M4 z (k w90 w91 w92 w93 w94 w95 w96)
theorem c7 {α:Type}{a:α}{G:Prop}(h:none=some a):G:=nomatch h
theorem B5 {α:Type}{a:α}{G:Prop}(h:some a=none):G:=nomatch h
theorem B2 {G:Prop}(h:true=false):G:=nomatch h
theorem j0 {G:Prop}(h:false=true):G:=nomatch h
@[elab_as_elim] theorem rr.{u}{α:Sort u}{a b:α}{P:α->Prop}(h:a=b) (p:P b):P a:=h▸p
@[elab_as_elim] theorem rl.{u}{α:Sort u}{a b:α}{P:α->Prop}(h:b=a) (p:P b):P a:=h▸p
@[elab_as_elim] theorem ie.{u}{α:Sort u}{c:Prop}[d:Decidable c] {x a b:α}{P:α->Prop}(e:@ite α c d a b=x) (h1:c->P a) (h2:¬c->P b):P x:=e▸(if h:c then (if_pos h).symm▸h1 h else (if_neg h).symm▸h2 h)
theorem j1.{u0}{α0:Sort u0}{A0:α0->Prop}{Z:α0->Prop}(x0:α0) (h1:A0 x0) (h2:Z x0):∃ x0,A0 x0/\Z x0:=⟨x0,h1,h2⟩
theorem A8 {A0:Prop}{A1:Prop}{Z:Prop}(h0:A0) (h1:A1) (h2:Z):A0/\A1/\Z:=⟨h0,h1,h2⟩
theorem y7.{u0}{α0:Sort u0}{A0:α0->Prop}{A1:α0->Prop}{Z:α0->Prop}(x0:α0) (h1:A0 x0) (h2:A1 x0) (h3:Z x0):∃ x0,A0 x0/\A1 x0/\Z x0:=⟨x0,h1,h2,h3⟩
theorem M9.{u0,u1}{α0:Sort u0}{α1:Sort u1}{A0:α0->α1->Prop}{Z:α0->α1->Prop}(x0:α0) (x1:α1) (h2:A0 x0 x1) (h3:Z x0 x1):∃ x0,∃ x1,A0 x0 x1/\Z x0 x1:=⟨x0,x1,h2,h3⟩
theorem j7.{u0,u1}{α0:Sort u0}{α1:Sort u1}{A0:α0->α1->Prop}{A1:α0->α1->Prop}{Z:α0->α1->Prop}(x0:α0) (x1:α1) (h2:A0 x0 x1) (h3:A1 x0 x1) (h4:Z x0 x1):∃ x0,∃ x1,A0 x0 x1/\A1 x0 x1/\Z x0 x1:=⟨x0,x1,h2,h3,h4⟩
theorem Q5 {A0:Prop}{A1:Prop}{A2:Prop}{Z:Prop}(h0:A0) (h1:A1) (h2:A2) (h3:Z):A0/\A1/\A2/\Z:=⟨h0,h1,h2,h3⟩
theorem a2t.{u0}{α0:Sort u0}{A0:α0->Prop}{A1:α0->Prop}{A2:α0->Prop}{Z:α0->Prop}(x0:α0) (h1:A0 x0) (h2:A1 x0) (h3:A2 x0) (h4:Z x0):∃ x0,A0 x0/\A1 x0/\A2 x0/\Z x0:=⟨x0,h1,h2,h3,h4⟩
theorem a86.{u0,u1}{α0:Sort u0}{α1:Sort u1}{Z:α0->α1->Prop}(x0:α0) (x1:α1) (h2:Z x0 x1):∃ x0,∃ x1,Z x0 x1:=⟨x0,x1,h2⟩
theorem c21.{u0,u1,u2}{α0:Sort u0}{α1:Sort u1}{α2:Sort u2}{Z:α0->α1->α2->Prop}(x0:α0) (x1:α1) (x2:α2) (h3:Z x0 x1 x2):∃ x0,∃ x1,∃ x2,Z x0 x1 x2:=⟨x0,x1,x2,h3⟩
theorem I5.{u0,u1,u2}{α0:Sort u0}{α1:Sort u1}{α2:Sort u2}{A0:α0->α1->α2->Prop}{Z:α0->α1->α2->Prop}(x0:α0) (x1:α1) (x2:α2) (h3:A0 x0 x1 x2) (h4:Z x0 x1 x2):∃ x0,∃ x1,∃ x2,A0 x0 x1 x2/\Z x0 x1 x2:=⟨x0,x1,x2,h3,h4⟩
theorem X8.{u0}{α0:Sort u0}{A0:Prop}{A1:α0->Prop}{Z:α0->Prop}(h0:A0) (x0:α0) (h2:A1 x0) (h3:Z x0):A0/\∃ x0,A1 x0/\Z x0:=⟨h0,x0,h2,h3⟩
theorem Y7.{u0}{α0:Sort u0}{A0:Prop}{Z:α0->Prop}(h0:A0) (x0:α0) (h2:Z x0):A0/\∃ x0,Z x0:=⟨h0,x0,h2⟩
theorem M7.{u0,u1}{α0:Sort u0}{α1:Sort u1}{A0:α0->α1->Prop}{A1:α0->α1->Prop}{A2:α0->α1->Prop}{Z:α0->α1->Prop}(x0:α0) (x1:α1) (h2:A0 x0 x1) (h3:A1 x0 x1) (h4:A2 x0 x1) (h5:Z x0 x1):∃ x0,∃ x1,A0 x0 x1/\A1 x0 x1/\A2 x0 x1/\Z x0 x1:=⟨x0,x1,h2,h3,h4,h5⟩
theorem N6.{u0}{α0:Sort u0}{A0:α0->Prop}{A1:α0->Prop}{A2:α0->Prop}{A3:α0->Prop}{Z:α0->Prop}(x0:α0) (h1:A0 x0) (h2:A1 x0) (h3:A2 x0) (h4:A3 x0) (h5:Z x0):∃ x0,A0 x0/\A1 x0/\A2 x0/\A3 x0/\Z x0:=⟨x0,h1,h2,h3,h4,h5⟩
theorem U4 {A0:Prop}{A1:Prop}{A2:Prop}{A3:Prop}{Z:Prop}(h0:A0) (h1:A1) (h2:A2) (h3:A3) (h4:Z):A0/\A1/\A2/\A3/\Z:=⟨h0,h1,h2,h3,h4⟩
theorem b5x.{u0,u1,u2}{α0:Sort u0}{α1:Sort u1}{α2:Sort u2}{A0:α0->α1->α2->Prop}{A1:α0->α1->α2->Prop}{Z:α0->α1->α2->Prop}(x0:α0) (x1:α1) (x2:α2) (h3:A0 x0 x1 x2) (h4:A1 x0 x1 x2) (h5:Z x0 x1 x2):∃ x0,∃ x1,∃ x2,A0 x0 x1 x2/\A1 x0 x1 x2/\Z x0 x1 x2:=⟨x0,x1,x2,h3,h4,h5⟩
theorem Z4.{u0,u1,u2}{α0:Sort u0}{α1:Sort u1}{α2:Sort u2}{A0:α0->α1->α2->Prop}{A1:α0->α1->α2->Prop}{A2:α0->α1->α2->Prop}{Z:α0->α1->α2->Prop}(x0:α0) (x1:α1) (x2:α2) (h3:A0 x0 x1 x2) (h4:A1 x0 x1 x2) (h5:A2 x0 x1 x2) (h6:Z x0 x1 x2):∃ x0,∃ x1,∃ x2,A0 x0 x1 x2/\A1 x0 x1 x2/\A2 x0 x1 x2/\Z x0 x1 x2:=⟨x0,x1,x2,h3,h4,h5,h6⟩
theorem u5.{u0,u1}{α0:Sort u0}{α1:Sort u1}{A0:Prop}{A1:α0->α1->Prop}{Z:α0->α1->Prop}(h0:A0) (x0:α0) (x1:α1) (h3:A1 x0 x1) (h4:Z x0 x1):A0/\∃ x0,∃ x1,A1 x0 x1/\Z x0 x1:=⟨h0,x0,x1,h3,h4⟩
theorem D4.{u0,u1,u2,u3}{α0:Sort u0}{α1:Sort u1}{α2:Sort u2}{α3:Sort u3}{Z:α0->α1->α2->α3->Prop}(x0:α0) (x1:α1) (x2:α2) (x3:α3) (h4:Z x0 x1 x2 x3):∃ x0,∃ x1,∃ x2,∃ x3,Z x0 x1 x2 x3:=⟨x0,x1,x2,x3,h4⟩
theorem W7.{u0,u1,u2}{α0:Sort u0}{α1:Sort u1}{α2:Sort u2}{A0:α0->α1->α2->Prop}{A1:α0->α1->α2->Prop}{A2:α0->α1->α2->Prop}{A3:α0->α1->α2->Prop}{Z:α0->α1->α2->Prop}(x0:α0) (x1:α1) (x2:α2) (h3:A0 x0 x1 x2) (h4:A1 x0 x1 x2) (h5:A2 x0 x1 x2) (h6:A3 x0 x1 x2) (h7:Z x0 x1 x2):∃ x0,∃ x1,∃ x2,A0 x0 x1 x2/\A1 x0 x1 x2/\A2 x0 x1 x2/\A3 x0 x1 x2/\Z x0 x1 x2:=⟨x0,x1,x2,h3,h4,h5,h6,h7⟩
theorem a3a.{u0,u1,u2,u3}{α0:Sort u0}{α1:Sort u1}{α2:Sort u2}{α3:Sort u3}{A0:α0->α1->α2->α3->Prop}{A1:α0->α1->α2->α3->Prop}{Z:α0->α1->α2->α3->Prop}(x0:α0) (x1:α1) (x2:α2) (x3:α3) (h4:A0 x0 x1 x2 x3) (h5:A1 x0 x1 x2 x3) (h6:Z x0 x1 x2 x3):∃ x0,∃ x1,∃ x2,∃ x3,A0 x0 x1 x2 x3/\A1 x0 x1 x2 x3/\Z x0 x1 x2 x3:=⟨x0,x1,x2,x3,h4,h5,h6⟩
theorem C6.{u0,u1,u2,u3}{α0:Sort u0}{α1:Sort u1}{α2:Sort u2}{α3:Sort u3}{A0:α0->α1->α2->α3->Prop}{A1:α0->α1->α2->α3->Prop}{A2:α0->α1->α2->α3->Prop}{Z:α0->α1->α2->α3->Prop}(x0:α0) (x1:α1) (x2:α2) (x3:α3) (h4:A0 x0 x1 x2 x3) (h5:A1 x0 x1 x2 x3) (h6:A2 x0 x1 x2 x3) (h7:Z x0 x1 x2 x3):∃ x0,∃ x1,∃ x2,∃ x3,A0 x0 x1 x2 x3/\A1 x0 x1 x2 x3/\A2 x0 x1 x2 x3/\Z x0 x1 x2 x3:=⟨x0,x1,x2,x3,h4,h5,h6,h7⟩
theorem I0.{u0,u1}{α0:Sort u0}{α1:Sort u1}{A0:α0->α1->Prop}{A1:α0->α1->Prop}{A2:α0->α1->Prop}{A3:α0->α1->Prop}{Z:α0->α1->Prop}(x0:α0) (x1:α1) (h2:A0 x0 x1) (h3:A1 x0 x1) (h4:A2 x0 x1) (h5:A3 x0 x1) (h6:Z x0 x1):∃ x0,∃ x1,A0 x0 x1/\A1 x0 x1/\A2 x0 x1/\A3 x0 x1/\Z x0 x1:=⟨x0,x1,h2,h3,h4,h5,h6⟩
theorem Y1.{u0,u1,u2}{α0:Sort u0}{α1:Sort u1}{α2:Sort u2}{A0:α0->α1->α2->Prop}{A1:α0->α1->α2->Prop}{A2:α0->α1->α2->Prop}{A3:α0->α1->α2->Prop}{A4:α0->α1->α2->Prop}{Z:α0->α1->α2->Prop}(x0:α0) (x1:α1) (x2:α2) (h3:A0 x0 x1 x2) (h4:A1 x0 x1 x2) (h5:A2 x0 x1 x2) (h6:A3 x0 x1 x2) (h7:A4 x0 x1 x2) (h8:Z x0 x1 x2):∃ x0,∃ x1,∃ x2,A0 x0 x1 x2/\A1 x0 x1 x2/\A2 x0 x1 x2/\A3 x0 x1 x2/\A4 x0 x1 x2/\Z x0 x1 x2:=⟨x0,x1,x2,h3,h4,h5,h6,h7,h8⟩
theorem a1b.{u0,u1,u2,u3}{α0:Sort u0}{α1:Sort u1}{α2:Sort u2}{α3:Sort u3}{A0:α0->α1->α2->α3->Prop}{A1:α0->α1->α2->α3->Prop}{A2:α0->α1->α2->α3->Prop}{A3:α0->α1->α2->α3->Prop}{A4:α0->α1->α2->α3->Prop}{Z:α0->α1->α2->α3->Prop}(x0:α0) (x1:α1) (x2:α2) (x3:α3) (h4:A0 x0 x1 x2 x3) (h5:A1 x0 x1 x2 x3) (h6:A2 x0 x1 x2 x3) (h7:A3 x0 x1 x2 x3) (h8:A4 x0 x1 x2 x3) (h9:Z x0 x1 x2 x3):∃ x0,∃ x1,∃ x2,∃ x3,A0 x0 x1 x2 x3/\A1 x0 x1 x2 x3/\A2 x0 x1 x2 x3/\A3 x0 x1 x2 x3/\A4 x0 x1 x2 x3/\Z x0 x1 x2 x3:=⟨x0,x1,x2,x3,h4,h5,h6,h7,h8,h9⟩
theorem a80.{u0,u1,u2,u3}{α0:Sort u0}{α1:Sort u1}{α2:Sort u2}{α3:Sort u3}{A0:α0->α1->α2->α3->Prop}{A1:α0->α1->α2->α3->Prop}{A2:α0->α1->α2->α3->Prop}{A3:α0->α1->α2->α3->Prop}{Z:α0->α1->α2->α3->Prop}(x0:α0) (x1:α1) (x2:α2) (x3:α3) (h4:A0 x0 x1 x2 x3) (h5:A1 x0 x1 x2 x3) (h6:A2 x0 x1 x2 x3) (h7:A3 x0 x1 x2 x3) (h8:Z x0 x1 x2 x3):∃ x0,∃ x1,∃ x2,∃ x3,A0 x0 x1 x2 x3/\A1 x0 x1 x2 x3/\A2 x0 x1 x2 x3/\A3 x0 x1 x2 x3/\Z x0 x1 x2 x3:=⟨x0,x1,x2,x3,h4,h5,h6,h7,h8⟩
theorem i_aeaa.{u0}{α0:Sort u0}{A0:Prop}{A1:α0->Prop}{A2:α0->Prop}{Z:α0->Prop}(h0:A0) (x0:α0) (h2:A1 x0) (h3:A2 x0) (h4:Z x0):A0/\∃ x0,A1 x0/\A2 x0/\Z x0:=⟨h0,x0,h2,h3,h4⟩
theorem i_eaea.{u0,u1}{α0:Sort u0}{α1:Sort u1}{A0:α0->Prop}{A1:α0->α1->Prop}{Z:α0->α1->Prop}(x0:α0) (h1:A0 x0) (x1:α1) (h3:A1 x0 x1) (h4:Z x0 x1):∃ x0,A0 x0/\∃ x1,A1 x0 x1/\Z x0 x1:=⟨x0,h1,x1,h3,h4⟩
theorem b40.{u0}{α0:Sort u0}{A0:Prop}{A1:Prop}{A2:α0->Prop}{Z:α0->Prop}(h0:A0) (h1:A1) (x0:α0) (h3:A2 x0) (h4:Z x0):A0/\A1/\∃ x0,A2 x0/\Z x0:=⟨h0,h1,x0,h3,h4⟩
theorem c6 {l r L R:Nat}(S:L<=R) (v:l+R<=r+L):l<=r:=Nat.le_of_add_le_add_right (Nat.le_trans v (Nat.add_le_add_left S r))
theorem ad {a b c d:Nat}(h:a<=b) (k:c<=d):a+c<=b+d:=Nat.add_le_add h k
theorem lq {a b:Nat}(h:a=b):a<=b:=Nat.le_of_eq h
theorem nb {a:Int}(h:a.natAbs<2 ^ 62):-2 ^ 62<a/\a<2 ^ 62:=⟨Int.neg_lt_of_neg_lt (Int.lt_of_le_of_lt (Int.natAbs_neg a▸Int.le_natAbs) (Int.ofNat_lt.mpr h)),Int.lt_of_le_of_lt Int.le_natAbs (Int.ofNat_lt.mpr h)⟩
theorem ar0 {a b:Nat}(h1:a+1<b+1):a<b:=Nat.lt_of_succ_lt_succ h1
theorem ar1 {a b c:Nat}(h1:a<=b) (h2:b<=c):a<=c:=Nat.le_trans h1 h2
theorem ar2 {a:Nat}:((a+1):Int)=((a:Int)+(1:Int)):=rfl
theorem ar4 {a b:Nat}(h1:a+(b+1)<=1000):(a+1)+b<=1000:=c6 h1 (by simp +arith)
theorem ar5 {a b:Nat}(h1:¬a<=b):b<=a:=Nat.le_of_not_le h1
theorem ar7 {a b:Nat}(h1:a+1<b):b=(b-1)+1:=(Nat.succ_pred_eq_of_pos (Nat.lt_of_le_of_lt (Nat.zero_le _) h1)).symm
theorem ar8 {a b:Nat}(h1:a<b):b=(b-1)+1:=(Nat.succ_pred_eq_of_pos (Nat.lt_of_le_of_lt (Nat.zero_le _) h1)).symm
theorem ar9 {a b:Nat}(h1:a<b):a<=b:=Nat.le_of_lt h1
theorem c3p {a b:Nat}:(((a:Int)+(1:Int))+(b:Int))=((a:Int)+((b:Int)+(1:Int))):=congrArg Int.ofNat (Nat.le_antisymm (by simp +arith) (by simp +arith):((a+1)+b)=(a+(b+1)))
theorem c2q {a b c:Nat}(h1:a+(b+1)<=1000) (h2:c=16777216):a<c:=c6 (ad h1 (lq h2.symm)) (by simp +arith)
theorem c12 {a b c:Nat}(h1:a=b+(c+1)):b<a:=by simp_all
theorem b6g {a b:Nat}(h1:a=16777216) (h2:b<=a):(b:Int)<(9223372036854775808:Int):=Int.ofNat_lt.mpr ((c6 (ad (lq h1) h2) (by simp +arith)):b<9223372036854775808)
theorem c0l {a b:Nat}(h1:a+1=b):a<b:=lq h1
theorem c09 {a b c:Nat}(h1:a=b) (h2:b<=c):a<=c:=by subst h1;exact h2
theorem c0v {a b c:Nat}(h1:a+(b+1)<=200) (h2:c=16777216):a<c:=c6 (ad h1 (lq h2.symm)) (by simp +arith)
theorem c4a {a b c d:Nat}(h1:a+1<=b+1) (h2:c+d=a):d<=b:=c6 (ad h1 (lq h2)) (by simp +arith)
theorem c37 {a:Nat}(h1:a<=0):a=0:=Nat.eq_zero_of_le_zero h1
theorem c1c {a b c:Nat}(h1:a=16777216) (h2:b=c) (h3:c<=a):(b:Int)<(9223372036854775808:Int):=Int.ofNat_lt.mpr ((c6 (ad (ad (lq h1) (lq h2)) h3) (by simp +arith)):b<9223372036854775808)
theorem c1k {a b:Nat}(h1:a=16777216) (h2:b<=a):b<=1099511627776:=by subst h1;exact Nat.le_trans h2 (by decide)
theorem c0k {a b c:Nat}(h1:a=16777216) (h2:b=c) (h3:c<=1000):b<=a:=c6 (ad (ad (lq h1.symm) (lq h2)) h3) (by simp +arith)
theorem c0o {a b c d:Nat}(h1:a=16777216) (h2:b=c) (h3:c=d) (h4:d<=1000):b<=a:=c6 (ad (ad (ad (lq h1.symm) (lq h2)) (lq h3)) h4) (by simp +arith)
theorem c3u {a:Nat}:¬a+1=0:=Nat.ne_of_gt (Nat.lt_succ_of_le (Nat.le_add_left 0 a))
theorem c2k {a b:Nat}(h1:a<b):a+1<=b:=by assumption
theorem c4o {a b c:Nat}(h1:a<b) (h2:c=a):c<b:=by subst h2;exact h1
theorem c4k {a b c:Nat}(h1:a=b) (h2:b=c):a=c:=by subst h2;exact h1
theorem c0g {a b c:Nat}(h1:a+(b+1)<=c):(a+1)+b<=c:=c6 h1 (by simp +arith)
theorem c1l {a b c:Nat}(h1:a+(b+1)<=c):a<c:=c6 h1 (by simp +arith)
theorem c54 {a b:Nat}(h1:¬a<=b):min a b=b:=Nat.min_eq_right (Nat.le_of_not_le h1)
theorem c4u {a b c:Nat}(h1:a+(2*((b+1)+1))<=1000) (h2:c=16777216):a<c:=c6 (ad h1 (lq h2.symm)) (by simp +arith)
theorem c57 {a:Nat}:¬((a:Int)+(1:Int))=(0:Int):=fun h=>Nat.ne_of_gt ((by simp +arith):0<(a+1)) (Int.ofNat.inj h)
theorem c4v {a b c:Nat}(h1:a<b) (h2:c=a):c<=b:=c6 (ad h1 (lq h2)) (by simp +arith)
theorem c1o {a:Nat}(h1:a<256):a<=1000:=c6 h1 (by simp +arith)
theorem b9x {a b c:Nat}(h1:a+(b+1)=c):a<c:=c6 (lq h1) (by simp +arith)
theorem b9g {a:Nat}:(0:Int)<=(a:Int):=by simp_all
theorem b7v {a b c:Nat}(h1:a<=6*b) (h2:c<=6):c+a<=6*(b+1):=c6 (ad h1 h2) (by simp +arith)
theorem c5q {a b c:Nat}(h1:¬(a+1)+b<=c):(((c:Int)-(a:Int))-(1:Int))<(b:Int):=by rw[Int.sub_sub];exact Int.sub_left_lt_of_lt_add (Int.ofNat_lt.mpr (Nat.lt_of_not_le h1))
theorem c4m {a b c:Nat}(h1:(a+1)+b<=c):(b:Int)<=(((c:Int)-(a:Int))-(1:Int)):=Int.le_sub_right_of_add_le (Int.le_sub_right_of_add_le (Int.ofNat_le.mpr (c6 h1 (by simp +arith):b+1+a<=c)))
theorem c50 {a:Nat}(h1:a=16777216):0<a:=by simp_all
theorem b28 {a:Nat}(h1:a<=100):a<=200:=Nat.le_trans h1 (Nat.le_add_left 100 100)
theorem c5p {a:Nat}{b:Int}(h1:¬((a:Int)+b)<(0:Int)) (h2:¬(0:Int)<=b):((0:Int)<=((a:Int)+b)/\((a:Int)+b)<(a:Int)):=by lia
theorem c34 {b:Nat}{a:Int}(h1:(0:Int)<=a) (h2:Int.toNat a<b):((0:Int)<=a/\a<(b:Int)):=by simp_all
theorem b7u {a b c d e:Nat}(h1:a+b<=c) (h2:d=a) (h3:e=b):d+e<=c:=by simp_all
theorem c5t {a:Nat}(h1:a=16777216):0+((((((0+1)+1)+1)+1)+1)+1)<=a:=by subst_vars;decide
theorem c29 {a:Nat}(h1:a=16777216):100*100<=a:=by subst_vars;decide
theorem c4l {a b c:Nat}(h1:a=b+((c+1)+1)):¬((b:Int)+(1:Int))=(a:Int):=fun h=>Nat.ne_of_lt ((c6 (lq h1.symm) (by simp +arith)):(b+1)<a) (Int.ofNat.inj h)
theorem c56 {a:Nat}(h1:a=16777216):0+((((0+1)+1)+1)+1)<=a:=by subst_vars;decide
theorem c2r {a b:Nat}(h1:a=16777216) (h2:b<=100000):b<=a:=by subst h1;exact Nat.le_trans h2 (by decide)
theorem c2b {a b c d e:Nat}(h1:a+b=c) (h2:c<=100) (h3:d<=(100*b)+(7*b)) (h4:e<=100*a):e+d<=100000:=c6 (ad h4 (ad h3 (ad (Nat.mul_le_mul_left 100 (show a<=100 from c6 (ad (lq h1) h2) (by simp +arith))) (Nat.mul_le_mul_left 107 (show b<=100 from c6 (ad (lq h1) h2) (by simp +arith)))))) (by simp +arith)
theorem b3e {a b:Nat}(h1:¬a<b):b<=a:=Nat.le_of_not_lt h1
theorem c5r {a b:Nat}(h1:a+(b+1)<1000):(a+1)+b<1000:=c6 h1 (by simp +arith)
theorem c4z {a b:Nat}(h1:(a+(8*b))+100<9900):a+64<9900:=c6 h1 (by simp +arith)
theorem c3o {a b:Nat}(h1:a+b<1000):a<1000:=c6 h1 (by simp +arith)
theorem c3c {b:Nat}{a:Int}(h1:((0:Int)<=(a+(b:Int))/\(a+(b:Int))<(b:Int))):(-(b:Int))<=a:=Int.neg_le_of_neg_le (Int.le_of_sub_nonneg (by rw[Int.sub_neg];exact Int.add_comm a b▸h1.1))
theorem c23 {a b c:Nat}(h1:min (a-b) (c-b)=c) (h2:¬c=0):b=0:=Nat.eq_zero_of_not_pos fun hb=>absurd (Nat.le_trans (lq h1.symm) (Nat.min_le_right _ _)) (Nat.not_le_of_lt (Nat.sub_lt (Nat.pos_of_ne_zero h2) hb))
theorem c4d {a b c d e:Nat}(h1:a<=(b+c)+d):(e+c)+a<=(e+c)+((b+c)+d):=c6 h1 (by simp +arith)
theorem b85 {a b c d:Nat}:((a+b)+c)+d=a+((b+c)+d):=by simp +arith
theorem b7y {a:Int}(h1:¬(0:Int)<a):a<=(0:Int):=Int.not_lt.mp h1
theorem b90 {a:Int}(h1:¬(0:Int)<a):Int.toNat a=0:=by simp_all
theorem b8k {a:Int}(h1:(0:Int)<a):Int.toNat a=((Int.toNat (a-(1:Int)))+1):=by cases a with | ofNat n=>(cases n with | zero=>exact absurd h1 (by decide) | succ n=>exact congrArg (· + 1) (congrArg Int.toNat (Int.add_sub_cancel (n:Int) 1)).symm) | negSucc n=>exact absurd h1 (Int.not_lt.mpr (Int.le_of_lt (Int.negSucc_lt_zero n)))
theorem b8h {a b:Nat}(h1:a=16777216) (h2:b<=1000):b<=a:=by subst h1;exact Nat.le_trans h2 (by decide)
theorem c1s {a:Nat}(h1:a=16777216):1<=a:=by subst_vars;decide
theorem b8r {a b:Nat}(h1:a<=1000):a-(b+1)<=1000:=Nat.le_trans (Nat.sub_le _ _) h1
theorem b98 {a b c:Nat}(h1:a+(b+1)=c):(a+1)+b=c:=Nat.le_antisymm (c6 (lq h1) (by simp +arith)) (c6 (lq h1.symm) (by simp +arith))
theorem c3z {a b c d:Nat}(h1:a+(b+1)=c) (h2:d=min a c):d=a:=by subst h1;lia
theorem b9a {a b c:Nat}(h1:a-b=c+1):a-(b+1)=c:=by rw[Nat.sub_add_eq,h1,Nat.add_sub_cancel]
theorem c2m {a b:Nat}(h1:a=16777216) (h2:b<=63):b<=a:=by subst h1;exact Nat.le_trans h2 (by decide)
theorem a6a {a b c:Nat}(h1:a=b+(c+1)) (h2:a<=100):(Int.natAbs (b:Int))<2 ^ 62:=Nat.lt_of_le_of_lt (m:=100) (show b<=100 from c6 (ad (lq h1.symm) h2) (by simp +arith)) (by decide)
theorem a4b {a:Int}(h1:Int.natAbs a<2 ^ 62):a<((2:Int) ^ 63):=Int.lt_trans (nb h1).2 (by decide)
theorem a4j {a:Int}(h1:Int.natAbs a<2 ^ 62):(-((2:Int) ^ 63))<=a:=Int.le_of_lt (Int.lt_trans (by decide) (nb h1).1)
theorem b93 {a:Int}(h1:Int.natAbs a<2 ^ 62):(a+((1:Int)-(1:Int)))<((2:Int) ^ 63):=(Int.add_zero a).symm▸(Int.lt_trans (nb h1).2 (by decide))
theorem b8c {a:Int}(h1:Int.natAbs a<2 ^ 62):(-((2:Int) ^ 63))<=(a+((1:Int)-(1:Int))):=(Int.add_zero a).symm▸Int.le_of_lt (Int.lt_trans (by decide) (nb h1).1)
theorem b2f {a:Int}(h1:(-((2:Int) ^ 63))<=a) (h2:a<((2:Int) ^ 63)):((-(9223372036854775808:Int))<=a/\a<(9223372036854775808:Int)):=by simp_all
theorem c3g {a b c:Nat}(h1:a=b+((c+1)+1)) (h2:a<=100):(Int.natAbs ((b:Int)+(1:Int)))<2 ^ 62:=Nat.lt_of_le_of_lt (m:=100) (show b+1<=100 from c6 (ad (lq h1.symm) h2) (by simp +arith)) (by decide)
theorem b8u {a b c:Nat}(h1:a<=(2*b)) (h2:b<=c) (h3:c<=100):a<=300:=c6 (ad (ad (ad (ad h1 h2) h2) h3) h3) (by simp +arith)
theorem b87 {a b c d:Nat}(h1:(a+b)<c) (h2:c<d):(a+b)<d:=Nat.lt_trans h1 h2
theorem b8o {a b:Nat}:a<=(a+b):=(by simp +arith)
theorem b8n {a b c:Nat}(h1:a=16777216) (h2:b<=100):b<=(a+c):=c6 (ad (lq h1.symm) h2) (by simp +arith)
theorem c4g {a:Nat}:(Int.toNat (max (0:Int) (min ((-(1:Int))+(((a:Int)+(1:Int))+(1:Int))) (((a:Int)+(1:Int))+(1:Int)))))=(a+1):=by rw[Int.add_comm (-1) _,Int.add_neg_cancel_right,Int.min_eq_left (Int.le_add_of_nonneg_right (by decide)),Int.max_eq_right (show 0<=(a:Int)+1 from Int.natCast_nonneg (a+1))];rfl
theorem c47 {a:Nat}(h1:(1<=a/\a<=51)):¬((((a:Int)+(1:Int))+(1:Int))=(2:Int)):=fun h=>Nat.ne_of_gt ((c6 h1.1 (by simp +arith)):2<((a+1)+1)) (Int.ofNat.inj h)
theorem c4h {a:Nat}:¬((((a:Int)+(1:Int))+(1:Int))=(1:Int)):=fun h=>Nat.ne_of_gt ((by simp +arith):1<((a+1)+1)) (Int.ofNat.inj h)
theorem c22 {a b:Nat}:(((a+b):Nat):Int)=((a:Int)+(b:Int)):=rfl
theorem b7w {a b:Nat}:(((a:Int)+(b:Int))+(1:Int))=((a:Int)+((b:Int)+(1:Int))):=rfl
theorem c5b {a b c d:Nat}(h1:a=(b+((c+1)+(1+d)))) (h2:a<=200):(Int.natAbs (b:Int))<(2 ^ 62):=Nat.lt_of_le_of_lt (m:=200) (Nat.le_trans (Nat.le_trans (Nat.le_add_right b _) (lq h1.symm)) h2) (by decide)
theorem c1w {a b c d:Nat}(h1:a=(b+((c+2)+(1+d)))) (h2:a<=200):(Int.natAbs (b:Int))<(2 ^ 62):=Nat.lt_of_le_of_lt (m:=200) (Nat.le_trans (Nat.le_trans (Nat.le_add_right b _) (lq h1.symm)) h2) (by decide)
theorem c2s {a b:Nat}(h1:((a+(8*b))+100)<9900):(a+65)<9900:=c6 h1 (by simp +arith)
theorem c45:(Int.natAbs (-(1:Int)))<1073741824:=by subst_vars;decide
theorem c35:¬((3:Int)<(0:Int)):=by subst_vars;decide
theorem c58:¬((1:Int)<(0:Int)):=by subst_vars;decide
theorem c4p {a b c:Nat}(h1:a<b) (h2:c<=a):(c<=b/\¬((b-c)=0)):=⟨Nat.le_of_lt (Nat.lt_of_le_of_lt h2 h1),Nat.sub_ne_zero_of_lt (Nat.lt_of_le_of_lt h2 h1)⟩
theorem a1e {a:Int}(h1:(0:Int)<=a) (h2:a<((10:Int) ^ 9)):(Int.natAbs a)<(2 ^ 62):=Int.ofNat_lt.mp (show ((Int.natAbs a:Nat):Int)<((2 ^ 62:Nat):Int) from Int.lt_of_le_of_lt (Int.le_of_eq (Int.natAbs_of_nonneg h1)) (Int.lt_trans h2 (by decide)))
theorem a4i {a b c d:Nat}(h1:a=(b+(c+d))) (h2:a<=200):(Int.natAbs (b:Int))<(2 ^ 62):=Nat.lt_of_le_of_lt (m:=200) (Nat.le_trans (Nat.le_trans (Nat.le_add_right b _) (lq h1.symm)) h2) (by decide)
theorem a68 {a b:Nat}(h1:a=16777216) (h2:b<=2):b<=a:=by subst h1;exact Nat.le_trans h2 (by decide)
theorem a7p {a:Nat}(h1:a<256):((0:Int)<=(a:Int)/\(a:Int)<=(1114111:Int)):=⟨Int.natCast_nonneg a,Int.ofNat_le.mpr (Nat.le_trans (Nat.le_of_lt h1) (by decide))⟩
theorem a73 {a b:Nat}(h1:a=16777216) (h2:b<=200):b<a:=by subst h1;exact Nat.lt_of_le_of_lt h2 (by decide)
theorem a9o {a b:Nat}(h1:a<b) (h2:b<=2):(Int.natAbs (a:Int))<(2 ^ 62):=Nat.lt_of_le_of_lt (m:=2) (Nat.le_trans (Nat.le_of_lt h1) h2) (by decide)
theorem a97:1<=8:=(by simp +arith)
theorem b46 {a:Int}(h1:(0:Int)<a):(0:Int)<=a:=Int.le_of_lt h1
theorem b3t {a:Int}(h1:((0:Int)<=a/\a<(16:Int))):(Int.natAbs a)<(2 ^ 62):=Int.ofNat_lt.mp (show ((Int.natAbs a:Nat):Int)<((2 ^ 62:Nat):Int) from Int.lt_of_le_of_lt (Int.le_of_eq (Int.natAbs_of_nonneg h1.1)) (Int.lt_trans h1.2 (by decide)))
theorem b1z {a b:Nat}(h1:a=16777216) (h2:b<=999):(1+(b+1))<=a:=c6 (ad (lq h1.symm) h2) (by simp +arith)
theorem b4q {a b:Nat}(h1:a=16777216) (h2:b<=100):(b+1)<=a:=by subst h1;exact Nat.lt_of_le_of_lt h2 (by decide)
theorem b4z {a:Nat}(h1:a=16777216):2<=a:=by subst_vars;decide
theorem b82 {a b:Nat}(h1:(a+(b+1))<=30):((a+1)+b)<=30:=c6 h1 (by simp +arith)
theorem b7p {a b:Nat}(h1:(a+(b+1))<=30):(a+b)<=30:=Nat.le_of_lt h1
theorem b8p {a b c:Nat}(h1:(a+(b+1))<=30) (h2:c=16777216):a<c:=c6 (ad h1 (lq h2.symm)) (by simp +arith)
theorem b8a {a:Nat}(h1:a<=20):a<=35:=Nat.le_trans h1 (by decide)
theorem b7x {a b c d:Nat}(h1:1<=a) (h2:b=(c+(a+d))):c<b:=c6 (ad h1 (lq h2.symm)) (by simp +arith)
theorem b7z {a:Nat}(h1:a<=50):a<=200:=Nat.le_trans h1 (by decide)
theorem b7r {a b:Nat}(h1:a<b) (h2:b<=300):(Int.natAbs (a:Int))<(2 ^ 62):=Nat.lt_of_le_of_lt (m:=300) (Nat.le_trans (Nat.le_of_lt h1) h2) (by decide)
theorem b81 {a:Nat}(h1:a<=10):(Int.natAbs (a:Int))<(2 ^ 62):=Nat.lt_of_le_of_lt h1 (by decide)
theorem b8t {a:Int}(h1:(0:Int)<=a):a=(((Int.toNat a):Nat):Int):=(Int.toNat_of_nonneg h1).symm
theorem b80 {a:Nat}:¬(a=(a+1)):=Nat.ne_of_lt ((by simp +arith):a<(a+1))
theorem b86 {a:Nat}(h1:0<a):¬(a=0):=Nat.ne_of_gt h1
theorem b8e {a b:Nat}(h1:a=16777216) (h2:b<=999):(((b+1)+1)+1)<=a:=c6 (ad (lq h1.symm) h2) (by simp +arith)
theorem b8d {a b c d e:Nat}(h1:a=(b+(c+(d+(3+e))))) (h2:a<=200):(Int.natAbs (((b+1):Nat):Int))<(2 ^ 62):=Nat.lt_of_le_of_lt (m:=200) (show b+1<=200 from c6 (ad h2 (lq h1.symm)) (by simp +arith)) (by decide)
theorem b94 {a b:Nat}(h1:(a+(b+1))<=200):a<=200:=Nat.le_trans (Nat.le_add_right _ _) h1
theorem b8v {a b:Nat}(h1:a<b):(b-a)=((b-(a+1))+1):=(Nat.sub_add_cancel (Nat.sub_pos_of_lt h1)).symm
theorem b8z {a:Nat}(h1:a<=2):a<=50:=Nat.le_trans h1 (by decide)
theorem b99 {a:Nat}(h1:a<=6):a<=50:=Nat.le_trans h1 (by decide)
theorem b8x {a:Nat}(h1:a<=36):a<=100:=Nat.le_trans h1 (by decide)
theorem b8i {a b:Nat}(h1:a=16777216) (h2:b<=72):(4+b)<=a:=c6 (ad (lq h1.symm) h2) (by simp +arith)
theorem b88 {a:Nat}(h1:a<=2):a<=10:=Nat.le_trans h1 (by decide)
theorem b97 {a:Nat}(h1:a<=200):a<=1000:=Nat.le_trans h1 (by decide)
theorem b8b {a:Nat}(h1:a<=2):(Int.natAbs (a:Int))<(2 ^ 62):=Nat.lt_of_le_of_lt h1 (by decide)
theorem b7t:2<=8:=(by simp +arith)
theorem c24 {a:Nat}:(Int.toNat (max (0:Int) (min ((-(3:Int))+((a:Int)+(3:Int))) ((a:Int)+(3:Int)))))=a:=by rw[Int.add_comm (-3) _,Int.add_neg_cancel_right,Int.min_eq_left (Int.le_add_of_nonneg_right (by decide)),Int.max_eq_right (Int.natCast_nonneg a)];rfl
theorem c4n {a b c:Nat}(h1:a<b) (h2:c=b):a<c:=by subst h2;exact h1
theorem c5h {a b:Nat}(h1:a<=1000):(Int.natAbs (((a-(b+1)):Nat):Int))<(2 ^ 62):=Nat.lt_of_le_of_lt (m:=1000) (show a-(b+1)<=1000 from Nat.le_trans (Nat.sub_le _ _) h1) (by decide)
theorem c38 {a b:Nat}(h1:a=16777216) (h2:b<=255):b<=a:=by subst h1;exact Nat.le_trans h2 (by decide)
theorem c25 {a:Int}(h1:((0:Int)<=a/\a<(6:Int))) (h2:a<(3:Int)) (h3:¬(a=(0:Int))):(a=(1:Int)\/a=(2:Int)):=(Int.lt_or_eq_of_le (show 1<=a from (Int.lt_or_eq_of_le h1.1).elim id fun h=>absurd h.symm h3)).elim (fun h=>.inr (Int.le_antisymm (Int.le_of_lt_add_one h2) h)) fun h=>.inl h.symm
theorem c1u {a:Nat}(h1:a<=100):(a+((a+1)*2))<=16777216:=c6 (ad (ad h1 h1) h1) (by simp +arith)
theorem c59 {a:Nat}(h1:a<=10):(a+((a+1)*2))<=16777216:=c6 (ad (ad h1 h1) h1) (by simp +arith)
theorem c5n {a b c d:Nat}(h1:a=(b+((c+2)+d))) (h2:a<=200):(Int.natAbs (b:Int))<(2 ^ 62):=Nat.lt_of_le_of_lt (m:=200) (Nat.le_trans (Nat.le_trans (Nat.le_add_right b _) (lq h1.symm)) h2) (by decide)
theorem c1x {a b c:Nat}(h1:a=(b+(1+c))) (h2:a<=200):(Int.natAbs (b:Int))<(2 ^ 62):=Nat.lt_of_le_of_lt (m:=200) (Nat.le_trans (Nat.le_trans (Nat.le_add_right b _) (lq h1.symm)) h2) (by decide)
theorem c5m {a b:Nat}(h1:a=16777216) (h2:b<=1):(b+0)<=a:=by subst h1;exact Nat.le_trans h2 (by decide)
theorem c2c {a:Nat}(h1:a=16777216):1<a:=by subst_vars;decide
theorem c3a {a b c d:Nat}(h1:((a+b)+1)=c) (h2:d=((a+b)+3)):d=(c+2):=by subst h1;exact h2
theorem c3r {a b c d:Nat}(h1:a=(b+(c+(3+d)))) (h2:a<=200):(Int.natAbs (b:Int))<(2 ^ 62):=Nat.lt_of_le_of_lt (m:=200) (Nat.le_trans (Nat.le_trans (Nat.le_add_right b _) (lq h1.symm)) h2) (by decide)
theorem c51 {a b c d e:Nat}(h1:a=(b+(c+(d+(3+e))))) (h2:a<=200):(Int.natAbs ((((b+1):Nat):Int)+(1:Int)))<(2 ^ 62):=Nat.lt_of_le_of_lt (m:=200) (show b+1+1<=200 from c6 (ad h2 (lq h1.symm)) (by simp +arith)) (by decide)
theorem c2j {a b c d:Nat}(h1:a=(b+(c+d))) (h2:a<=100):(Int.natAbs (b:Int))<(2 ^ 62):=Nat.lt_of_le_of_lt (m:=100) (Nat.le_trans (Nat.le_trans (Nat.le_add_right b _) (lq h1.symm)) h2) (by decide)
theorem b8q {a b:Int}(h1:(Int.natAbs a)<(2 ^ 62)) (h2:(Int.natAbs b)<(2 ^ 62)):(((Int.toNat (a-b)):Nat):Int)<((2:Int) ^ 63):=show ((Int.toNat (a-b):Nat):Int)<((2 ^ 63:Nat):Int) from Int.ofNat_lt.mpr (Nat.lt_of_le_of_lt (Nat.le_trans (Int.toNat_le.mpr Int.le_natAbs) (Int.natAbs_sub_le a b)) (Nat.lt_of_lt_of_eq (Nat.add_lt_add h1 h2) (by decide)))
theorem b8g {a b:Int}:(-((2:Int) ^ 63))<=(((Int.toNat (a-b)):Nat):Int):=Int.le_trans (by decide) (Int.natCast_nonneg _)
theorem c5k {a b c d:Nat}(h1:((a+1)+b)=c) (h2:((a+1)+b)<=d):c<=d:=by subst h1;exact h2
theorem c4y {a b:Nat}(h1:a=b) (h2:b<=4):a<=4:=by subst h1;exact h2
theorem c3s {a b:Nat}(h1:a=16777216) (h2:b<=4):b<=a:=by subst h1;exact Nat.le_trans h2 (by decide)
theorem c30 {a:Nat}(h1:a<=14):(8<=(a+(8-a))/\(a+(8-a))<=14):=⟨Nat.sub_le_iff_le_add'.mp (Nat.le_refl _),(Nat.le_total a 8).elim (fun h=>Nat.le_trans (lq (Nat.add_sub_cancel' h)) (by decide)) fun h=>Nat.le_trans (lq (congrArg (a + ·) (Nat.sub_eq_zero_of_le h))) h1⟩
theorem c3w {a b:Nat}(h1:a=16777216) (h2:b<=14):b<=a:=by subst h1;exact Nat.le_trans h2 (by decide)
theorem c4e {a b:Nat}(h1:a=16777216) (h2:b<=12):b<=a:=by subst h1;exact Nat.le_trans h2 (by decide)
theorem c2e {a b c:Nat}(h1:a<=(3*b)) (h2:c<=2):((c+1)+a)<=(3*(b+1)):=c6 (ad h1 h2) (by simp +arith)
theorem c49 {a b:Nat}(h1:a=16777216) (h2:b<=6):b<=a:=by subst h1;exact Nat.le_trans h2 (by decide)
theorem c1q {a b:Nat}(h1:a=16777216) (h2:b<=36):(b+1)<=a:=by subst h1;exact Nat.lt_of_le_of_lt h2 (by decide)
theorem c2l {a b:Nat}(h1:a=16777216) (h2:b<=72):b<=a:=by subst h1;exact Nat.le_trans h2 (by decide)
theorem c3f {a b:Nat}:(Int.toNat ((a:Int)+(b:Int)))=(a+b):=rfl
theorem c2f {a b:Nat}:(0:Int)<=((a:Int)+(b:Int)):=Int.ofNat_le.mpr ((by simp +arith):0<=(a+b))
theorem c5f {a:Nat}(h1:a<=200):(Int.natAbs ((a:Int)+(1:Int)))<(2 ^ 62):=Nat.lt_of_le_of_lt (m:=201) (show a+1<=201 from Nat.succ_le_succ h1) (by decide)
theorem c55 {a:Nat}(h1:a=2):1<=a:=by subst_vars;decide
theorem c43 {a b c d:Nat}(h1:((a+b)+c)=d) (h2:0<c):¬((((a+b):Nat):Int)=(d:Int)):=fun h=>Nat.ne_of_lt ((c6 (ad (lq h1) h2) (by simp +arith)):(a+b)<d) (Int.ofNat.inj h)
theorem c2n {a b c:Nat}:(min (a:Int) ((b:Int)+(c:Int)))=(((min a (b+c)):Nat):Int):=(Nat.le_total a (b+c)).elim (fun h=>(Int.min_eq_left (Int.ofNat_le.mpr h)).trans (congrArg Int.ofNat (Nat.min_eq_left h).symm)) fun h=>(Int.min_eq_right (Int.ofNat_le.mpr h)).trans (congrArg Int.ofNat (Nat.min_eq_right h).symm)
end
open PySem PySem.Spec PySem.Calls PySem.W
section
inductive ItK where
 | list (l:Addr) (i:Nat)
 | range (x left:Int)
 | str (ty:String) (x:Str) (t:Tok) (i:Nat)
 | rangd (x left:Int)
 | byt (b:Array UInt8) (t:Tok) (i:Nat)
noncomputable def ItK.Holds (h:Heap) (a:Addr):ItK->Prop
 | .list l i=>h.IsListIter a l i
 | .range x left=>IsRangeIter h a x left 1
 | .str ty x t i=>h.IsStrIter a ty x t i
 | .rangd x left=>IsRangeIter h a x left (-1)
 | .byt b t i=>KBw.IsBytesIter h a b t i
inductive OM where
 | it (k:ItK)
 | fz (o:Obj)
 | lst (vs:List Value)
 | hid (vs:List Value)
 | ns (m:Str->Option Value)
 | cell (v:Option Value)
 | tab (qs:List (Pos×Str)) (ps:Array Value)
 | ex (o:Obj)
noncomputable def OM.Holds (h:Heap) (a:Addr):OM->Prop
 | .fz o=>h.get? a=some o
 | .lst vs=>∃ n,h.get? a=some { cls:=.type "list",data:=.seq vs.toArray n }
 | .hid vs=>∃ n,h.get? a=some { cls:=.type "list",data:=.seq vs.toArray n }
 | .ns m=>h.Ns a m
 | .cell v=>h.IsCell a v
 | .tab _ ps=>h.get? a=some { cls:=.none,data:=.fields ps }
 | .ex o=>h.get? a=some o
 | .it k=>k.Holds h a
noncomputable def OM.fixed:OM->Bool
 | .fz _=>true
 | .tab _ _=>true
 | _=>false
noncomputable def OM.isTab:OM->Bool
 | .tab _ _=>true
 | _=>false
noncomputable abbrev Own:=Addr->Option OM
noncomputable def Own.set (ω:Own) (a:Addr) (o:OM):Own:=fun b=>if b=a then some o else ω b
noncomputable def Own.del (ω:Own) (a:Addr):Own:=fun b=>if b=a then none else ω b
theorem Own.set_self (ω:Own) (a:Addr) (o:OM):ω.set a o a=some o:=by simp[Own.set]
theorem Own.set_ne (ω:Own){a b:Addr}(o:OM) (h:b≠a):ω.set a o b=ω b:=by simp[Own.set,h]
theorem ItK.Holds.obj {h:Heap}{a:Addr}{k:ItK}(x:k.Holds h a):∃ o,h.get? a=some o/\∀ h':Heap,h'.get? a=some o->k.Holds h' a:=by
 induction k using ItK.casesOn with
 | list l i=>refine c9 x fun o ho r=>?_;exact(j1 o ho (fun h' e=>(j1 o e r)))
 | range y left=>exact(j1 _ x (fun h' e=>e))
 | str ty y t i=>refine c9 x fun o ho r=>?_;exact(j1 o ho (fun h' e=>(j1 o e r)))
 | rangd y left=>exact(j1 _ x (fun h' e=>e))
 | byt b t i=>refine c9 x fun o ho r=>?_;exact(j1 o ho (fun h' e=>(j1 o e r)))
theorem OM.Holds.lt {h:Heap}{a:Addr}{o:OM}(x:o.Holds h a):a<h.objs.size:=by
 induction o using OM.casesOn with
 | fz o=>exact Heap.lt_size x
 | lst vs=>obtain⟨n,ho⟩:=x;exact Heap.lt_size ho
 | hid vs=>obtain⟨n,ho⟩:=x;exact Heap.lt_size ho
 | ns m=>exact Heap.Ns.lt x
 | cell v=>refine c9 x fun o ho _=>?_;exact Heap.lt_size ho
 | tab qs ps=>exact Heap.lt_size x
 | ex o=>exact Heap.lt_size x
 | it k=>refine c9 (ItK.Holds.obj x) fun o ho _=>?_;exact Heap.lt_size ho
theorem OM.Holds.keep {h h':Heap}{a:Addr}{o:OM}(x:o.Holds h a) (k:∀ ob,h.get? a=some ob->h'.get? a=some ob):o.Holds h' a:=by
 induction o using OM.casesOn with
 | fz o=>exact k _ x
 | lst vs=>obtain⟨n,ho⟩:=x;exact⟨n,k _ ho⟩
 | hid vs=>obtain⟨n,ho⟩:=x;exact⟨n,k _ ho⟩
 | ns m=>refine S0 x fun o es ep ho r=>?_;exact(I5 o es ep (k _ ho) r)
 | cell v=>refine c9 x fun o ho r=>?_;exact(j1 o (k _ ho) r)
 | tab qs ps=>exact k _ x
 | ex o=>exact k _ x
 | it k'=>refine c9 (ItK.Holds.obj x) fun o ho f=>?_;exact f h' (k _ ho)
noncomputable def CodeOk (ω:Own) (cv:Value) (qual:Str):Prop:=∃ c oc vs t,cv=.ref c/\ω c=some (.fz oc)/\oc.data=.fields vs/\vs[1]? = some (.str qual t)
noncomputable def TabGood (ω:Own) (qs:List (Pos×Str)) (ps:Array Value):Prop:=TriplesOk ps.toList/\∀ q∈qs,codeAmong q.1 ps.toList=none\/∃ cv,codeAmong q.1 ps.toList=some cv/\CodeOk ω cv q.2
noncomputable def LeF (ω ω':Own):Prop:=∀ a o,ω a=some (.fz o)->ω' a=some (.fz o)
theorem CodeOk.monoF {ω ω':Own}(x:LeF ω ω'){cv:Value}{q:Str}(h:CodeOk ω cv q):CodeOk ω' cv q:=by
 (refine I7 h fun c oc vs t z1=>?_;refine M4 z1 fun h1 h2 h3=>?_);exact(a3a c oc vs t h1 (x _ _ h2) h3)
theorem TabGood.monoF {ω ω':Own}(x:LeF ω ω'){qs:List (Pos×Str)}{ps:Array Value}(h:TabGood ω qs ps):TabGood ω' qs ps:=
 ⟨h.1,fun q hq=>(h.2 q hq).imp id fun ⟨cv,a,b⟩=>(j1 cv a (b.monoF x))⟩
theorem LeF.set' {ω:Own}{a:Addr}(m:OM) (hs:∀ o,ω a≠some (.fz o)):LeF ω (ω.set a m):=fun b o e=>by
 by_cases q:b=a
 · subst q;exact absurd e (hs o)
 · refine rr (Own.set_ne _ _ q) ?_;exact e
theorem LeF.del' {ω:Own}{a:Addr}(hs:∀ o,ω a≠some (.fz o)):LeF ω (ω.del a):=fun b o e=>by
 by_cases q:b=a
 · subst q;exact absurd e (hs o)
 · simp[Own.del,q,e]
noncomputable abbrev TQ:=List (Addr×List (Pos×Str))
noncomputable def Z0 (ω:Own) (x:Addr×List (Pos×Str)):Prop:=∃ ps,ω x.1=some (.tab x.2 ps)
structure MS (B0:Heap) (os:OsState) (ω:Own) (gs:TQ) (s:Shared):Prop where
 hold:∀ a o,ω a=some o->o.Holds s.heap a
 old:OldK B0 s.heap
 lo:∀ a o,ω a=some o->o.fixed=false->B0.objs.size<=a
 gens:PyProof.Rows.AllBare s.gens
 os:s.os=os
 last:∃ b o,B0.get? b=some o/\b+1=B0.objs.size
 tabs:∀ P qs ps,ω P=some (.tab qs ps)->TabGood ω qs ps
 tq:∀ x∈gs,Z0 ω x
section
variable {B0:Heap}{os:OsState}{ω:Own}{gs:TQ}{s:Shared}
theorem MS.top (S:MS B0 os ω gs s){b:Addr}{o:Obj}(e:B0.get? b=some o) (hc:o.cls≠.none):s.heap.get? b=some o:=S.old.get_of_cls e hc
theorem MS.size (S:MS B0 os ω gs s):B0.objs.size<=s.heap.objs.size:=by
 refine I9 S.last fun b o h1 h2=>?_
 refine o_e (S.old.there b o h1) fun o' h3=>?_
 refine h2▸?_
 exact Heap.lt_size h3
theorem MS.toks (S:MS B0 os ω gs s) (t:Nat):MS B0 os ω gs { s with toks:=t }:=⟨S.hold,S.old,S.lo,S.gens,S.os,S.last,S.tabs,S.tq⟩
theorem MS.tabs_set (S:MS B0 os ω gs s){a:Addr}{m:OM}(hs:∀ o,ω a≠some (.fz o)) (hm:m.isTab=false):∀ P qs ps,(ω.set a m) P=some (.tab qs ps)->TabGood (ω.set a m) qs ps:=fun P qs ps e=>by
 unfold Own.set at e
 (revert e;refine ie rfl (fun _ e=>?_) fun _ e=>?_)
 · (replace e:=Option.some.inj e;subst e);exact B2 hm
 · exact(S.tabs P qs ps e).monoF (LeF.set' m hs)
theorem MS.tabs_del (S:MS B0 os ω gs s){a:Addr}(hs:∀ o,ω a≠some (.fz o)):∀ P qs ps,(ω.del a) P=some (.tab qs ps)->TabGood (ω.del a) qs ps:=fun P qs ps e=>by
 unfold Own.del at e
 (revert e;refine ie rfl (fun _ e=>?_) fun _ e=>?_)
 · exact c7 e
 · exact(S.tabs P qs ps e).monoF (LeF.del' hs)
theorem b2d {a:Addr}{m₀:OM}(e₀:ω a=some m₀) (hf:m₀.fixed=false):∀ o,ω a≠some (.fz o):=fun o q=>by rw[e₀] at q;(replace q:=Option.some.inj q;clear e₀;subst q);exact B2 hf
theorem MS.tq_set (S:MS B0 os ω gs s){a:Addr}(m:OM) (hs:∀ qs ps,ω a≠some (.tab qs ps)):∀ x∈gs,Z0 (ω.set a m) x:=fun x hx=>by
 refine o_e (S.tq x hx) fun ps e=>?_
 refine⟨ps,?_⟩
 rw[Own.set_ne _ _ (fun q=>hs _ _ (q▸e))];exact e
theorem MS.tq_del (S:MS B0 os ω gs s){a:Addr}(hs:∀ qs ps,ω a≠some (.tab qs ps)):∀ x∈gs,Z0 (ω.del a) x:=fun x hx=>by
 refine o_e (S.tq x hx) fun ps e=>?_
 refine⟨ps,?_⟩
 unfold Own.del;rw[if_neg (fun q=>hs _ _ (q▸e))];exact e
theorem a9j {a:Addr}{m₀:OM}(e₀:ω a=some m₀) (hf:m₀.fixed=false):∀ qs ps,ω a≠some (.tab qs ps):=fun o ps q=>by rw[e₀] at q;(replace q:=Option.some.inj q;clear e₀;subst q);exact B2 hf
theorem MS.unused (S:MS B0 os ω gs s):ω s.heap.objs.size=none:=by
 induction q:ω s.heap.objs.size with
 | none=>rfl
 | some o=>exact absurd (S.hold _ _ q).lt (Nat.lt_irrefl _)
theorem MS.push (S:MS B0 os ω gs s) (o:Obj){m:OM}(hm:m.Holds (s.heap.push o) s.heap.objs.size) (ht:m.isTab=false:=by rfl):MS B0 os (ω.set s.heap.objs.size m) gs { s with heap:=s.heap.push o }:=by
 refine⟨fun a om e=>?_,S.old.step_keeps fun _ _ e=>Heap.get?_push_of_some _ e,fun a om e hf=>?_,S.gens,S.os,S.last,S.tabs_set (fun o q=>by rw[S.unused] at q;exact c7 q) ht,S.tq_set _ (fun o ps q=>by rw[S.unused] at q;exact c7 q)⟩
 · unfold Own.set at e
   (revert e;refine ie rfl (fun _ e=>?_) fun _ e=>?_)
   · rename_i q;refine q▸?_;(replace e:=Option.some.inj e;subst e);exact hm
   · exact(S.hold a om e).keep fun _ x=>Heap.get?_push_of_some _ x
 · unfold Own.set at e
   (revert e;refine ie rfl (fun _ e=>?_) fun _ e=>?_)
   · rename_i q;subst q;exact S.size
   · exact S.lo a om e hf
theorem MS.same (S:MS B0 os ω gs s){a:Addr}{m₀ m:OM}{h':Heap}(e₀:ω a=some m₀) (hf:m₀.fixed=false) (hs:Heap.SameBut a s.heap h') (hm:m.Holds h' a) (t:Nat) (ht:m.isTab=false:=by rfl) :
 MS B0 os (ω.set a m) gs { s with heap:=h',toks:=t }:=by
 refine⟨fun b om e=>?_,S.old.step_same (S.lo a m₀ e₀ hf) hs,fun b om e hf'=>?_,S.gens,S.os,S.last,S.tabs_set (b2d e₀ hf) ht,S.tq_set _ (a9j e₀ hf)⟩
 · unfold Own.set at e
   (revert e;refine ie rfl (fun _ e=>?_) fun _ e=>?_)
   · rename_i q;refine q▸?_;refine Option.some.inj e▸?_;exact hm
   · rename_i q
     exact(S.hold b om e).keep fun _ x=>(hs.2 b q).trans x
 · unfold Own.set at e
   (revert e;refine ie rfl (fun _ e=>?_) fun _ e=>?_)
   · rename_i q;refine q▸?_;exact S.lo _ _ e₀ hf
   · exact S.lo b om e hf'
theorem b24 {h₀ h h':Heap}(K:OldK h₀ h){a:Addr}(ha:h₀.objs.size<=a) (hx:Heap.ExtBut a h h'):OldK h₀ h':=by
 have ne:∀ b o,h₀.get? b=some o->b≠a:=fun b o e=>Nat.ne_of_lt (Nat.lt_of_lt_of_le (Heap.lt_size e) ha)
 refine⟨fun b o e=>?_,fun b o e=>let ⟨o',ho'⟩:=K.there b o e;⟨o',hx b o' (ne b o e) ho'⟩⟩
 rcases K.old b o e with x | ⟨t,hc,vs,more,hv,x⟩ | ⟨rfl,hc,⟨o',es,n,ho',r⟩,z⟩
 · exact .inl (hx b _ (ne b o e) x)
 · exact .inr (.inl ⟨t,hc,vs,more,hv,hx b _ (ne b o e) x⟩)
 · exact .inr (.inr (Q5 rfl hc ((I5 o' es n ((hx _ _ (ne _ o e) ho')) r)) (fun key=>by refine(OldK.staticOf_congr ((hx _ _ (ne _ o e) ho').trans ho'.symm) key)▸?_;exact z key)))
theorem MS.ext (S:MS B0 os ω gs s){a:Addr}{m₀:OM}{h':Heap}(e₀:ω a=some m₀) (hf:m₀.fixed=false) (hx:Heap.ExtBut a s.heap h') (t:Nat) :
 MS B0 os (ω.del a) gs { s with heap:=h',toks:=t }:=by
 refine⟨fun b om e=>?_,b24 S.old (S.lo a m₀ e₀ hf) hx,fun b om e hf'=>?_,S.gens,S.os,S.last,S.tabs_del (b2d e₀ hf),S.tq_del (a9j e₀ hf)⟩
 · unfold Own.del at e
   (revert e;refine ie rfl (fun _ e=>?_) fun _ e=>?_)
   · exact c7 e
   · rename_i q
     exact(S.hold b om e).keep fun ob x=>hx b ob q x
 · unfold Own.del at e
   (revert e;refine ie rfl (fun _ e=>?_) fun _ e=>?_)
   · exact c7 e
   · exact S.lo b om e hf'
theorem MS.gone (S:MS B0 os ω gs s){a:Addr}{m₀:OM}{h':Heap}(e₀:ω a=some m₀) (hf:m₀.fixed=false) (hs:Heap.SameBut a s.heap h') :
 MS B0 os (ω.del a) gs { s with heap:=h' }:=S.ext e₀ hf (fun b o q e=>(hs.2 b q).trans e) s.toks
theorem MS.turn (S:MS B0 os ω gs s){a:Addr}{m₀ m:OM}(e₀:ω a=some m₀) (hf:m₀.fixed=false) (hm:m.Holds s.heap a) (ht:m.isTab=false:=by rfl):MS B0 os (ω.set a m) gs s:=
 S.same e₀ hf ⟨rfl,fun _ _=>rfl⟩ hm s.toks ht
theorem MS.keeps (S:MS B0 os ω gs s){h':Heap}(k:∀ b o,s.heap.get? b=some o->h'.get? b=some o) (t:Nat) :
 MS B0 os ω gs { s with heap:=h',toks:=t }:=
 ⟨fun a om e=>(S.hold a om e).keep fun _ x=>k _ _ x,S.old.step_keeps k,S.lo,S.gens,S.os,S.last,S.tabs,S.tq⟩
end
noncomputable def LeO:OM->Option OM->Prop
 | .lst _,r=>∃ vs,r=some (.lst vs)
 | .ex _,r=>∃ o,r=some (.ex o)
 | .tab qs ps,r=>∃ more,r=some (.tab qs (ps++more))
 | o,r=>r=some o
noncomputable def Le (ω ω':Own):Prop:=∀ a o,ω a=some o->LeO o (ω' a)
theorem LeO.refl (o:OM):LeO o (some o):=by
 cases o<;>first | rfl | exact⟨_,rfl⟩ | exact⟨#[],by rfl⟩
theorem Le.refl (ω:Own):Le ω ω:=fun a o e=>by refine rr e ?_;exact LeO.refl o
theorem Le.trans {ω₁ ω₂ ω₃:Own}(x:Le ω₁ ω₂) (y:Le ω₂ ω₃):Le ω₁ ω₃:=fun a o e=>by
 have z:=x a o e
 clear e;induction o using OM.casesOn with
 | it k=>exact y a _ z
 | hid vs=>exact y a _ z
 | lst vs=>refine o_e z fun vs' q=>?_;exact(y a _ q:∃ vs,_)
 | ex o=>refine o_e z fun o' q=>?_;exact(y a _ q:∃ vs,_)
 | tab qs ps=>refine o_e z fun m1 q=>?_;obtain⟨m2,q2⟩:=y a _ q;exact⟨m1++m2,by simp only[q2,Array.append_assoc]⟩
 | fz o=>exact y a _ z
 | ns m=>exact y a _ z
 | cell v=>exact y a _ z
noncomputable def OM.stay:OM->Bool
 | .fz _=>true
 | .ns _=>true
 | .cell _=>true
 | .tab _ _=>false
 | _=>false
noncomputable def LeW (ω ω':Own):Prop:=∀ a o,ω a=some o->o.stay=true->ω' a=some o
theorem Le.w {ω ω':Own}(x:Le ω ω'):LeW ω ω':=fun a o e h=>by
 cases o<;>first | exact x a _ e | exact Bool.noConfusion (show false=true from h)
theorem LeW.f {ω ω':Own}(x:LeW ω ω'):LeF ω ω':=fun a o e=>x a _ e rfl
theorem Le.f {ω ω':Own}(x:Le ω ω'):LeF ω ω':=x.w.f
theorem LeW.trans {ω₁ ω₂ ω₃:Own}(x:LeW ω₁ ω₂) (y:LeW ω₂ ω₃):LeW ω₁ ω₃:=fun a o e h=>y a o (x a o e h) h
theorem LeF.trans {ω₁ ω₂ ω₃:Own}(x:LeF ω₁ ω₂) (y:LeF ω₂ ω₃):LeF ω₁ ω₃:=fun a o e=>y a o (x a o e)
theorem LeW.set {ω:Own}{a:Addr}{m₀:OM}(m:OM) (h:ω a=some m₀) (hs:m₀.stay=false):LeW ω (ω.set a m):=fun b o e k=>by
 by_cases q:b=a
 · subst q;rw[h] at e;(replace e:=Option.some.inj e;subst e);rw[hs] at k;exact j0 k
 · refine rr (Own.set_ne _ _ q) ?_;exact e
theorem LeW.del {ω:Own}{a:Addr}{m₀:OM}(h:ω a=some m₀) (hs:m₀.stay=false):LeW ω (ω.del a):=fun b o e k=>by
 by_cases q:b=a
 · subst q;rw[h] at e;(replace e:=Option.some.inj e;subst e);rw[hs] at k;exact j0 k
 · simp[Own.del,q,e]
theorem LeF.set {ω:Own}{a:Addr}{m₀:OM}(m:OM) (h:ω a=some m₀) (hs:∀ o,m₀≠.fz o):LeF ω (ω.set a m):=fun b o e=>by
 by_cases q:b=a
 · subst q;rw[h] at e;(replace e:=Option.some.inj e;clear h;subst e);exact absurd rfl (hs o)
 · refine rr (Own.set_ne _ _ q) ?_;exact e
theorem LeF.del {ω:Own}{a:Addr}{m₀:OM}(h:ω a=some m₀) (hs:∀ o,m₀≠.fz o):LeF ω (ω.del a):=fun b o e=>by
 by_cases q:b=a
 · subst q;rw[h] at e;(replace e:=Option.some.inj e;clear h;subst e);exact absurd rfl (hs o)
 · simp[Own.del,q,e]
theorem Le.setNew {ω0 ω:Own}{a:Addr}(x:Le ω0 ω) (m:OM) (h:ω0 a=none):Le ω0 (ω.set a m):=fun b o e=>by
 by_cases q:b=a
 · subst q;rw[h] at e;exact c7 e
 · refine rr (Own.set_ne _ _ q) ?_;exact x b o e
theorem Le.delNew {ω0 ω:Own}{a:Addr}(x:Le ω0 ω) (h:ω0 a=none):Le ω0 (ω.del a):=fun b o e=>by
 by_cases q:b=a
 · subst q;simp only[h] at e;exact c7 e
 · have:ω.del a b=ω b:=by simp[Own.del,q]
   refine rr this ?_;exact x b o e
theorem Le.new {ω:Own}{a:Addr}(o:OM) (h:ω a=none):Le ω (ω.set a o):=fun b ob e=>by
 by_cases q:b=a
 · subst q;rw[h] at e;exact c7 e
 · rw[Own.set_ne _ _ q,e];exact LeO.refl _
theorem Le.lst {ω:Own}{a:Addr}{vs vs':List Value}(h:ω a=some (.lst vs)):Le ω (ω.set a (.lst vs')):=fun b ob e=>by
 by_cases q:b=a
 · subst q;rw[h] at e;(replace e:=Option.some.inj e;subst e);simp only[Own.set_self];exact⟨_,rfl⟩
 · rw[Own.set_ne _ _ q,e];exact LeO.refl _
inductive HV where
 | none
 | bool (b:Bool)
 | int (i:Int)
 | str (l:List Nat)
 | bytes (l:List UInt8)
 | list (xs:List HV)
 | tup (xs:List HV)
 | val (v:Value)
 | obj (a:Addr)
 | rng (lo hi:Int)
 | rngd (lo:Int)
 | mt (c:Nat)
 | bm (a:Addr)
 deriving Inhabited
mutual
noncomputable def Rd (ω:Own):HV->Value->Prop
 | .none,v=>v=.none
 | .bool b,v=>v=.bool b
 | .int i,v=>∃ t,v=.int i t
 | .str l,v=>l.length<=sizeLine/\∃ t,v=.str ⟨l.toArray⟩ t
 | .bytes l,v=>l.length<=sizeLine/\∃ t,v=.bytes ⟨l⟩ t
 | .list xs,v=>xs.length<=sizeLine/\∃ a o vs n,v=.ref a/\ω a=some (.fz o)/\o.cls=.type "list" /\ o.data=.seq (List.toArray vs) n/\RdL ω xs vs
 | .tup xs,v=>xs.length<=sizeLine/\∃ a o vs n,v=.ref a/\ω a=some (.fz o)/\o.cls=.type "tuple" /\ o.data=.seq (List.toArray vs) n/\RdL ω xs vs
 | .val w,v=>v=w
 | .obj a,v=>v=.ref a
 | .bm a,v=>∃ b,v=.ref b/\ω b=some (.fz { cls:=.type "builtin_function_or_method",data:=.fields #[.builtin "list.append",.ref a] })
 | .rng lo hi,v=>lo.natAbs<2 ^ 62/\hi.natAbs<2 ^ 62/\∃ a t u x,v=.ref a/\ω a=some (.fz { cls:=.type "range",data:=.fields #[.int lo t,.int hi u,.int 1 x] })
 | .rngd lo,v=>(0<=lo/\lo<2 ^ 62)/\∃ a t u x,v=.ref a/\ω a=some (.fz { cls:=.type "range",data:=.fields #[.int lo t,.int 0 u,.int (-1) x] })
 | .mt c,v=>∃ a t l tk pat lim,v=.ref a/\∃ r:Nat,ω a=some (.fz { cls:=.type "re.Match",data:=.fields #[.str ⟨l⟩ tk,pat,rawInt 0,lim,rawInt 1,.ref t] })/\ω t=some (.fz { cls:=.type "tuple",data:=.seq #[rawInt r,rawInt (r+1:Nat),rawInt r,rawInt (r+1:Nat)] })/\l[r]? = some c
noncomputable def RdL (ω:Own):List HV->List Value->Prop
 | [],vs=>vs=[]
 | x::xs,vs=>∃ v r,vs=v::r/\Rd ω x v/\RdL ω xs r
end
theorem Le.fz {ω ω':Own}(x:Le ω ω'){a:Addr}{o:Obj}(e:ω a=some (.fz o)):ω' a=some (.fz o):=x a _ e
mutual
theorem Rd.monoF {ω ω':Own}(x:LeF ω ω'):∀ {h:HV}{v:Value},Rd ω h v->Rd ω' h v
 | .none,_,r | .bool _,_,r | .int _,_,r | .str _,_,r | .bytes _,_,r | .val _,_,r | .obj _,_,r=>r
 | .list xs,v,r=>by
  refine y3 r fun hz a o vs n h1 h2 h3 h4 h5=>?_
  exact⟨hz,a,o,vs,n,h1,x _ _ h2,h3,h4,RdL.monoF x h5⟩
 | .tup xs,v,r=>by
  refine y3 r fun hz a o vs n h1 h2 h3 h4 h5=>?_
  exact⟨hz,a,o,vs,n,h1,x _ _ h2,h3,h4,RdL.monoF x h5⟩
 | .bm a,v,r=>by
  refine c9 r fun b h1 h2=>?_
  exact(j1 b h1 (x _ _ h2))
 | .rng lo hi,v,r=>by
  (refine M4 r fun z1 z2 z7=>?_;refine I7 z7 fun a t u y z8=>?_;refine o_a z8 fun h1 h2=>?_)
  exact(A8 z1 z2 (D4 a t u y ⟨h1,x _ _ h2⟩))
 | .rngd lo,v,r=>by
  refine o_a r fun z1 z7=>?_;refine I7 z7 fun a t u y z8=>?_;refine o_a z8 fun h1 h2=>?_
  exact⟨z1,a,t,u,y,h1,x _ _ h2⟩
 | .mt c,v,r=>by
  obtain⟨a,t,l,tk,pat,lim,rfl,k,h1,h2,h3⟩:=r
  exact⟨a,t,l,tk,pat,lim,rfl,k,x _ _ h1,x _ _ h2,h3⟩
theorem RdL.monoF {ω ω':Own}(x:LeF ω ω'):∀ {h:List HV}{v:List Value},RdL ω h v->RdL ω' h v
 | [],_,r=>r
 | y::ys,v,r=>by
  refine d9 r fun w q h1 h2 h3=>?_
  exact(j7 w q h1 (Rd.monoF x h2) (RdL.monoF x h3))
end
theorem Rd.mono {ω ω':Own}(x:Le ω ω'){h:HV}{v:Value}(r:Rd ω h v):Rd ω' h v:=r.monoF x.f
theorem RdL.mono {ω ω':Own}(x:Le ω ω'){h:List HV}{v:List Value}(r:RdL ω h v):RdL ω' h v:=r.monoF x.f
theorem RdL.length {ω:Own}:∀ {xs:List HV}{vs:List Value},RdL ω xs vs->vs.length=xs.length:=by
 intro xs0
 induction xs0 with
 | nil=>
  exact @fun _ r=>by simp only[RdL] at r;refine rr r ?_;rfl
 | cons _ xs ih=>
  exact @fun vs r=>by
   simp only[RdL] at r
   (refine d9 r fun v q z14 _ h=>?_;clear r;refine rr z14 ?_)
   simp[ih h]
end
section
noncomputable abbrev St:=Addr->Option (List HV)
noncomputable abbrev Loc:=Str->Option HV
noncomputable abbrev KV:=HV->St->Prop
structure GC where
 g:Loc
 c:Str->Bool
 l:Str->Bool
 gg:Loc
 cd:Option (Addr×Str)
noncomputable def GC.all (G:GC) (x:Str):Option HV:=match G.g x with
 | some h=>some h
 | none=>G.gg x
noncomputable def St.put (σ:St) (a:Addr) (xs:List HV):St:=fun b=>if b=a then some xs else σ b
noncomputable def upd (ρ:Loc) (x:Str) (h:HV):Loc:=fun y=>if y=x then some h else ρ y
noncomputable def RelS (ω:Own) (σ:St):Prop:=∀ a xs,σ a=some xs->xs.length<=sizeLine/\∃ vs,ω a=some (.lst vs)/\RdL ω xs vs
noncomputable def v9 (x:Str):List Nat:=x.cps.toList
noncomputable abbrev Spec:=List HV->St->KV->Prop
structure Spx where
 f:Value->Option Spec
 tq:TQ
 hp:Heap->Prop
 lv:Nat
noncomputable def K1:HV->St->Option (List HV)
 | .list xs,_=>some xs
 | .obj a,σ=>σ a
 | _,_=>none
noncomputable def slc {α:Type}(l:List α) (lo hi:Option Int):List α:=
 (l.drop (lo.elim 0 (clipAt l.length))).take (hi.elim l.length (clipAt l.length)-lo.elim 0 (clipAt l.length))
noncomputable def at? {α:Type}(l:List α) (i:Int):Option α:=if 0<=i then l[i.toNat]? else if (l.length:Int)+i<0 then none else l[((l.length:Int)+i).toNat]?
noncomputable def P7:HV->St->Option Bool
 | .none,_=>some false
 | .bool b,_=>some b
 | .int i,_=>some (i != 0)
 | .str l,_=>some (!l.isEmpty)
 | .bytes l,_=>some (!l.isEmpty)
 | .list xs,_=>some (!xs.isEmpty)
 | .tup xs,_=>some (!xs.isEmpty)
 | .obj a,σ=>(σ a).map fun xs=>!xs.isEmpty
 | _,_=>none
noncomputable def V0:List HV->Option (List (List Nat))
 | []=>some []
 | .str l::r=>(V0 r).map (l::·)
 | _::_=>none
mutual
noncomputable def py:HV->PyData
 | .bool b=>.bool b
 | .int i=>.int i
 | .str l=>.str ⟨l.toArray⟩
 | .list xs=>.list (pyL xs)
 | .tup xs=>.tuple (pyL xs)
 | _=>.none
noncomputable def pyL:List HV->List PyData
 | []=>[]
 | x::xs=>py x::pyL xs
end
noncomputable def J3:Nat->HV->Bool
 | _,.none=>true
 | _,.bool _=>true
 | _,.int _=>true
 | _,.str l=>PyData.strOk ⟨l.toArray⟩
 | n+1,.list xs=>xs.all (J3 n)
 | n+1,.tup xs=>xs.all (J3 n)
 | _,_=>false
noncomputable def eqD (a b:HV):Bool:=PyData.eqv (py a) (py b)
noncomputable def V7:List HV->Option (List Int)
 | []=>some []
 | .int i::r=>(V7 r).map (i::·)
 | _::_=>none
noncomputable def a8w (Γ:Spx):HV->Bool
 | .bm _=>true
 | .val (.builtin _)=>true
 | .val (.type _)=>true
 | .val v=>(Γ.f v).isSome
 | _=>false
noncomputable def n8 (e:Expr):Bool:=e.ctorIdx != 22
noncomputable def rcv (name:Str) (h:HV) (σ:St):Bool:=
 if name=Str.ofString "append" then (match h with
  | .obj a=>(σ a).isSome
  | _=>false)
 else if name=Str.ofString "join" then (match h with
  | .str _=>true
  | _=>false)
 else false
noncomputable def I6:HV->Option (List HV)
 | .list xs=>some xs
 | .rng lo hi=>some ((List.range (hi-lo).toNat).map fun (k:Nat)=>HV.int (lo+(k:Int)))
 | .str l=>some (l.map fun c=>HV.str [c])
 | .rngd lo=>some ((List.range lo.toNat).map fun (k:Nat)=>HV.int (lo-(k:Int)))
 | .bytes l=>some (l.map fun c=>HV.int c.toNat)
 | _=>none
noncomputable def E5 (sc:Scope) (ρ:Loc):Loc:=fun x=>if sc.names.lookup x=some .free then ρ x else none
noncomputable def B1 (sc:Scope) (G:GC):GC:=⟨fun x=>if sc.names.lookup x=some .globalImplicit then G.all x else none,fun x=>sc.names.lookup x==some .free,fun _=>false,G.gg,none⟩
noncomputable def scB (sc:Scope) (t:Str) (c:Str->Bool):Bool:=
 sc.kind==.function&&sc.names.all (fun x=>x.2 != .cell)&&sc.names.all (fun x=>x.2 != .local||sc.names.lookup x.1==some .local)
  && sc.names.lookup t==some .local&&sc.names.all (fun x=>x.2 != .free||c x.1)&&t != ("__debug__" : Str)&&t != ("__classdict__" : Str)
noncomputable def a4g (e:Expr):Bool:=e.ctorIdx==23||e.ctorIdx==16||e.ctorIdx==21
noncomputable def T4 (e:Expr):Bool:=e.ctorIdx != 16
noncomputable def J1 (test:HV->St->(Bool->St->Prop)->Prop) (elt:HV->St->KV->Prop):List HV->List HV->St->KV->Prop
 | acc,[],σ,K=>K (.list acc) σ
 | acc,x::xs,σ,K=>test x σ fun b σ'=>if b then elt x σ' (fun h σ''=>acc.length<sizeLine/\J1 test elt (acc++[h]) xs σ'' K) else J1 test elt acc xs σ' K
theorem o7 {c:Prop}{d:Decidable c}{P Q:Prop}(h:c) (k:P):@ite Prop c d P Q:=(if_pos h).symm▸k
theorem k6 {c:Prop}{d:Decidable c}{P Q:Prop}(h:¬c) (k:Q):@ite Prop c d P Q:=(if_neg h).symm▸k
end
section
inductive PostV (B0:Heap) (os:OsState) (gs:TQ) (ω:Own) (K:KV) (v:Value) (s':Shared):Prop
 | mk:∀ h ω' σ',(Le ω ω')->(MS B0 os ω' gs s')->(RelS ω' σ')->(Rd ω' h v)->(K h σ')->PostV B0 os gs ω K v s'
inductive V8 (B0:Heap) (os:OsState) (gs:TQ) (ω:Own) (K:Bool->St->Prop) (b:Bool) (s':Shared):Prop
 | mk:∀ ω' σ',(Le ω ω')->(MS B0 os ω' gs s')->(RelS ω' σ')->(K b σ')->V8 B0 os gs ω K b s'
theorem RelS.new {ω:Own}{σ:St}{a:Addr}{m:OM}(R:RelS ω σ) (h:ω a=none):RelS (ω.set a m) σ:=fun b xs e=>by
 refine D9 (R b xs e) fun hz vs h1 h2=>?_
 have:b≠a:=fun q=>by subst q;rw[h] at h1;exact c7 h1
 exact(X8 hz vs (by refine rr (Own.set_ne _ _ this) ?_;exact h1) (h2.mono (Le.new m h)))
theorem RelS.put {ω:Own}{σ:St}{a:Addr}{vs0 vs:List Value}{xs:List HV}(R:RelS ω σ) (h:ω a=some (.lst vs0)) (hz:xs.length<=sizeLine) (r:RdL ω xs vs):RelS (ω.set a (.lst vs)) (σ.put a xs):=fun b ys e=>by
 unfold St.put at e
 (revert e;refine ie rfl (fun _ e=>?_) fun _ e=>?_)
 · rename_i q;refine rr q ?_;(replace e:=Option.some.inj e;subst e)
   exact(X8 hz vs (Own.set_self ..) (r.mono (Le.lst h)))
 · rename_i q
   refine D9 (R b ys e) fun hz' ws h1 h2=>?_
   exact(X8 hz' ws (by refine rr (Own.set_ne _ _ q) ?_;exact h1) (h2.mono (Le.lst h)))
theorem RelS.putNew {ω:Own}{σ:St}{a:Addr}{vs:List Value}{xs:List HV}(R:RelS ω σ) (h:ω a=none) (hz:xs.length<=sizeLine) (r:RdL ω xs vs):RelS (ω.set a (.lst vs)) (σ.put a xs):=fun b ys e=>by
 unfold St.put at e
 (revert e;refine ie rfl (fun _ e=>?_) fun _ e=>?_)
 · rename_i q;refine rr q ?_;(replace e:=Option.some.inj e;subst e)
   exact(X8 hz vs (Own.set_self ..) (r.mono (Le.new _ h)))
 · rename_i q
   refine D9 (R b ys e) fun hz' ws h1 h2=>?_
   exact(X8 hz' ws (by refine rr (Own.set_ne _ _ q) ?_;exact h1) (h2.mono (Le.new _ h)))
theorem RelS.keep {ω ω':Own}{σ:St}(R:RelS ω σ) (l:Le ω ω') (k:∀ a vs,ω a=some (.lst vs)->ω' a=some (.lst vs)):RelS ω' σ:=fun b xs e=>by
 refine D9 (R b xs e) fun hz vs h1 h2=>?_
 exact(X8 hz vs (k _ _ h1) (h2.mono l))
theorem a0l (x:Str):(⟨x.cps.toList.toArray⟩:Str)=x:=by rfl
theorem G5 (a b:List Nat):((⟨a.toArray⟩:Str)++⟨b.toArray⟩)=⟨(a++b).toArray⟩:=by
 refine Str.ext' ?_
 simp only[Str.cps_append];simp
theorem a5t {α:Type}(l:List α) (lo hi:Option Int):(slc l lo hi).length<=l.length:=by
 exact Nat.le_trans (List.length_take_le' _ _) (by refine rr List.length_drop ?_;exact Nat.sub_le _ _)
theorem N5 {α:Type}{l:List α}{i:Int}{c:α}(h:at? l i=some c):∃ k,seqIndex? i l.length=some k/\l[k]? = some c/\k<l.length:=by
 unfold at? at h
 unfold seqIndex?
 by_cases h0:0<=i
 · have h:=(if_pos h0)▸h
   obtain⟨hl,_⟩:=List.getElem?_eq_some_iff.mp h
   refine(y7 i.toNat ?_ h hl)
   refine rr (if_neg (show ¬ i<0 by exact by simp_all)) ?_
   exact if_pos (by simp only[Bool.and_eq_true,decide_eq_true_eq];exact c34 h0 hl)
 · rw[if_neg h0] at h
   by_cases h1:(l.length:Int)+i<0
   · rw[if_pos h1] at h;exact c7 h
   · rw[if_neg h1] at h
     obtain⟨hl,_⟩:=List.getElem?_eq_some_iff.mp h
     refine⟨_,?_,h,hl⟩
     rw[if_pos (show i<0 by exact Int.not_le.mp h0),Int.add_comm]
     exact if_pos (by simp only[Bool.and_eq_true,decide_eq_true_eq];exact c5p h1 h0)
theorem RdL.get {ω:Own}:∀ {xs:List HV}{vs:List Value},RdL ω xs vs->∀ {k:Nat}{c:HV},xs[k]? = some c->∃ v,vs[k]? = some v/\Rd ω c v:=by
 intro xs0
 induction xs0 with
 | nil=>
  exact @fun _ _ k c h=>by simp at h
 | cons x xs ih=>
  exact @fun vs r k c h=>by
   simp only[RdL] at r
   (refine d9 r fun v q z2 h1 h2=>?_;clear r;refine rr z2 ?_)
   induction k using Nat.casesOn with
   | zero=>simp at h;subst h;exact(j1 v rfl h1)
   | succ k=>exact ih h2 h
theorem RdL.append {ω:Own}:∀ {xs ys:List HV}{vs ws:List Value},RdL ω xs vs->RdL ω ys ws->RdL ω (xs++ys) (vs++ws):=by
 intro xs0
 induction xs0 with
 | nil=>
  exact @fun _ _ _ r q=>by simp only[RdL] at r;subst r;exact q
 | cons x xs ih=>
  exact @fun ys vs ws r q=>by
   simp only[RdL] at r
   (refine d9 r fun v l z8 h1 h2=>?_;clear r;subst z8)
   exact(j7 v (l++ws) rfl h1 (ih h2 q))
theorem RdL.drop {ω:Own}:∀ {xs:List HV}{vs:List Value}(_:RdL ω xs vs) (k:Nat),RdL ω (xs.drop k) (vs.drop k)
 | _,_,r,0=>r
 | [],_,r,k+1=>by simp only[RdL] at r;subst r;rfl
 | x::xs,vs,r,k+1=>by
  simp only[RdL] at r
  (refine d9 r fun v l z14 h1 h2=>?_;clear r;subst z14)
  exact RdL.drop h2 k
theorem RdL.take {ω:Own}:∀ {xs:List HV}{vs:List Value}(_:RdL ω xs vs) (k:Nat),RdL ω (xs.take k) (vs.take k)
 | _,_,_,0=>by exact rfl
 | [],_,r,k+1=>by simp only[RdL] at r;subst r;exact rfl
 | x::xs,vs,r,k+1=>by
  simp only[RdL] at r
  (refine d9 r fun v l z20 h1 h2=>?_;clear r;subst z20)
  exact(j7 v _ rfl h1 (RdL.take h2 k))
theorem RdL.slc {ω:Own}{xs:List HV}{vs:List Value}(r:RdL ω xs vs) (lo hi:Option Int):RdL ω (slc xs lo hi) (slc vs lo hi):=by
 unfold Mine.Internal.slc
 refine rr r.length ?_
 exact(r.drop _).take _
theorem b2q (vs:List Value) (lo hi:Option Int):slicePick vs.toArray lo hi none=(slc vs lo hi).toArray:=by
 simp only[slicePick_plain]
 rfl
section
variable {prog:Program}{w:World}{A:Around}{E:Value->Shared->Prop}{B0:Heap}{os:OsState}{gs:TQ}{ω:Own}{s:Shared}{σ:St}{K:KV}
theorem m9 {v:Value}{h:HV}(S:MS B0 os ω gs s) (R:RelS ω σ) (r:Rd ω h v) (k:K h σ) (t:Nat):PostV B0 os gs ω K v { s with toks:=t }:=
 ⟨h,ω,σ,.refl _,S.toks t,R,r,k⟩
theorem j6 {v:Value}{h:HV}(S:MS B0 os ω gs s) (R:RelS ω σ) (r:Rd ω h v) (k:K h σ):PostV B0 os gs ω K v s:=⟨h,ω,σ,.refl _,S,R,r,k⟩
theorem a0n {v:Value}{h:HV}{h':Heap}(S:MS B0 os ω gs s) (R:RelS ω σ) (r:Rd ω h v) (k:K h σ) (hk:∀ b o,s.heap.get? b=some o->h'.get? b=some o) (t:Nat):PostV B0 os gs ω K v { s with heap:=h',toks:=t }:=
 ⟨h,ω,σ,.refl _,S.keeps hk t,R,r,k⟩
theorem J8 {o:Obj} {h:HV} (S:MS B0 os ω gs s) (R:RelS ω σ) (hf:o.isFreed=false) (r:Rd (ω.set s.heap.objs.size (.fz o)) h (.ref s.heap.objs.size)) (k:K h σ) (t:Nat) :
 PostV B0 os gs ω K (.ref s.heap.objs.size) { s with heap:=s.heap.push o,toks:=t }:=
 ⟨h,_,σ,Le.new _ S.unused,(S.push o (m:=.fz o) (Heap.get?_push_size _ hf)).toks t,R.new S.unused,r,k⟩
theorem F6 {xs:List HV} {vs:List Value} {n:Nat} (S:MS B0 os ω gs s) (R:RelS ω σ) (hz:xs.length<=sizeLine) (r:RdL ω xs vs) (k:K (.list xs) σ) (t:Nat) :
 PostV B0 os gs ω K (.ref s.heap.objs.size) { s with heap:=s.heap.push { cls:=.type "list",data:=.seq vs.toArray n },toks:=t }:=
 J8 S R rfl (by exact(Y7 hz _ ⟨_,vs,n,rfl,Own.set_self ..,rfl,rfl,r.mono (Le.new _ S.unused)⟩)) k t
theorem a6l {xs:List HV} {vs:List Value} {n:Nat} (S:MS B0 os ω gs s) (R:RelS ω σ) (hz:xs.length<=sizeLine) (r:RdL ω xs vs) (k:K (.tup xs) σ) (t:Nat) :
 PostV B0 os gs ω K (.ref s.heap.objs.size) { s with heap:=s.heap.push { cls:=.type "tuple",data:=.seq vs.toArray n },toks:=t }:=
 J8 S R rfl (by exact(Y7 hz _ ⟨_,vs,n,rfl,Own.set_self ..,rfl,rfl,r.mono (Le.new _ S.unused)⟩)) k t
theorem a0i {a:Addr}{o:Obj}{vs:List Value}{n:Nat}(S:MS B0 os ω gs s) (e:ω a=some (.fz o)) (hc:o.cls=.type "list") (hd:o.data=.seq vs.toArray n):s.heap.IsList a vs.toArray:=
 (y7 o (S.hold _ _ e) hc ⟨n,hd⟩)
theorem a4p {a:Addr}{o:Obj}{vs:List Value}{n:Nat}(S:MS B0 os ω gs s) (e:ω a=some (.fz o)) (hc:o.cls=.type "tuple") (hd:o.data=.seq vs.toArray n):PyProof.Rows.IsTup s.heap a vs.toArray:=
 (y7 o (S.hold _ _ e) hc ⟨n,hd⟩)
theorem G7 {xs:List HV}{v:Value}(S:MS B0 os ω gs s) (r:Rd ω (.list xs) v):xs.length<=sizeLine/\∃ a vs,v=.ref a/\s.heap.IsList a vs.toArray/\RdL ω xs vs:=by
 simp only[Rd] at r
 refine y3 r fun hz a o vs n h1 h2 h3 h4 h5=>?_
 exact(u5 hz a vs h1 ⟨a0i S h2 h3 h4,h5⟩)
theorem T1 {xs:List HV}{v:Value}(S:MS B0 os ω gs s) (r:Rd ω (.tup xs) v):xs.length<=sizeLine/\∃ a vs,v=.ref a/\PyProof.Rows.IsTup s.heap a vs.toArray/\RdL ω xs vs:=by
 simp only[Rd] at r
 refine y3 r fun hz a o vs n h1 h2 h3 h4 h5=>?_
 exact(u5 hz a vs h1 ⟨a4p S h2 h3 h4,h5⟩)
theorem Y3 {a:Addr}{xs:List HV}{v:Value}(S:MS B0 os ω gs s) (R:RelS ω σ) (r:Rd ω (.obj a) v) (e:σ a=some xs):v=.ref a/\xs.length<=sizeLine/\∃ vs,ω a=some (.lst vs)/\s.heap.IsList a vs.toArray/\RdL ω xs vs:=by
 simp only[Rd] at r
 refine D9 (R a xs e) fun hz vs h1 h2=>?_
 refine o_e (S.hold _ _ h1) fun n ho=>?_
 exact(b40 r hz vs h1 ⟨(y7 _ ho rfl ⟨n,rfl⟩),h2⟩)
theorem a2s {i:Int}(h:i.natAbs<2 ^ 62):Builtin.Int.intBits i<=64:=PySem.intBits_le_64 (Int.lt_trans (by decide) (nb h).1) (Int.lt_trans (nb h).2 (by decide))
theorem a8c {j:Int}(h:j.natAbs<2 ^ 62):j.natAbs.log2<9000:=by
 by_cases z:j.natAbs=0
 · refine rr z ?_;decide
 · exact Nat.lt_trans ((Nat.log2_lt z).mpr h) (by decide)
theorem b0w {i j:Int}(h:i.natAbs<1000) (h0:0<=j) (h1:j<1000):(Builtin.Int.intBits i:Int)*j<=2 ^ 27:=by
 have a:=a2s (i:=i) (Nat.lt_of_lt_of_le h (by decide))
 exact Int.le_trans (Int.mul_le_mul (Int.ofNat_le.mpr a) (Int.le_of_lt h1) h0 (by decide)) (by decide)
theorem c8:sizeLine=16777216:=by decide
theorem U5 {ω:Own}{i:Int}{t:Tok}:Rd ω (.int i) (.int i t):=⟨t,rfl⟩
theorem a2y {ω:Own}{l:List Nat}{t:Tok}(h:l.length<=sizeLine):Rd ω (.str l) (.str ⟨l.toArray⟩ t):=(Y7 h t rfl)
theorem w7 {ω:Own}{b:Bool}:Rd ω (.bool b) (.bool b):=rfl
end
noncomputable def a0p (op:Operator) (a b:HV) (σ:St) (K:KV):Prop:=∀ ⦃prog:Program⦄ ⦃w:World⦄ ⦃B0:Heap⦄ ⦃os:OsState⦄ ⦃gs:TQ⦄ (A:Around) (E:Value->Shared->Prop) (ω:Own) (s:Shared) (va vb:Value),MS B0 os ω gs s->RelS ω σ->Rd ω a va->Rd ω b vb->
 wpAny (model prog w) A (binaryOp op va vb) (PostV B0 os gs ω K) E s
section
variable {σ:St}{K:KV}
theorem b9b {i j:Int}(h:K (.int (i+j)) σ):a0p .Add (.int i) (.int j) σ K:=fun _ _ _ _ _ A E ω s va vb S R ra rb=>by
 obtain⟨t,rfl⟩:=ra;obtain⟨u,rfl⟩:=rb
 exact PyProof.Rows.add_int (m9 S R U5 h _)
theorem b7q {i j:Int}(h:K (.int (i-j)) σ):a0p .Sub (.int i) (.int j) σ K:=fun _ _ _ _ _ A E ω s va vb S R ra rb=>by
 obtain⟨t,rfl⟩:=ra;obtain⟨u,rfl⟩:=rb
 exact PyProof.Rows.sub_int (m9 S R U5 h _)
theorem c2z {i j:Int}(hz:i.natAbs<2 ^ 62) (h:K (.int (i*j)) σ):a0p .Mult (.int i) (.int j) σ K:=fun _ _ _ _ _ A E ω s va vb S R ra rb=>by
 obtain⟨t,rfl⟩:=ra;obtain⟨u,rfl⟩:=rb
 exact PyProof.Rows.mul_int (m9 S R U5 h _) (IntMulOk.of_left (a2s hz))
theorem c2u {i j:Int}(h1:0<=j/\j<1000/\i.natAbs<1000) (h:K (.int (i ^ j.toNat)) σ):a0p .Pow (.int i) (.int j) σ K:=fun _ _ _ _ _ A E ω s va vb S R ra rb=>by
 obtain⟨t,rfl⟩:=ra;obtain⟨u,rfl⟩:=rb
 exact PyProof.Rows.pow_int h1.1 (b0w h1.2.2 h1.1 h1.2.1) (m9 S R U5 h _)
theorem D8 {i j:Int}(h0:j≠0) (h:K (.int (i.fmod j)) σ):a0p .Mod (.int i) (.int j) σ K:=fun _ _ _ _ _ A E ω s va vb S R ra rb=>by
 obtain⟨t,rfl⟩:=ra;obtain⟨u,rfl⟩:=rb
 exact PyProof.Rows.mod_int h0 (m9 S R U5 h _)
theorem X3 {i j:Int}(h0:j≠0/\i.natAbs<2 ^ 62/\j.natAbs<2 ^ 62) (h:K (.int (i.fdiv j)) σ):a0p .FloorDiv (.int i) (.int j) σ K:=fun _ _ _ _ _ A E ω s va vb S R ra rb=>by
 obtain⟨t,rfl⟩:=ra;obtain⟨u,rfl⟩:=rb
 exact PyProof.Rows.floordiv_int h0.1 (m9 S R U5 h _) (.inl (PyProof.noPylong_of_log2 (a8c h0.2.2)))
theorem y9 {x y:List Nat}(hz:x.length+y.length<=sizeLine) (h:K (.str (x++y)) σ):a0p .Add (.str x) (.str y) σ K:=fun _ _ _ _ _ A E ω s va vb S R ra rb=>by
 (refine y5 ra fun _ t z126=>?_;clear ra;subst z126);(refine y5 rb fun _ u z122=>?_;clear rb;subst z122)
 exact PyProof.Rows.add_str (fun t' tk=>by refine rr (G5 ..) ?_;exact m9 S R (a2y (by simpa using hz)) h _) (by simpa [Str.length] using hz)
theorem a62 {x y:List HV}(hz:x.length+y.length<=sizeLine) (h:K (.list (x++y)) σ):a0p .Add (.list x) (.list y) σ K:=fun _ _ _ _ _ A E ω s va vb S R ra rb=>by
 (refine q9 (G7 S ra) fun _ a vs z136 hl r1=>?_;refine rr z136 ?_)
 (refine q9 (G7 S rb) fun _ b ws z133 hm r2=>?_;refine rr z133 ?_)
 obtain⟨⟨cls,dd,data,sl⟩,ho,hc,n,hd⟩:=id hl
 obtain⟨⟨cls2,dd2,data2,sl2⟩,ho2,hc2,n2,hd2⟩:=id hm
 simp only at hc hd hc2 hd2
 subst hc hd hc2 hd2
 refine PySem.concat_meets (j1 _ ho rfl) (j1 _ ho2 rfl) noFill_list_add seq_list_add PySem.F.slot_list_add PySem.F.entry_list_add (PySem.F.args_list_add_2 _ _) (PyProof.Rows.list_addW a b vs.toArray ws.toArray n n2 dd dd2 sl sl2 (by have:=r1.length;have:=r2.length;simp;exact b7u hz (by assumption) this)) ⟨ho,ho2,?_⟩
 refine rr (show vs.toArray++ws.toArray=(vs++ws).toArray from by simp) ?_
 exact F6 S R (by simpa using hz) (r1.append r2) h _
end
end
section
structure Room (n:Nat) (A:Around):Prop where
 depth:A.depth+n<1000
 units:A.units+8*n+100<9900
 handled:A.handled=none
theorem Room.le {n m:Nat}{A:Around}(r:Room n A) (h:m<=n):Room m A:=⟨by have:=r.depth;exact c6 (ad this h) (by simp +arith),by have:=r.units;exact Nat.lt_of_le_of_lt (Nat.add_le_add_right (Nat.add_le_add_left (Nat.mul_le_mul_left 8 h) _) 100) this,r.handled⟩
theorem Room.deeper {n:Nat}{A:Around}{env:Env}(r:Room (n+1) A):Room n (A.deeper env):=⟨by have:=r.depth;exact c5r this,by have:=r.units;exact c6 this (by simp +arith),r.handled⟩
theorem Room.in1 {n:Nat}{A:Around}(r:Room (n+1) A):Room n A.in1:=⟨by have:=r.depth;exact Nat.le_of_lt ‹_›,by have:=r.units;exact c6 this (by simp +arith),r.handled⟩
theorem Room.u64 {n:Nat}{A:Around}(r:Room n A):A.units+64<cLine:=by have:=r.units;exact c4z this
theorem Room.lim {n:Nat}{A:Around}(r:Room n A):A.depth<recursionLimit:=by have:=r.depth;exact c3o this
section
variable {prog:Program}{w:World}{A:Around}{E:Value->Shared->Prop}{B0:Heap}{os:OsState}{gs:TQ}{ω:Own}{s:Shared}{σ:St}{K:KV}
mutual
theorem K6 (S:MS B0 os ω gs s):∀ (n:Nat) (h:HV) (v:Value),J3 n h=true->Rd ω h v->∃ as,Reads s.heap v (py h) as
 | _,.none,v,_,r=>by simp only[Rd] at r;subst r;exact⟨_,.none⟩
 | _,.bool b,v,_,r=>by simp only[Rd] at r;subst r;exact⟨_,.bool b⟩
 | _,.int i,v,_,r=>by simp only[Rd] at r;(refine o_e r fun t z128=>?_;clear r;subst z128);exact⟨_,.int i t⟩
 | _,.str l,v,_,r=>by simp only[Rd] at r;(refine y5 r fun _ t z124=>?_;clear r;subst z124);exact⟨_,.str _ t⟩
 | n+1,.list xs,v,d,r=>by
  simp only[Rd] at r
  (refine y3 r fun hz a o vs k z122 h2 h3 h4 h5=>?_;clear r;subst z122)
  obtain⟨as,q⟩:=a0j S n xs vs (List.all_eq_true.mp d) h5
  exact⟨_,.list (S.hold _ _ h2) h3 h4 q⟩
 | n+1,.tup xs,v,d,r=>by
  simp only[Rd] at r
  (refine y3 r fun hz a o vs k z120 h2 h3 h4 h5=>?_;clear r;subst z120)
  obtain⟨as,q⟩:=a0j S n xs vs (List.all_eq_true.mp d) h5
  exact⟨_,.tuple (S.hold _ _ h2) h3 h4 q⟩
 | 0,.list _,_,d,_=>by exact j0 ((show false=true from d))
 | 0,.tup _,_,d,_=>by exact j0 ((show false=true from d))
 | n,.bytes _,_,d,_=>by cases n<;>exact j0 d
 | n,.val _,_,d,_=>by cases n<;>exact j0 d
 | n,.obj _,_,d,_=>by cases n<;>exact j0 d
 | n,.rng _ _,_,d,_=>by cases n<;>exact j0 d
 | n,.rngd _,_,d,_=>by cases n<;>exact j0 d
 | n,.mt _,_,d,_=>by cases n<;>exact j0 d
 | n,.bm _,_,d,_=>by cases n<;>exact j0 d
theorem a0j (S:MS B0 os ω gs s):∀ (n:Nat) (xs:List HV) (vs:List Value),(∀ x∈xs,J3 n x=true)->RdL ω xs vs->∃ as,ReadsAll s.heap vs (pyL xs) as
 | _,[],vs,_,r=>by simp only[RdL] at r;subst r;exact⟨_,.nil⟩
 | n,x::xs,vs,d,r=>by
  simp only[RdL] at r
  (refine d9 r fun v l z110 h1 h2=>?_;clear r;subst z110)
  obtain⟨as,q1⟩:=K6 S n x v (d x (.head _)) h1
  obtain⟨bs,q2⟩:=a0j S n xs l (fun y hy=>d y (.tail _ hy)) h2
  exact⟨_,.cons q1 q2⟩
end
mutual
theorem a8s:∀ (n:Nat) (h:HV),J3 n h=true->(py h).canLay0=true/\(py h).depth<=n
 | _,.none,_ | _,.bool _,_ | _,.int _,_=>⟨rfl,Nat.zero_le _⟩
 | n,.str l,d=>⟨by cases n<;>exact d,Nat.zero_le _⟩
 | n+1,.list xs,d=>by
  refine o_a (a57 n xs (List.all_eq_true.mp d)) fun h1 h2=>?_
  exact⟨h1,Nat.succ_le_succ h2⟩
 | n+1,.tup xs,d=>by
  refine o_a (a57 n xs (List.all_eq_true.mp d)) fun h1 h2=>?_
  exact⟨h1,Nat.succ_le_succ h2⟩
 | 0,.list _,d=>by exact j0 ((show false=true from d))
 | 0,.tup _,d=>by exact j0 ((show false=true from d))
 | n,.bytes _,d=>by cases n<;>exact j0 d
 | n,.val _,d=>by cases n<;>exact j0 d
 | n,.obj _,d=>by cases n<;>exact j0 d
 | n,.rng _ _,d=>by cases n<;>exact j0 d
 | n,.rngd _,d=>by cases n<;>exact j0 d
 | n,.mt _,d=>by cases n<;>exact j0 d
 | n,.bm _,d=>by cases n<;>exact j0 d
theorem a57:∀ (n:Nat) (xs:List HV),(∀ x∈xs,J3 n x=true)->PyData.canLayAll0 (pyL xs)=true/\PyData.depthAll (pyL xs)<=n
 | n,[],_=>⟨rfl,Nat.zero_le _⟩
 | n,x::xs,d=>by
  refine o_a (a8s n x (d x (.head _))) fun h1 h2=>?_
  refine o_a (a57 n xs fun y hy=>d y (.tail _ hy)) fun h3 h4=>?_
  exact⟨(congr (congrArg and h1) h3 :),Nat.max_le.mpr ⟨h2,h4⟩⟩
end
theorem J7 {h:HV}(d:J3 8 h=true):SeqAt.shaped (py h)=true:=by
 refine o_a (a8s 8 h d) fun h1 h2=>?_
 unfold SeqAt.shaped
 (refine rr h1 ?_;refine rr (Bool.true_and ..) ?_)
 exact decide_eq_true (Nat.le_trans h2 (by decide))
theorem a6x:∀ {ys:List HV}{l:List (List Nat)}{vs:List Value},V0 ys=some l->RdL ω ys vs->PyProof.Rows.StrsAre vs (l.map fun x=>⟨x.toArray⟩):=by
 intro xs0
 induction xs0 with
 | nil=>
  exact @fun l vs h r=>by
   simp only[RdL] at r;subst r
   (replace h:=Option.some.inj h;subst h)
   exact .nil
 | cons y ys ih=>
  exact @fun l vs h r=>by
   induction y using HV.casesOn with
   | str x=>
     simp only[RdL] at r
     (refine d9 r fun v q z152 h1 h2=>?_;clear r;subst z152)
     simp only[Rd] at h1
     (refine y5 h1 fun _ t z148=>?_;clear h1;refine rr z148 ?_)
     replace h:=Option.map_eq_some_iff.mp h
     (refine c9 h fun m hm z144=>?_;clear h;subst z144)
     exact .cons _ t (ih hm h2)
   | _=>exact c7 h
theorem a0c (l:List (List Nat)) (x:List Nat):((l.map fun x=>(⟨x.toArray⟩:Str)).any (·==(⟨x.toArray⟩:Str)))=l.contains x:=by
 induction l with
 | nil=>rfl
 | cons y l ih=>
  (refine rr List.map_cons ?_;refine rr List.any_cons ?_;refine rr ih ?_;refine rr List.contains_cons ?_)
  congr 1
  rw[Bool.eq_iff_iff]
  simp only[beq_iff_eq]
  constructor
  · intro h;have:=congrArg (fun s:Str=>s.cps.toList) h;simpa using this.symm
  · intro h;exact rr h rfl
theorem b0d (x y:List Nat):((⟨x.toArray⟩:Str)==⟨y.toArray⟩)=(x==y):=by
 rw[Bool.eq_iff_iff]
 simp only[beq_iff_eq]
 constructor
 · intro h;have:=congrArg (fun s:Str=>s.cps.toList) h;simpa using this
 · intro h;exact rr h rfl
theorem a5f {h:HV}{v:Value}{b:Bool}{Q:Bool->Shared->Prop}(S:MS B0 os ω gs s) (R:RelS ω σ) (r:Rd ω h v) (e:P7 h σ=some b) (H:∀ t,Q b { s with toks:=t }) :
 wpAny (model prog w) A (truthy v) Q E s:=by
 have Hs:Q b s:=H s.toks
 have ln:=c8
 cases h with
 | none=>cases r;cases e;exact fun _ _ _=>Hs
 | bool c=>cases r;cases e;exact wpAny_truthy_bool Hs
 | int i=>obtain⟨t,rfl⟩:=r;cases e;exact PyProof.Rows.truthy_int Hs
 | str l=>
  obtain⟨hz,t,rfl⟩:=r;cases e
  refine PySem.P.truthy_str (by simp[Str.length];exact b6g ln hz) ?_
  have:(((⟨l.toArray⟩:Str).length:Int) != 0) = !l.isEmpty:=by cases l<;>simp[Str.length];exact c57
  rw[this];exact H _
 | bytes l=>
  obtain⟨hz,t,rfl⟩:=r;cases e
  refine PySem.W.truthy_bytes (by simp;exact c1k ln hz) ?_
  have:((((⟨l⟩:Array UInt8).size:Nat):Int) != 0) = !l.isEmpty:=by cases l<;>simp;exact c57
  rw[this];exact H _
 | list xs=>
  obtain⟨hz,a,vs,rfl,hl,r2⟩:=G7 S r
  cases e
  have hl2:=r2.length
  refine wpAny_truthy_list hl (by simp;exact c1c ln hl2 hz) ?_
  have:(!(vs.toArray).isEmpty) = !xs.isEmpty:=by cases vs<;>cases xs<;>simp at hl2 ⊢
  rw[this];exact H _
 | tup xs=>
  obtain⟨hz,a,vs,rfl,hl,r2⟩:=T1 S r
  cases e
  have hl2:=r2.length
  refine PyProof.Rows.truthy_tuple hl (by simp;exact c1c ln hl2 hz) ?_
  have:(!(vs.toArray).isEmpty) = !xs.isEmpty:=by cases vs<;>cases xs<;>simp at hl2 ⊢
  rw[this];exact H _
 | obj a=>
  obtain⟨xs,e1,rfl⟩:=Option.map_eq_some_iff.mp (show (σ a).map _=some b from e)
  (refine W9 (Y3 S R r e1) fun z203 hz vs h1 hl r2=>?_;subst z203)
  have hl2:=r2.length
  refine wpAny_truthy_list hl (by simp;exact c1c ln hl2 hz) ?_
  have:(!(vs.toArray).isEmpty) = !xs.isEmpty:=by cases vs<;>cases xs<;>simp at hl2 ⊢
  rw[this];exact H _
 | val _=>exact c7 ((show (none:Option Bool)=some b from e))
 | mt _=>exact c7 ((show (none:Option Bool)=some b from e))
 | rngd _=>exact c7 ((show (none:Option Bool)=some b from e))
 | rng _ _=>exact c7 ((show (none:Option Bool)=some b from e))
 | bm _=>exact c7 ((show (none:Option Bool)=some b from e))
end
noncomputable def cmpH (op:CmpOp) (a b:HV) (σ:St) (K:KV):Prop:=∀ ⦃prog:Program⦄ ⦃w:World⦄ ⦃B0:Heap⦄ ⦃os:OsState⦄ ⦃gs:TQ⦄ ⦃n:Nat⦄ (A:Around) (E:Value->Shared->Prop) (ω:Own) (s:Shared) (va vb:Value),Room n A->MS B0 os ω gs s->RelS ω σ->Rd ω a va->Rd ω b vb->
 wpAny (model prog w) A (compareOp op va vb) (PostV B0 os gs ω K) E s
noncomputable def unH (op:UnaryOp) (a:HV) (σ:St) (K:KV):Prop:=∀ ⦃prog:Program⦄ ⦃w:World⦄ ⦃B0:Heap⦄ ⦃os:OsState⦄ ⦃gs:TQ⦄ (A:Around) (E:Value->Shared->Prop) (ω:Own) (s:Shared) (va:Value),MS B0 os ω gs s->RelS ω σ->Rd ω a va->
 wpAny (model prog w) A (unaryOp op va) (PostV B0 os gs ω K) E s
section
variable {σ:St}{K:KV}
theorem b8s {i j:Int}(h:K (.bool (i==j)) σ):cmpH .Eq (.int i) (.int j) σ K:=fun _ _ _ _ _ _ A E ω s va vb Rm S R ra rb=>by
 obtain⟨t,rfl⟩:=ra;obtain⟨u,rfl⟩:=rb
 exact PyProof.Rows.eq_int (j6 S R w7 h)
theorem b8j {i j:Int}(h:K (.bool (i != j)) σ):cmpH .NotEq (.int i) (.int j) σ K:=fun _ _ _ _ _ _ A E ω s va vb Rm S R ra rb=>by
 obtain⟨t,rfl⟩:=ra;obtain⟨u,rfl⟩:=rb
 exact PyProof.Rows.ne_int (j6 S R w7 h)
theorem c3i {i j:Int}(h:K (.bool (decide (i<j))) σ):cmpH .Lt (.int i) (.int j) σ K:=fun _ _ _ _ _ _ A E ω s va vb Rm S R ra rb=>by
 obtain⟨t,rfl⟩:=ra;obtain⟨u,rfl⟩:=rb
 exact PyProof.Rows.lt_int (j6 S R w7 h)
theorem c_le {i j:Int}(h:K (.bool (decide (i<=j))) σ):cmpH .LtE (.int i) (.int j) σ K:=fun _ _ _ _ _ _ A E ω s va vb Rm S R ra rb=>by
 obtain⟨t,rfl⟩:=ra;obtain⟨u,rfl⟩:=rb
 exact PyProof.Rows.le_int (j6 S R w7 h)
theorem c5i {i j:Int}(h:K (.bool (decide (j<i))) σ):cmpH .Gt (.int i) (.int j) σ K:=fun _ _ _ _ _ _ A E ω s va vb Rm S R ra rb=>by
 obtain⟨t,rfl⟩:=ra;obtain⟨u,rfl⟩:=rb
 exact PyProof.Rows.gt_int (j6 S R w7 h)
theorem c4q {i j:Int}(h:K (.bool (decide (j<=i))) σ):cmpH .GtE (.int i) (.int j) σ K:=fun _ _ _ _ _ _ A E ω s va vb Rm S R ra rb=>by
 obtain⟨t,rfl⟩:=ra;obtain⟨u,rfl⟩:=rb
 exact PyProof.Rows.ge_int (j6 S R w7 h)
theorem b8l {i j:List Nat}(h:K (.bool (i==j)) σ):cmpH .Eq (.str i) (.str j) σ K:=fun _ _ _ _ _ _ A E ω s va vb Rm S R ra rb=>by
 (refine y5 ra fun _ t z124=>?_;clear ra;subst z124);(refine y5 rb fun _ u z120=>?_;clear rb;subst z120)
 exact PyProof.Rows.eq_str (j6 S R (by exact rr (b0d ..) rfl) h)
theorem b2b {i j:List Nat}(h:K (.bool (i != j)) σ):cmpH .NotEq (.str i) (.str j) σ K:=fun _ _ _ _ _ _ A E ω s va vb Rm S R ra rb=>by
 (refine y5 ra fun _ t z135=>?_;clear ra;subst z135);(refine y5 rb fun _ u z131=>?_;clear rb;subst z131)
 exact PyProof.Rows.ne_str (j6 S R (by simp only[Rd,bne];exact rr (b0d ..) rfl) h)
theorem b4x {x a b:List Nat}(h:K (.bool (!([a,b].contains x))) σ):cmpH .NotIn (.str x) (.tup [.str a,.str b]) σ K:=fun _ _ _ _ _ _ A E ω s va vb Rm S R ra rb=>by
 (refine y5 ra fun _ t z148=>?_;clear ra;refine rr z148 ?_)
 (refine q9 (T1 S rb) fun _ d vs z144 ht r2=>?_;refine rr z144 ?_)
 exact PyProof.Rows.notin_tuple_strs ht (a6x (l:=[a,b]) rfl r2) (j6 S R (by exact rr (a0c ..) rfl) h)
theorem b2a {a b:List HV}(h1:J3 8 (.list a)=true) (h2:J3 8 (.list b)=true) (h:K (.bool (eqD (.list a) (.list b))) σ):cmpH .Eq (.list a) (.list b) σ K:=fun _ _ _ _ _ _ A E ω s va vb Rm S R ra rb=>by
 obtain⟨as,q1⟩:=K6 S 8 _ _ h1 ra
 obtain⟨bs,q2⟩:=K6 S 8 _ _ h2 rb
 exact PyProof.Rows.eq_dataH q1 q2 (J7 h1) (J7 h2) Rm.u64 (j6 S R w7 h)
theorem b2j {a b:List HV}(h1:J3 8 (.list a)=true) (h2:J3 8 (.list b)=true) (h:K (.bool (!eqD (.list a) (.list b))) σ):cmpH .NotEq (.list a) (.list b) σ K:=fun _ _ _ _ _ _ A E ω s va vb Rm S R ra rb=>by
 obtain⟨as,q1⟩:=K6 S 8 _ _ h1 ra
 obtain⟨bs,q2⟩:=K6 S 8 _ _ h2 rb
 exact PyProof.Rows.ne_dataH q1 q2 (J7 h1) (J7 h2) Rm.u64 (j6 S R w7 h)
theorem a6b {a b:Addr}(e:a=b) (h:K (.bool true) σ):cmpH .Is (.val (.ref a)) (.val (.ref b)) σ K:=fun _ _ _ _ _ _ A E ω s va vb Rm S R ra rb=>by
 subst ra;subst rb;subst e
 exact wpAny_is_ref_self (j6 S R w7 h)
theorem W2 {a b:Addr}(e:a=b) (h:K (.bool false) σ):cmpH .IsNot (.val (.ref a)) (.val (.ref b)) σ K:=fun _ _ _ _ _ _ A E ω s va vb Rm S R ra rb=>by
 subst ra;subst rb;subst e
 exact wpAny_isNot_ref_self (j6 S R w7 h)
theorem Q7 {l:List Nat}{b:Addr}(h:K (.bool true) σ):cmpH .IsNot (.str l) (.val (.ref b)) σ K:=fun _ _ _ _ _ _ A E ω s va vb Rm S R ra rb=>by
 (refine y5 ra fun _ t z160=>?_;clear ra;subst z160);subst rb
 exact wpAny_isNot_other rfl (fun e=>nomatch e) (j6 S R w7 h)
theorem c4c {i:Int}(h:K (.int (-i)) σ):unH .USub (.int i) σ K:=fun _ _ _ _ _ A E ω s va S R ra=>by
 (refine o_e ra fun t z164=>?_;clear ra;refine rr z164 ?_)
 exact PyProof.Rows.neg_int (m9 S R U5 h _)
end
end
section
section
variable {prog:Program}{w:World}{A:Around}{E:Value->Shared->Prop}{B0:Heap}{os:OsState}{gs:TQ}{ω:Own}{s:Shared}{σ:St}{K:KV}
theorem J2 (slice:Expr) (o i:Value):∃ ops,subscripted slice false o i=operate ops (getItem o i):=by
 induction slice using Expr.casesOn with
 | Slice lo hi st p=>cases lo<;>cases hi<;>cases st<;>exact⟨_,rfl⟩
 | _=>exact⟨_,rfl⟩
theorem a4q {l:Addr}{vs:List Value}{i:Int}{u:Tok}{k:Nat}{v:Value}{Q:Value->Shared->Prop}(hl:s.heap.IsList l vs.toArray) (hz:i.natAbs<2 ^ 62) (hk:seqIndex? i vs.length=some k) (hv:vs[k]? = some v) (h:Q v s) :
 wpAny (model prog w) A (getItem (.ref l) (.int i u)) Q E s:=by
 unfold seqIndex? at hk
 by_cases h0:i<0
 · rw[if_pos h0] at hk
   simp only[Bool.and_eq_true,decide_eq_true_eq] at hk
   split at hk
   · (replace hk:=Option.some.inj hk;subst hk)
     rename_i hc
     exact wpAny_getItem_list_neg hl h0 (by exact c3c hc) (a4j hz) (by simpa using hv) h
   · exact c7 hk
 · rw[if_neg h0] at hk
   dsimp only[Bool.and_eq_true,decide_eq_true_eq] at hk
   split at hk
   · (replace hk:=Option.some.inj hk;subst hk)
     exact wpAny_getItem_list hl (Int.not_lt.mp h0) (a4b hz) (by simpa using hv) h
   · exact c7 hk
theorem a99 (n:Nat) (i:Int):clipAt n i<=n:=by exact Int.toNat_le.mpr (Int.max_le.mpr ⟨Int.natCast_nonneg _,Int.min_le_right _ _⟩)
theorem a6c (l:List Nat) (lo hi:Option Int):((Builtin.Str.strSliceIndices lo hi 1 l.length).filterMap (l.toArray[·]?))=slc l lo hi:=by
 have e:Builtin.Str.strSliceIndices lo hi 1 l.length=sliceRange (sliceBounds lo hi none l.length).1 (sliceBounds lo hi none l.length).2.1 1:=by
  cases lo<;>cases hi<;>rfl
 rw[e,sliceBounds_plain]
 simp only[sliceRange_one,pick_run]
 unfold slc;simp
end
noncomputable def a5w (o i:HV) (σ:St) (K:KV):Prop:=∀ ⦃prog:Program⦄ ⦃w:World⦄ ⦃B0:Heap⦄ ⦃os:OsState⦄ ⦃gs:TQ⦄ (A:Around) (E:Value->Shared->Prop) (ω:Own) (s:Shared) (value slice:Expr) (vo vi:Value),MS B0 os ω gs s->RelS ω σ->Rd ω o vo->Rd ω i vi->
 wpAny (model prog w) A (PyProof.Rows.subscriptTail value slice vo vi) (PostV B0 os gs ω K) E s
noncomputable def slH (o:HV) (lo hi:Option Int) (σ:St) (K:KV):Prop:=∀ ⦃prog:Program⦄ ⦃w:World⦄ ⦃B0:Heap⦄ ⦃os:OsState⦄ ⦃gs:TQ⦄ (A:Around) (E:Value->Shared->Prop) (ω:Own) (s:Shared) (value:Expr) (p:Pos) (el eh:Option Expr) (vo vl vh:Value),MS B0 os ω gs s->RelS ω σ->Rd ω o vo->IsPart vl lo->IsPart vh hi->
 wpAny (model prog w) A (PyProof.Rows.subscriptTail value (.Slice el eh none p) vo (.ref s.heap.objs.size)) (PostV B0 os gs ω K) E { s with heap:=s.heap.push { cls:=.type "slice",data:=.fields #[vl,vh,.none] } }
section
variable {σ:St}{K:KV}
theorem A6 {l:List Nat}{i:Int}{c:Nat}(hz:i.natAbs<2 ^ 62) (e:at? l i=some c) (h:K (.str [c]) σ):a5w (.str l) (.int i) σ K:=fun prog w B0 os gs A E ω s value slice vo vi S R ra rb=>by
 obtain⟨ops,hops⟩:=J2 slice vo vi
 obtain⟨hl,t,rfl⟩:=ra;obtain⟨u,rfl⟩:=rb
 obtain⟨k,hk,hx,hkl⟩:=N5 e
 refine PyProof.Rows.tail_any (typeIs_str s _ t) PySem.F.slot_str_getitem.lookup (PyProof.Rows.getItem_str (c:=c) ?_ ?_ (m9 S R ?_ h _)) hops
 · simp only[Bool.or_eq_false_iff,decide_eq_false_iff_not];exact⟨Int.not_lt.mpr (Int.le_of_lt (Int.lt_trans (by decide) (nb hz).1)),Int.not_le.mpr (Int.lt_trans (nb hz).2 (by decide))⟩
 · simp only[Str.length,List.size_toArray,hk,Option.bind_some];simpa using hx
 · simp only[Rd];exact⟨by rw[c8];simp,_,rfl⟩
theorem y2 {l:List HV}{i:Int}{c:HV}(hz:i.natAbs<2 ^ 62) (e:at? l i=some c) (h:K c σ):a5w (.list l) (.int i) σ K:=fun prog w B0 os gs A E ω s value slice vo vi S R ra rb=>by
 obtain⟨ops,hops⟩:=J2 slice vo vi
 obtain⟨u,rfl⟩:=rb
 obtain⟨_,a,vs,rfl,hl,r2⟩:=G7 S ra
 obtain⟨k,hk,hx,hkl⟩:=N5 e
 obtain⟨v,hv,rv⟩:=r2.get hx
 refine PyProof.Rows.tail_any hl.typeIs slot_list_getitem.lookup (a4q hl hz (by rw[r2.length];exact hk) hv (j6 S R rv h)) hops
theorem a05 {a:Addr}{l:List HV}{i:Int}{c:HV}(hz:i.natAbs<2 ^ 62) (e1:σ a=some l) (e:at? l i=some c) (h:K c σ):a5w (.obj a) (.int i) σ K:=fun prog w B0 os gs A E ω s value slice vo vi S R ra rb=>by
 obtain⟨ops,hops⟩:=J2 slice vo vi
 obtain⟨u,rfl⟩:=rb
 obtain⟨rfl,_,vs,_,hl,r2⟩:=Y3 S R ra e1
 obtain⟨k,hk,hx,hkl⟩:=N5 e
 obtain⟨v,hv,rv⟩:=r2.get hx
 refine PyProof.Rows.tail_any hl.typeIs slot_list_getitem.lookup (a4q hl hz (by rw[r2.length];exact hk) hv (j6 S R rv h)) hops
theorem a4w {l:List HV}{i:Int}{c:HV}(hz:i.natAbs<2 ^ 62) (e:at? l i=some c) (h:K c σ):a5w (.tup l) (.int i) σ K:=fun prog w B0 os gs A E ω s value slice vo vi S R ra rb=>by
 obtain⟨ops,hops⟩:=J2 slice vo vi
 obtain⟨u,rfl⟩:=rb
 obtain⟨_,a,vs,rfl,hl,r2⟩:=T1 S ra
 obtain⟨k,hk,hx,hkl⟩:=N5 e
 obtain⟨v,hv,rv⟩:=r2.get hx
 refine PyProof.Rows.tail_any hl.typeIs PyProof.Rows.slot_tuple_getitem.lookup (PyProof.Rows.getItem_tuple hl (a4j hz) (a4b hz) (by simpa [r2.length] using hk) (by simpa using hv) (j6 S R rv h)) hops
theorem a52 {l:List UInt8}{i:Int}{c:UInt8}(hz:0<=i) (e:l[i.toNat]? = some c) (h:K (.int c.toNat) σ):a5w (.bytes l) (.int i) σ K:=fun _ _ _ _ _ A E ω s value slice vo vi S R ra rb=>by
 obtain⟨ops,hops⟩:=J2 slice vo vi
 obtain⟨hl,t,rfl⟩:=ra;obtain⟨u,rfl⟩:=rb
 have hlt:=(List.getElem?_eq_some_iff.mp e).1
 have hg:l.getD i.toNat 0=c:=by rw[List.getD_eq_getElem?_getD,e];rfl
 refine PyProof.Rows.tail_any (typeIs_bytes s _ t) FB.slot_bytes_getitem.lookup (getItem_bytes (by have:=c8;exact c1k this hl) hz (Int.lt_of_le_of_lt (Int.self_le_toNat _) (Int.ofNat_lt.mpr hlt)) (m9 S R ?_ h _)) hops
 rw[hg];simp[Rd]
theorem a63 {prog:Program}{w:World}{B0:Heap}{os:OsState}{gs:TQ}{A:Around}{E:Value->Shared->Prop}{ω:Own}{s:Shared}{vl vh:Value}{X:Sem Value}(S:MS B0 os ω gs s) (R:RelS ω σ)
 (H:∀ ω',Le ω ω'->MS B0 os ω' gs { s with heap:=s.heap.push { cls:=.type "slice",data:=.fields #[vl,vh,.none] } }->RelS ω' σ->(s.heap.push { cls:=.type "slice",data:=.fields #[vl,vh,.none] }).IsSliceOf s.heap.objs.size vl vh .none->
  wpAny (model prog w) A X (PostV B0 os gs ω' K) E { s with heap:=s.heap.push { cls:=.type "slice",data:=.fields #[vl,vh,.none] } }) :
 wpAny (model prog w) A X (PostV B0 os gs ω K) E { s with heap:=s.heap.push { cls:=.type "slice",data:=.fields #[vl,vh,.none] } }:=
 wpAny_mono (H _ (Le.new _ S.unused) (S.push _ (m:=.fz { cls:=.type "slice",data:=.fields #[vl,vh,.none] }) (Heap.get?_push_size _ rfl)) (R.new S.unused) (Heap.IsSliceOf.new ..))
  (fun v s' ⟨h,ω',σ',a,b,c,d,e⟩=>⟨h,ω',σ',(Le.new _ S.unused).trans a,b,c,d,e⟩) fun _ _ h=>h
theorem b5d {l : List Nat} {lo hi : Option Int} (h : K (.str (slc l lo hi)) σ) : slH (.str l) lo hi σ K := fun prog w B0 os gs A E ω s value p el eh vo vl vh S R ra pl ph => by
  obtain ⟨ops, hops⟩ := J2 (.Slice el eh none p) vo (.ref s.heap.objs.size)
  refine a63 S R fun ω' l' S' R' hsl => ?_
  have ra' := ra.mono l'
  obtain ⟨hl, t, rfl⟩ := ra'
  obtain ⟨lo', rfl, rfl⟩ : ∃ lo' : Option (Int × Tok), vl = partValue lo' /\ lo = lo'.map (·.1) := by
    cases pl with
    | none => exact ⟨none, rfl, rfl⟩
    | int i t => exact ⟨some (i, t), rfl, rfl⟩
  obtain ⟨hi', rfl, rfl⟩ : ∃ lo' : Option (Int × Tok), vh = partValue lo' /\ hi = lo'.map (·.1) := by
    cases ph with
    | none => exact ⟨none, rfl, rfl⟩
    | int i t => exact ⟨some (i, t), rfl, rfl⟩
  refine PyProof.Rows.tail_any (typeIs_str _ _ t) PySem.F.slot_str_getitem.lookup (wpAny_getItem_str_slice (l := lo') (u := hi') (st := none) ⟨_, Heap.get?_push_size _ rfl, rfl, rfl⟩ rfl ?_) hops
  unfold sliceMade slicePicked
  split
  · rename_i hq
    simp only [Option.map_none, Option.getD_none, beq_self_eq_true, Bool.true_and, beq_iff_eq] at hq
    have hw : slc l (lo'.map (·.1)) (hi'.map (·.1)) = l := by
      have h1 := a6c l (lo'.map (·.1)) (hi'.map (·.1))
      have h2 : (slc l (lo'.map (·.1)) (hi'.map (·.1))).length = l.length := by
        have e : Builtin.Str.strSliceIndices (lo'.map (·.1)) (hi'.map (·.1)) 1 l.length = sliceRange (sliceBounds (lo'.map (·.1)) (hi'.map (·.1)) none l.length).1 (sliceBounds (lo'.map (·.1)) (hi'.map (·.1)) none l.length).2.1 1 := by
          cases lo' <;> cases hi' <;> rfl
        have e2 : (⟨l.toArray⟩ : Str).length = l.length := by simp [Str.length]
        rw [e2, e, sliceBounds_plain] at hq
        simp only [sliceRange_one, List.length_map, List.length_range] at hq
        unfold slc
        rw [List.length_take, List.length_drop]
        have b1 : ∀ x : Option Int, x.elim 0 (clipAt l.length) <= l.length := fun x => by cases x; exact Nat.zero_le _; exact a99 _ _
        have b2 : ∀ x : Option Int, x.elim l.length (clipAt l.length) <= l.length := fun x => by cases x; exact Nat.le_refl _; exact a99 _ _
        have := b1 (lo'.map (·.1)); have := b2 (hi'.map (·.1)); exact (Nat.min_eq_left (Nat.sub_le_sub_right this _)).trans hq
      unfold slc at h2 ⊢
      rw [List.length_take, List.length_drop] at h2
      by_cases z : l.length = 0
      · have : l = [] := List.eq_nil_of_length_eq_zero z; subst this; simp
      · have h3 : (lo'.map (·.1)).elim 0 (clipAt l.length) = 0 := c23 h2 z
        rw [h3, List.drop_zero, List.take_of_length_le]
        rw [h3] at h2; exact Nat.le_trans (lq h2.symm) (Nat.min_le_left _ _)
    exact j6 S' R' (by simp only [Rd]; exact ⟨by rw [hw]; exact hl, t, by rw [hw]⟩) h
  · have e3 : ((Builtin.Str.strSliceIndices (lo'.map (·.1)) (hi'.map (·.1)) 1 (⟨l.toArray⟩ : Str).length).filterMap ((⟨l.toArray⟩ : Str).cps[·]?)) = slc l (lo'.map (·.1)) (hi'.map (·.1)) := by
      have e2 : (⟨l.toArray⟩ : Str).length = l.length := by simp [Str.length]
      rw [e2]; exact a6c l _ _
    show (Made.str ⟨(List.filterMap _ (Builtin.Str.strSliceIndices _ _ 1 _)).toArray⟩).post _ _
    rw [e3]
    have hle := a5t l (lo'.map (·.1)) (hi'.map (·.1))
    exact ⟨by simp only [Str.length, List.size_toArray]; exact ar1 hle hl, m9 S' R' (by simp only [Rd]; exact ⟨ar1 hle hl, _, rfl⟩) h _⟩
theorem b32 {l:List HV}{lo hi:Option Int}(h:K (.list (slc l lo hi)) σ):slH (.list l) lo hi σ K:=fun prog w B0 os gs A E ω s value p el eh vo vl vh S R ra pl ph=>by
 obtain⟨ops,hops⟩:=J2 (.Slice el eh none p) vo (.ref s.heap.objs.size)
 refine a63 S R fun ω' l' S' R' hsl=>?_
 have ra':=ra.mono l'
 obtain⟨hz,a,vs,rfl,hl,r2⟩:=G7 S' ra'
 have hle:=a5t l lo hi
 refine PyProof.Rows.tail_any hl.typeIs slot_list_getitem.lookup (wpAny_getItem_list_slice hl hsl pl ph .none (fun e=>nomatch e) ?_ (by simp only[List.size_toArray,r2.length];exact hz)) hops
 rw[b2q]
 exact F6 S' R' (ar1 hle hz) (r2.slc lo hi) h _
theorem b1f {l:List UInt8}{lo hi:Option Int}(h:K (.bytes (slc l lo hi)) σ):slH (.bytes l) lo hi σ K:=fun prog w B0 os gs A E ω s value p el eh vo vl vh S R ra pl ph=>by
 obtain⟨ops,hops⟩:=J2 (.Slice el eh none p) vo (.ref s.heap.objs.size)
 refine a63 S R fun ω' l' S' R' hsl=>?_
 have ra':=ra.mono l'
 obtain⟨hl,t,rfl⟩:=ra'
 have hle:=a5t l lo hi
 have e:KBy.picked ⟨l⟩ lo hi=⟨slc l lo hi⟩:=by rw[KBc.picked_eq];rfl
 refine PyProof.Rows.tail_any (typeIs_bytes _ _ t) FB.slot_bytes_getitem.lookup (getItem_meets (typeIs_bytes _ _ _) (by decide) FB.slot_bytes_getitem FB.entry_bytes_getitem (FB.args_bytes_getitem_2 _ _) (KBc.meets_slice2 ⟨l⟩ t _ pl ph)
  ⟨hsl,by rw[e];show (slc l lo hi).length<=_;exact ar1 hle hl,fun t' k=>?_⟩) hops
 rw[e]
 exact m9 S' R' (h:=.bytes (slc l lo hi)) (by simp only[Rd];exact⟨by exact ar1 hle hl,t',rfl⟩) h _
end
end
section
theorem a9s:mroOf (.type "object")=pure [.type "object"]:=by kernel_rfl
theorem a3k:typeLookup (.type "object") "__new__" = pure (some (.builtin "object.__new__")):=by kernel_rfl
theorem a3x:Slot "object" "__init__" "object.__init__" :=
 .of (owner:="object") (n:="__init__") (by kernel_rfl) (by decide +kernel) (by decide +kernel) (by decide +kernel)
  (by first | exact .inl (by decide +kernel) | exact .inr (by decide +kernel)) (by kernel_rfl)
theorem a8i:TypeCalled "object" "object.__new__" "object.__init__" :=
 ⟨by decide +kernel,by decide +kernel,(a86 _ _ a9s),madeBy_type a9s a3k (by decide +kernel),by decide +kernel,by kernel_rfl,a3x⟩
theorem a5c:checkTypeCall "object" ⟨[],[]⟩=pure ():=by kernel_rfl
theorem a76:checkBuiltinCall "object.__new__" ⟨[.type "object"],[]⟩=pure ():=by kernel_rfl
theorem b2g:Bind.madeHere "object.__new__" (.type "object")=pure ():=by
 first | kernel_rfl
theorem a44:Meets (Builtin.«object.__new__» ⟨[.type "object"],[]⟩) (fun _ R s=>R (.ok (.ret (.ref s.heap.objs.size))) { s with heap:=s.heap.push { cls:=.type "object",data:=.plain } }):=by
 refine Meets.of_wp fun prog w A R s hs=>?_
 dsimp only[Builtin.«object.__new__»]
 have f1:=b2g
 repeat (any_goals (first | assumption | wp_step))
 exact⟨_,rfl,hs⟩
section
variable {prog:Program}{w:World}{A:Around}{E:Value->Shared->Prop}{s:Shared}
theorem a36 (o:Value):Meets (Builtin.«object.__init__» ⟨[o],[]⟩) (fun _ R s=>R (.ok (.ret .none)) s):=by
 refine Meets.of_wp fun prog w A R s hs=>?_
 exact wpAny_pure (j1 _ rfl hs)
theorem b20 {Q:Value->Shared->Prop} (h:Q (.ref s.heap.objs.size) { s with heap:=s.heap.push { cls:=.type "object",data:=.plain } }):wpAny (model prog w) A (call (.type "object") []) Q E s:=
 callType_meets (Q₁:=fun o s₁=>o=.ref s.heap.objs.size/\s₁ = { s with heap:=s.heap.push { cls:=.type "object",data:=.plain } }) a8i a5c a76 F.entry_object_new F.entry_object_init a44 ⟨rfl,rfl⟩ fun o s₁ hq=>by
  (refine o_a hq fun z513 z514=>?_;clear hq;subst z513;subst z514)
  exact(b40 ((j1 _ (Heap.get?_push_size _ rfl) rfl)) (F.args_object_init_1 _) _ (a36 _) ⟨rfl,h⟩)
end
end
section
section
variable {prog:Program}{w:World}{A:Around}{E:Value->Shared->Prop}{B0:Heap}{os:OsState}{gs:TQ}{ω:Own}{s:Shared}{σ:St}{K:KV}
theorem RdL.one {ω:Own}{x:HV}{vs:List Value}(r:RdL ω [x] vs):∃ v,vs=[v]/\Rd ω x v:=by
 simp only[RdL] at r;(refine d9 r fun v q z175 h z176=>?_;clear r;subst z175;subst z176);exact(j1 v rfl h)
theorem RdL.two {ω:Own}{x y:HV}{vs:List Value}(r:RdL ω [x,y] vs):∃ v u,vs=[v,u]/\Rd ω x v/\Rd ω y u:=by
 (refine d9 r fun v q z187 h z188=>?_;clear r;refine rr z187 ?_;refine d9 z188 fun u q2 z189 h2 z190=>?_;refine rr z189 ?_;refine rr z190 ?_);exact(j7 v u rfl h h2)
theorem a3r:∀ {xs:List HV}{ns:List Int}{vs:List Value},V7 xs=some ns->RdL ω xs vs->PyProof.Rows.IntsAre vs ns:=by
 intro xs0
 induction xs0 with
 | nil=>
  exact @fun ns vs h r=>by
   simp only[RdL] at r;subst r
   simp only[V7,Option.some.injEq] at h;subst h
   exact .nil
 | cons y ys ih=>
  exact @fun ns vs h r=>by
   induction y using HV.casesOn with
   | int i=>
     simp only[RdL] at r
     (refine d9 r fun v q z215 h1 h2=>?_;clear r;subst z215)
     simp only[Rd] at h1
     (refine o_e h1 fun t z223=>?_;clear h1;subst z223)
     rw[V7,Option.map_eq_some_iff] at h
     (refine c9 h fun m hm z207=>?_;clear h;subst z207)
     exact .cons _ t (ih hm h2)
   | _=>simp[V7] at h
theorem N3 (sep:List Nat):∀ ts:List (List Nat),(Str.join ⟨sep.toArray⟩ (ts.map fun t=>(⟨t.toArray⟩:Str)))=⟨(sep.intercalate ts).toArray⟩
 | []=>rfl
 | [x]=>by simp[Str.join,List.intercalate]
 | x::y::r=>by
  have h:=N3 sep (y::r)
  simp only[List.map_cons,List.map_cons] at *
  show (⟨x.toArray⟩:Str)++⟨sep.toArray⟩++Str.join ⟨sep.toArray⟩ (_::_)=_
  simp only[h,G5,G5]
  congr 2
  simp[List.intercalate,List.intersperse]
theorem W3 (sep:List Nat):∀ ts:List (List Nat),(sep.intercalate ts).length<=(ts.map fun t=>t.length+sep.length).sum
 | []=>by simp[List.intercalate]
 | [x]=>by simp[List.intercalate]
 | x::y::r=>by
  have h:=W3 sep (y::r)
  refine rr (show sep.intercalate (x::y::r)=x++sep++sep.intercalate (y::r) from by simp[List.intercalate,List.intersperse]) ?_
  simp only[List.length_append,List.map_cons,List.sum_cons] at h ⊢
  exact c4d h
theorem b18:∀ {ys:List HV}{l:List (List Nat)}{vs:List Value},V0 ys=some l->RdL ω ys vs->∃ m:List (Str×Tok),vs=strValues m/\m.map (·.1)=l.map fun t=>(⟨t.toArray⟩:Str):=by
 intro xs0
 induction xs0 with
 | nil=>
  exact @fun l vs h r=>by
   simp only[RdL] at r;refine rr r ?_
   (replace h:=Option.some.inj h;subst h)
   exact(j1 ([]) rfl rfl)
 | cons y ys ih=>
  exact @fun l vs h r=>by
   induction y using HV.casesOn with
   | str x=>
     simp only[RdL] at r
     (refine d9 r fun v q z241 h1 h2=>?_;clear r;refine rr z241 ?_)
     simp only[Rd] at h1
     (refine y5 h1 fun _ t z237=>?_;clear h1;refine rr z237 ?_)
     replace h:=Option.map_eq_some_iff.mp h
     (refine c9 h fun m hm z233=>?_;clear h;subst z233)
     (refine c9 (ih hm h2) fun k z230 hk=>?_;refine rr z230 ?_)
     exact(j1 ((⟨x.toArray⟩,t)::k) rfl (by simp[hk]))
   | _=>exact c7 h
theorem a5e {sep:List Nat}{t:Tok}{a:Addr}{ys:List HV}{ts:List (List Nat)}{vs:List Value}(S:MS B0 os ω gs s) (R:RelS ω σ) (hl:s.heap.IsList a vs.toArray) (r:RdL ω ys vs) (e:V0 ys=some ts)
 (hz:(ts.map (fun t=>t.length+sep.length)).sum<=sizeLine) (H:K (.str (sep.intercalate ts)) σ):wpAny (model prog w) A (call (.builtin "str.join") [.str ⟨sep.toArray⟩ t,.ref a]) (PostV B0 os gs ω K) E s:=by
 (refine c9 (b18 e r) fun m z248 hm=>?_;clear r;subst z248)
 refine call_meets PySem.F.slot_str_join (typeIs_str s _ t) PySem.F.entry_str_join (PySem.F.args_str_join_2 _ _) (meets_str_join_list _ t a m (show Builtin.Str.tooLong ((m.map (·.1)).toArray.foldl (· + ·.length+(⟨sep.toArray⟩:Str).length) 0)=false from by
  refine rr (show (m.map (·.1)).toArray.foldl (· + ·.length+(⟨sep.toArray⟩:Str).length) 0=(ts.map fun t=>t.length+sep.length).sum from by
  have key:∀ (l:List Str) (n:Nat),l.toArray.foldl (· + ·.length+(⟨sep.toArray⟩:Str).length) n=n+(l.map fun x=>x.length+sep.length).sum:=by
   intro l
   induction l with
   | nil=>intro n;rfl
   | cons x l ih=>
     intro n
     have:=ih (n+x.length+(⟨sep.toArray⟩:Str).length)
     simp only[List.foldl_toArray',List.foldl_cons,List.map_cons,List.sum_cons,List.size_toArray] at this ⊢
     simp only[this]
     exact b85
  (refine rr (key ..) ?_;refine rr hm ?_;refine rr (Nat.zero_add ..) ?_;refine rr List.map_map ?_)
  congr 1) ?_;exact decide_eq_false (Nat.not_lt_of_le hz))) ⟨hl,post_join m ⟨?_,fun t' k=>?_⟩⟩
 · refine rr hm ?_
   show (Builtin.Str.glued _ _).length<=_
   (refine rr (StrLaws.glued_eq_join ..) ?_;refine rr (N3 ..) ?_)
   have:=W3 sep ts
   simp only[Str.length,List.size_toArray];exact ar1 this hz
 · refine rr (show Txt.join (⟨sep.toArray⟩:Str) (m.map (·.1))=⟨(sep.intercalate ts).toArray⟩ from by
  refine rr hm ?_
  show Builtin.Str.glued _ _=_
  (refine rr (StrLaws.glued_eq_join ..) ?_;exact rr (N3 ..) rfl)) ?_
   exact m9 S R (by exact(Y7 (by have:=W3 sep ts;exact ar1 this hz) _ rfl)) H _
theorem b0k {a:Addr}{h:HV}{v:Value}{l:List HV}(S:MS B0 os ω gs s) (R:RelS ω σ) (e:σ a=some l) (hz:l.length<sizeLine) (r:Rd ω h v) (H:K .none (σ.put a (l++[h]))) :
 wpAny (model prog w) A (call (.builtin "list.append") [.ref a,v]) (PostV B0 os gs ω K) E s:=by
 refine D9 (R a l e) fun _ vs h1 r2=>?_
 refine o_e (S.hold _ _ h1) fun n ho=>?_
 have hl:s.heap.IsList a vs.toArray:=(y7 _ ho rfl ⟨n,rfl⟩)
 have hvl:=r2.length
 refine wpAny_call_entry slot_list_append hl.typeIs entry_list_append ?_ (args_list_append _ _)
 show wpAny _ _ (updateSeq a (·.push v) >>= fun _=>ret .none) _ _ s
 refine wpAny_bind ?_
 refine wpAny_updateSeq ho rfl (wpAny_pure (j1 .none rfl ?_)) (by simp;exact c4v hz hvl) (by simp;exact c4v hz hvl)
 refine⟨.none,_,_,Le.lst h1,S.same h1 rfl (Heap.SameBut.update ..) (m:=.lst (vs++[v])) ?_ _,R.put h1 (by simp;assumption) (r2.append (by exact(j7 v ([]) rfl r rfl))),by exact rfl,H⟩
 refine⟨n+1,?_⟩
 have:=Heap.get?_update_self (Obj.mapSeq (·.push v)) ho rfl
 simp only[this]
 simp[Obj.mapSeq]
end
noncomputable def biH (id:String) (args:List HV) (σ:St) (K:KV):Prop:=∀ ⦃prog:Program⦄ ⦃w:World⦄ ⦃B0:Heap⦄ ⦃os:OsState⦄ ⦃gs:TQ⦄ ⦃n:Nat⦄ (A:Around) (E:Value->Shared->Prop) (ω:Own) (s:Shared) (vs:List Value),Room n A->MS B0 os ω gs s->RelS ω σ->RdL ω args vs->
 wpAny (model prog w) A (call (.builtin id) vs) (PostV B0 os gs ω K) E s
noncomputable def tyH (t:String) (args:List HV) (σ:St) (K:KV):Prop:=∀ ⦃prog:Program⦄ ⦃w:World⦄ ⦃B0:Heap⦄ ⦃os:OsState⦄ ⦃gs:TQ⦄ ⦃n:Nat⦄ (A:Around) (E:Value->Shared->Prop) (ω:Own) (s:Shared) (vs:List Value),Room n A->MS B0 os ω gs s->RelS ω σ->RdL ω args vs->
 wpAny (model prog w) A (call (.type t) vs) (PostV B0 os gs ω K) E s
noncomputable def C5 (Γ:Spx) (f:HV) (args:List HV) (σ:St) (K:KV):Prop:=
 match f with
 | .val (.builtin id)=>biH id args σ K
 | .val (.type t)=>tyH t args σ K
 | .bm a=>(match args with
  | [x]=>∃ l,σ a=some l/\l.length<sizeLine/\K .none (σ.put a (l++[x]))
  | _=>False)
 | .val v=>(match Γ.f v with
  | some sp=>sp args σ K
  | none=>False)
 | _=>False
noncomputable def a6n (o:HV) (name:Str) (args:List HV) (σ:St) (K:KV):Prop:=
 if name=Str.ofString "append" then (match o,args with
  | .obj a,[x]=>∃ l,σ a=some l/\l.length<sizeLine/\K .none (σ.put a (l++[x]))
  | _,_=>False)
 else if name=Str.ofString "join" then (match o,args with
  | .str l,[xs]=>∃ ys ts,K1 xs σ=some ys/\V0 ys=some ts/\(ts.map (fun t=>t.length+l.length)).sum<=sizeLine/\K (.str (l.intercalate ts)) σ
  | _,_=>False)
 else False
section
variable {Γ:Spx}{σ:St}{K:KV}
theorem a46 {l:List Nat}(h:K (.int l.length) σ):C5 Γ (.val (.builtin "len")) [.str l] σ K:=show biH "len" [.str l] σ K from fun _ _ _ _ _ _ A E ω s vs Rm S R r=>by
 (refine c9 r.one fun v z297 q=>?_;refine rr z297 ?_)
 (refine y5 q fun hz t z294=>?_;clear q;refine rr z294 ?_)
 refine PyProof.Rows.len_str (by simp[Str.length];exact b6g c8 hz) (m9 S R ?_ h _)
 simp[Rd,Str.length]
theorem a3h {l:List HV}(h:K (.int l.length) σ):C5 Γ (.val (.builtin "len")) [.list l] σ K:=show biH "len" [.list l] σ K from fun _ _ _ _ _ _ A E ω s vs Rm S R r=>by
 (refine c9 r.one fun v z306 q=>?_;refine rr z306 ?_)
 (refine q9 (G7 S q) fun hz a ws z303 hl r2=>?_;refine rr z303 ?_)
 refine PyProof.Rows.len_list hl (by simp[r2.length];exact b6g c8 hz) (m9 S R ?_ h _)
 simp[Rd,r2.length]
theorem a13 {l:List UInt8}(h:K (.int l.length) σ):C5 Γ (.val (.builtin "len")) [.bytes l] σ K:=show biH "len" [.bytes l] σ K from fun _ _ _ _ _ _ A E ω s vs Rm S R r=>by
 (refine c9 r.one fun v z318 q=>?_;refine rr z318 ?_)
 (refine y5 q fun hz t z315=>?_;clear q;refine rr z315 ?_)
 refine len_bytes (by exact c1k c8 hz) (m9 S R ?_ h _)
 simp[Rd]
theorem b0l {a:Addr}{l:List HV}(e:σ a=some l) (h:K (.int l.length) σ):C5 Γ (.val (.builtin "len")) [.obj a] σ K:=show biH "len" [.obj a] σ K from fun _ _ _ _ _ _ A E ω s vs Rm S R r=>by
 (refine c9 r.one fun v z323 q=>?_;refine rr z323 ?_)
 (refine W9 (Y3 S R q e) fun z320 hz ws _ hl r2=>?_;refine rr z320 ?_)
 refine PyProof.Rows.len_list hl (by simp[r2.length];exact b6g c8 hz) (m9 S R ?_ h _)
 simp[Rd,r2.length]
theorem a2l {i:Int}(h1:0<=i/\i<=1114111) (h:K (.str [i.toNat]) σ):C5 Γ (.val (.builtin "chr")) [.int i] σ K:=show biH "chr" [.int i] σ K from fun _ _ _ _ _ _ A E ω s vs Rm S R r=>by
 have ln:=c8
 (refine c9 r.one fun v z335 q=>?_;refine rr z335 ?_)
 (refine o_e q fun t z342=>?_;clear q;refine rr z342 ?_)
 exact PyProof.Rows.chr_of_range h1.1 h1.2 (m9 S R (by exact(Y7 (by simp;exact Nat.le_add_left _ _) _ rfl)) h _)
theorem c41 {c:Nat}(h:K (.int c) σ):C5 Γ (.val (.builtin "ord")) [.str [c]] σ K:=show biH "ord" [.str [c]] σ K from fun _ _ _ _ _ _ A E ω s vs Rm S R r=>by
 (refine c9 r.one fun v z349 q=>?_;refine rr z349 ?_)
 (refine y5 q fun hz t z346=>?_;clear q;refine rr z346 ?_)
 refine PyProof.Rows.ord_of_one (by rfl) (m9 S R ?_ h _)
 simp[Rd]
theorem c1t {i j:Int}(h:K (.int (min i j)) σ):C5 Γ (.val (.builtin "min")) [.int i,.int j] σ K:=show biH "min" [.int i,.int j] σ K from fun _ _ _ _ _ _ A E ω s vs Rm S R r=>by
 (refine d9 r.two fun v u z363 r1 r2=>?_;refine rr z363 ?_)
 obtain⟨t,rfl⟩:=r1;obtain⟨t2,rfl⟩:=r2
 refine min_two_ints Rm.handled fun h' tk hk=>?_
 refine a0n S R ?_ h hk tk
 by_cases c:j<i
 · (refine rr (if_pos c) ?_;refine rr (show min i j=j by exact Int.min_eq_right (Int.le_of_lt c)) ?_);exact⟨_,rfl⟩
 · (refine rr (if_neg c) ?_;refine rr (show min i j=i by exact Int.min_eq_left (Int.not_lt.mp c)) ?_);exact⟨_,rfl⟩
theorem c2t {x:List Nat}(h:K (.bool true) σ):C5 Γ (.val (.builtin "isinstance")) [.str x,.val (.type "str")] σ K:=show biH "isinstance" [.str x,.val (.type "str")] σ K from fun _ _ _ _ _ _ A E ω s vs Rm S R r=>by
 (refine d9 r.two fun v u z382 r1 r2=>?_;refine rr z382 ?_)
 (refine y5 r1 fun _ t z379=>?_;clear r1;refine rr z379 ?_);refine rr r2 ?_
 exact PySem.IsiPair.str_str (j6 S R w7 h)
theorem K7 {i:Int}(h1:i.natAbs<2 ^ 62) (h:K (.rng 0 i) σ):C5 Γ (.val (.type "range")) [.int i] σ K:=show tyH "range" [.int i] σ K from fun _ _ _ _ _ _ A E ω s vs Rm S R r=>by
 (refine c9 r.one fun v z389 q=>?_;refine rr z389 ?_)
 (refine o_e q fun t z396=>?_;clear q;refine rr z396 ?_)
 refine call_range_1 (J8 S R rfl ?_ h _)
 exact(A8 (by decide) h1 (D4 _ _ _ _ ⟨rfl,Own.set_self ..⟩))
theorem b2i {i:Int}(h1:i.natAbs<2 ^ 62) (h:K (.str (Str.ofString (toString i)).cps.toList) σ):C5 Γ (.val (.type "str")) [.int i] σ K:=show tyH "str" [.int i] σ K from fun _ _ _ _ _ _ A E ω s vs Rm S R r=>by
 (refine c9 r.one fun v z403 q=>?_;refine rr z403 ?_)
 (refine o_e q fun t z424=>?_;clear q;refine rr z424 ?_)
 refine PySem.P.str_of_int (Nat.lt_trans ((if z:i.natAbs=0 then by rw[z];decide else (Nat.log2_lt z).mpr h1):i.natAbs.log2<62) (by decide)) (m9 S R ?_ h _)
 refine(Y7 ?_ s.toks ?_)
 · have h5:=int_text_fits (a:=i) (Nat.lt_trans ((if z:i.natAbs=0 then by rw[z];decide else (Nat.log2_lt z).mpr h1):i.natAbs.log2<62) (by decide))
   exact h5
 · exact rr (a0l ..) rfl
theorem b5y {xs:List HV}{ns:List Int}(h1:V7 xs=some ns) (h2:∀ n∈ns,0<=n/\n<256) (h:K (.bytes (ns.map fun n=>n.toNat.toUInt8)) σ):C5 Γ (.val (.type "bytes")) [.list xs] σ K:=show tyH "bytes" [.list xs] σ K from fun _ _ _ _ _ _ A E ω s vs Rm S R r=>by
 (refine c9 r.one fun v z430 q=>?_;refine rr z430 ?_)
 (refine q9 (G7 S q) fun hz a ws z427 hl r2=>?_;refine rr z427 ?_)
 refine call_bytes_ints hl (a3r h1 r2) h2 (by refine rr r2.length ?_;exact hz) Rm.handled fun h' t k hk=>a0n S R ?_ h hk k
 refine(Y7 ?_ t rfl)
 (refine rr (List.length_map ..) ?_;refine rl ((a3r h1 r2).length) ?_;refine rr r2.length ?_);exact hz
theorem c3j (h:∀ a,K (.val (.ref a)) σ):C5 Γ (.val (.type "object")) [] σ K:=show tyH "object" [] σ K from fun _ _ _ _ _ _ A E ω s vs Rm S R r=>by
 simp only[RdL] at r
 refine rr r ?_
 exact b20 (J8 (o:={ cls:=.type "object",data:=.plain }) (h:=.val (.ref s.heap.objs.size)) S R rfl (by exact rfl) (h _) s.toks)
end
end
section
noncomputable def ItRd (ω:Own):ItK->List HV->Prop
 | .list l i,ys=>∃ o vs n xs,ω l=some (.fz o)/\o.cls=.type "list" /\ o.data=.seq (List.toArray vs) n/\RdL ω xs vs/\xs.length<=sizeLine/\ys=xs.drop i
 | .range x left,ys=>ys=(List.range left.toNat).map fun (k:Nat)=>HV.int (x+(k:Int))
 | .str ty x _ i,ys=>ty=(if x.cps.all (· < 128) then "str_ascii_iterator" else "str_iterator")/\ys=(x.cps.toList.drop i).map fun c=>HV.str [c]
 | .rangd x left,ys=>ys=(List.range left.toNat).map fun (k:Nat)=>HV.int (x-(k:Int))
 | .byt b _ i,ys=>ys=(b.toList.drop i).map fun c=>HV.int c.toNat
theorem ItRd.monoF {ω ω':Own}(l:LeF ω ω'){k:ItK}{ys:List HV}(r:ItRd ω k ys):ItRd ω' k ys:=by
 induction k using ItK.casesOn with
 | list a i=>refine N2 r fun o vs n xs h1 h2 h3 h4 h5 h6=>?_;exact(a1b o vs n xs (l _ _ h1) h2 h3 (h4.monoF l) h5 h6)
 | range x left=>exact r
 | str ty x t i=>exact r
 | rangd x left=>exact r
 | byt b t i=>exact r
section
variable {prog:Program}{w:World}{A:Around}{E:Value->Shared->Prop}{B0:Heap}{os:OsState}{gs:TQ}{ω:Own}{s:Shared}{σ:St}{K:KV}
theorem b08 {h:HV}{v:Value}{xs:List HV}{Q:Value->Shared->Prop}(S:MS B0 os ω gs s) (r:Rd ω h v) (e:I6 h=some xs)
 (H:∀ a k s',ω a=none->ItRd (ω.set a (.it k)) k xs->MS B0 os (ω.set a (.it k)) gs s'->Q (.ref a) s'):wpAny (model prog w) A (pyIter v) Q E s:=by
 induction h using HV.casesOn with
 | list ys=>
   (injection e with e;subst e)
   simp only[Rd] at r
   (refine y3 r fun hz a o vs n z162 h2 h3 h4 h5=>?_;clear r;subst z162)
   have l:=Le.new (OM.it (.list a 0)) S.unused
   refine wpAny_pyIter_list (a0i S h2 h3 h4) (H _ (.list a 0) _ S.unused ⟨o,vs,n,_,l.fz h2,h3,h4,h5.mono l,hz,by simp⟩ (S.push _ (m:=.it (.list a 0)) ⟨_,Heap.get?_push_size _ rfl,rfl,rfl⟩))
 | rng lo hi=>
   (have e:=Option.some.inj e;subst e)
   simp only[Rd] at r
   obtain⟨z1,z2,a,t,u,x,rfl,h2⟩:=r
   have hsz:Builtin.Range.rangeSize lo hi 1=((hi-lo).toNat:Int):=by
    unfold Builtin.Range.rangeSize
    (refine rr (if_pos (by decide)) ?_;refine rr (Int.ediv_one ..) ?_)
    refine ie rfl (fun _=>?_) fun _=>?_<;>lia
   refine wpAny_pyIter_range (S.hold _ _ h2) ?_ ?_
   · unfold Builtin.Range.small
     refine rr hsz ?_
     have e:∀ z:Int,-(2 ^ 63)<=z->z<2 ^ 63->Builtin.Range.rangeFitsLong z=true:=fun z h1 h2=>by unfold Builtin.Range.rangeFitsLong;simp;exact b2f h1 h2
     (rw[e lo (by exact a4j z1) (by exact a4b z1)];rw[e hi (by exact a4j z2) (by exact a4b z2)];rw[e 1 (by decide) (by decide)];rw[e _ (b8g) (b8q z2 z1)];refine rr (if_pos (by decide)) ?_;refine rr (e _ (b8c z2) (b93 z2)) ?_)
     simp
   · refine rr hsz ?_
     refine H _ (.range lo ((hi-lo).toNat:Int)) _ S.unused (by show _=_;simp only[Int.toNat_natCast]) (S.push _ (m:=.it (.range lo ((hi-lo).toNat:Int))) (Heap.get?_push_size _ rfl))
 | str l=>
   (injection e with e;subst e)
   simp only[Rd] at r
   (refine y5 r fun hz t z116=>?_;clear r;subst z116)
   by_cases ha:(⟨l.toArray⟩:Str).cps.all (· < 128)=true
   · refine wpAny_pyIter_ascii ha (H _ (.str "str_ascii_iterator" ⟨l.toArray⟩ t 0) _ S.unused ⟨by exact rr (if_pos ha) rfl,by simp⟩ (S.push _ (m:=.it (.str "str_ascii_iterator" ⟨l.toArray⟩ t 0)) ⟨_,Heap.get?_push_size _ rfl,rfl,rfl⟩))
   · refine wpAny_pyIter_wide (by simpa using ha) (H _ (.str "str_iterator" ⟨l.toArray⟩ t 0) _ S.unused ⟨by exact rr (if_neg ha) rfl,by simp⟩ (S.push _ (m:=.it (.str "str_iterator" ⟨l.toArray⟩ t 0)) ⟨_,Heap.get?_push_size _ rfl,rfl,rfl⟩))
 | rngd lo=>
   (have e:=Option.some.inj e;subst e)
   simp only[Rd] at r
   (refine a9k r fun z1 a t u x z3=>?_;clear r;refine o_a z3 fun z4 h2=>?_;subst z4)
   have hsz:Builtin.Range.rangeSize lo 0 (-1)=lo:=by
    unfold Builtin.Range.rangeSize
    rw[if_neg (by decide),show -(-1:Int)=1 from rfl,Int.ediv_one]
    split<;>omega
   refine wpAny_pyIter_range (S.hold _ _ h2) ?_ ?_
   · unfold Builtin.Range.small
     rw[hsz]
     have e:∀ z:Int,-(2 ^ 63)<=z->z<2 ^ 63->Builtin.Range.rangeFitsLong z=true:=fun z h1 h2=>by unfold Builtin.Range.rangeFitsLong;simp;exact b2f h1 h2
     rw[e lo (Int.le_trans (by decide) z1.1) (Int.lt_trans z1.2 (by decide)),e 0 (by decide) (by decide),e (-1) (by decide) (by decide),if_neg (by decide),e _ (by decide) (by decide)]
     simp
   · rw[hsz]
     refine H _ (.rangd lo lo) _ S.unused rfl (S.push _ (m:=.it (.rangd lo lo)) (Heap.get?_push_size _ rfl))
 | bytes l=>
   (injection e with e;subst e)
   simp only[Rd] at r
   (refine y5 r fun hz t z116=>?_;clear r;subst z116)
   refine KBw.pyIter_bytes (H _ (.byt l.toArray t 0) _ S.unused rfl (S.push _ (m:=.it (.byt l.toArray t 0)) ⟨_,Heap.get?_push_size _ rfl,rfl,rfl⟩))
 | _=>exact c7 e
theorem b1g {a:Addr}{k:ItK}{ys:List HV}{Q:Value->Shared->Prop}(S:MS B0 os ω gs s) (e:ω a=some (.it k)) (r:ItRd ω k ys) (H:Q (.ref a) s):wpAny (model prog w) A (pyIter (.ref a)) Q E s:=by
 have h:=S.hold _ _ e
 clear e;induction k using ItK.casesOn with
 | list l i=>exact wpAny_pyIter_listiter h H
 | range x left=>exact wpAny_pyIter_rangeiter h H
 | rangd x left=>exact wpAny_pyIter_rangeiter h H
 | byt b t i=>exact KBw.pyIter_self h H
 | str ty x t i=>
  refine o_a r fun e1 _=>?_
  have h':s.heap.IsStrIter a ty x t i:=h
  by_cases ha:x.cps.all (· < 128)=true
  · rw[if_pos ha] at e1;rw[e1] at h';exact wpAny_pyIter_striter_ascii h' H
  · rw[if_neg ha] at e1;rw[e1] at h';exact wpAny_pyIter_striter_wide h' H
theorem a1u {a : Addr} {k : ItK} {ys : List HV} {Q : Option Value -> Shared -> Prop} (hh : A.handled = none) (S : MS B0 os ω gs s) (e : ω a = some (.it k)) (r : ItRd ω k ys)
    (H0 : ys = [] -> ∀ s', MS B0 os (ω.del a) gs s' -> Q none s')
    (H1 : ∀ y rest, ys = y :: rest -> ∀ v k' s', Rd ω y v -> ItRd ω k' rest -> MS B0 os (ω.set a (.it k')) gs s' -> Q (some v) s') : wpAny (model prog w) A (pyNext (.ref a)) Q E s := by
  have h := S.hold _ _ e
  induction k using ItK.casesOn with
  | list l i =>
    refine N2 r fun o vs n xs h1 h2 h3 h4 h5 h6 => ?_
    have hl := a0i S h1 h2 h3
    induction hx : xs[i]? using Option.casesOn with
    | none =>
      have : ys = [] := by rw [h6]; exact List.drop_eq_nil_of_le (by simpa using hx)
      refine wpAny_pyNext_list_end hh h hl (by have := h4.length; simp at hx ⊢; exact c09 this hx) fun h' hx' => H0 this _ (S.ext e rfl hx' _)
    | some y =>
      refine c9 (h4.get hx) fun v hv rv => ?_
      have : ys = y :: xs.drop (i + 1) := by
        rw [h6]
        refine o_e (List.getElem?_eq_some_iff.mp hx) fun hlt he => ?_
        rw [List.drop_eq_getElem_cons hlt, he]
      exact wpAny_pyNext_list_item h hl (by simpa using hv) fun h' hi hs => H1 y _ this v (.list l (i + 1)) _ rv ⟨o, vs, n, xs, h1, h2, h3, h4, h5, rfl⟩ (S.same e rfl hs (m := .it (.list l (i + 1))) hi _)
  | range x left =>
    by_cases hp : 0 < left
    · have : ys = .int x :: (List.range (left - 1).toNat).map fun (k : Nat) => HV.int (x + 1 + (k : Int)) := by
        rw [r]
        have e2 : left.toNat = (left - 1).toNat + 1 := b8k hp
        rw [e2, List.range_succ_eq_map, List.map_cons, List.map_map]
        simp only [Int.ofNat_zero, Int.add_zero, List.cons.injEq]
        refine ⟨by simp, List.map_congr_left fun j _ => ?_⟩
        simp only [Function.comp]
        congr 1
        exact by simp +arith
      exact wpAny_pyNext_range_item h hp fun h' hi hs => H1 _ _ this (.int x s.toks) (.range (x + 1) (left - 1)) _ (by simp [Rd]) rfl (S.same e rfl hs (m := .it (.range (x + 1) (left - 1))) hi _)
    · have : ys = [] := by
        (refine rr r ?_; refine rr (show left.toNat = 0 by exact b90 hp) ?_); rfl
      exact wpAny_pyNext_range_end hh h (b7y hp) fun h' hx => H0 this _ (S.ext e rfl hx _)
  | rangd x left =>
    by_cases hp : 0 < left
    · have : ys = .int x :: (List.range (left - 1).toNat).map fun (k : Nat) => HV.int (x + -1 - (k : Int)) := by
        rw [r]
        have e2 : left.toNat = (left - 1).toNat + 1 := b8k hp
        rw [e2, List.range_succ_eq_map, List.map_cons, List.map_map]
        simp only [Int.ofNat_zero, Int.sub_zero, List.cons.injEq]
        refine ⟨by simp, List.map_congr_left fun j _ => ?_⟩
        simp only [Function.comp]
        congr 1
        exact by simp +arith
      exact wpAny_pyNext_range_item h hp fun h' hi hs => H1 _ _ this (.int x s.toks) (.rangd (x + -1) (left - 1)) _ (by simp [Rd]) rfl (S.same e rfl hs (m := .it (.rangd (x + -1) (left - 1))) hi _)
    · have : ys = [] := by
        (refine rr r ?_; refine rr (show left.toNat = 0 by exact b90 hp) ?_); rfl
      exact wpAny_pyNext_range_end hh h (b7y hp) fun h' hx => H0 this _ (S.ext e rfl hx _)
  | byt b t i =>
    induction hx : b[i]? using Option.casesOn with
    | none =>
      have : ys = [] := by
        refine rr r ?_
        have : b.size <= i := by simpa using hx
        refine rr (List.drop_eq_nil_of_le (by simpa using this)) ?_; rfl
      exact KBw.next_end hh h hx fun h2 hx' => H0 this _ (S.ext e rfl hx' _)
    | some c =>
      have : ys = .int c.toNat :: (b.toList.drop (i + 1)).map fun c => HV.int c.toNat := by
        refine rr r ?_
        have hx2 : b.toList[i]? = some c := by simpa using hx
        refine o_e (List.getElem?_eq_some_iff.mp hx2) fun hlt he => ?_
        (refine rr (List.drop_eq_getElem_cons hlt) ?_; refine rr he ?_); rfl
      exact KBw.next_item h hx fun h2 hi hs => H1 _ _ this (.int c.toNat s.toks) (.byt b t (i + 1)) _ (by simp [Rd]) rfl (S.same e rfl hs (m := .it (.byt b t (i + 1))) hi _)
  | str ty x t i =>
    obtain ⟨e1, e2⟩ := r
    have h' : s.heap.IsStrIter a ty x t i := h
    induction hx : x.cps[i]? using Option.casesOn with
    | none =>
      have : ys = [] := by
        refine rr e2 ?_
        have : x.cps.size <= i := by simpa using hx
        refine rr (List.drop_eq_nil_of_le (by simpa using this)) ?_; rfl
      by_cases ha : x.cps.all (· < 128) = true
      · rw [if_pos ha] at e1; rw [e1] at h'; exact wpAny_pyNext_ascii_end hh h' hx fun h2 hx' => H0 this _ (S.ext e rfl hx' _)
      · rw [if_neg ha] at e1; rw [e1] at h'; exact wpAny_pyNext_wide_end hh h' hx fun h2 hx' => H0 this _ (S.ext e rfl hx' _)
    | some c =>
      have : ys = .str [c] :: (x.cps.toList.drop (i + 1)).map fun c => HV.str [c] := by
        refine rr e2 ?_
        have hx2 : x.cps.toList[i]? = some c := by simpa using hx
        refine o_e (List.getElem?_eq_some_iff.mp hx2) fun hlt he => ?_
        (refine rr (List.drop_eq_getElem_cons hlt) ?_; refine rr he ?_); rfl
      have rc : Rd ω (.str [c]) (.str ⟨#[c]⟩ s.toks) := by simp only [Rd]; exact ⟨by refine rr c8 ?_; simp, _, rfl⟩
      by_cases ha : x.cps.all (· < 128) = true
      · rw [if_pos ha] at e1; rw [e1] at h'
        exact wpAny_pyNext_ascii_item h' hx fun h2 hi hs => H1 _ _ this _ (.str "str_ascii_iterator" x t (i + 1)) _ rc ⟨by exact rr (if_pos ha) rfl, rfl⟩ (S.same e rfl hs (m := .it (.str "str_ascii_iterator" x t (i + 1))) hi _)
      · rw [if_neg ha] at e1; rw [e1] at h'
        exact wpAny_pyNext_wide_item h' hx fun h2 hi hs => H1 _ _ this _ (.str "str_iterator" x t (i + 1)) _ rc ⟨by exact rr (if_neg ha) rfl, rfl⟩ (S.same e rfl hs (m := .it (.str "str_iterator" x t (i + 1))) hi _)
end
noncomputable def KNs (h:Heap) (a:Addr) (m:Str->Option Value):Prop:=
 ∃ o es ep,h.get? a=some o/\o.cls≠.none/\o.data=.dict es ep/\StrKeys es/\∀ name,nsFind es name=m name
theorem KNs.now {B0:Heap}{os:OsState}{ω:Own}{gs:TQ}{s:Shared}(S:MS B0 os ω gs s){a:Addr}{m:Str->Option Value}(k:KNs B0 a m):s.heap.Ns a m:=by
 refine M8 k fun o es ep h1 h2 r=>?_
 exact(I5 o es ep (S.top h1 h2) r)
structure TopB (B0:Heap) (mg mb:Str->Option Value):Prop where
 g:KNs B0 mainGlobals mg
 b:KNs B0 builtinsNs mb
 st:B0.NoLimit
 bmain:∃ bm ob,mg "__builtins__" = some (.ref bm)/\bm≠builtinsNs/\B0.get? bm=some ob/\ob.cls=.type "module" /\ ob.dict=some builtinsNs/\ob.data=.plain
theorem TopB.lim {B0:Heap}{os:OsState}{ω:Own}{gs:TQ}{s:Shared}{mg mb}(T:TopB B0 mg mb) (S:MS B0 os ω gs s):s.heap.NoLimit:=by
 (refine c9 T.st fun mc z129 h2=>?_;refine E4 z129 fun o es ep ho hd hk hf=>?_)
 rcases S.old.old _ _ ho with x | ⟨_,_,vs,more,hv,_⟩ | ⟨_,_,⟨o',es',n,ho',_,hd',hk'⟩,z⟩
 · exact(j1 mc ((Z4 o es ep x hd hk hf)) h2)
 · rw[hd] at hv;contradiction
 · refine(j1 (fun name=>nsFind es' name) ((Z4 o' es' n ho' hd' hk' (fun _=>rfl))) ?_)
   have z:=z "sys.recursionlimit"
   rw[(show staticOf B0 "sys.recursionlimit" = none from by simp only[staticOf,ho,hd];exact(hf _).trans h2)] at z
   rcases z with z | ⟨z,_⟩
   · rw[(show staticOf s.heap "sys.recursionlimit" = nsFind es' "sys.recursionlimit" from by simp only[staticOf,ho',hd'];rfl)] at z;exact z
   · exact absurd z (by decide +kernel)
noncomputable def GV (mg mb:Str->Option Value) (x:Str) (v:Value):Prop:=mg x=some v\/(mg x=none/\mb x=some v)
structure EnvOk (mg mb:Str->Option Value) (env:Env) (ω:Own) (ρ:Loc) (G:GC):Prop where
 kind:env.scope.kind=.function
 glob:env.globals=mainGlobals
 blt:env.builtins=builtinsNs
 loc:∃ m,ω env.locals=some (.ns m)/\∀ x h,ρ x=some h->env.kindOf x=some .local->∃ v,m x=some v/\Rd ω h v
 cel:∀ x h,ρ x=some h->env.kindOf x=some .cell\/env.kindOf x=some .free->∃ c v,env.cells.lookup x=some c/\ω c=some (.cell (some v))/\Rd ω h v
 dom:∀ x h,ρ x=some h->env.kindOf x=some .local\/env.kindOf x=some .cell\/env.kindOf x=some .free
 gl:∀ x h,G.g x=some h->env.kindOf x=some .globalImplicit
 gv:∀ x h,G.g x=some h->∃ v,h=.val v/\GV mg mb x v
 cl:∀ x,G.c x=true->(env.kindOf x=some .cell\/env.kindOf x=some .free)/\∃ c,env.cells.lookup x=some c
 lc:∀ x,G.l x=true->env.kindOf x=some .local
 dbg:ρ "__debug__" = none/\G.g "__debug__" = none/\ρ "__classdict__" = none
 gg:∀ x h,G.gg x=some h->∃ v,h=.val v/\GV mg mb x v
 gd:G.gg "__debug__" = none
 cd:∀ c q,G.cd=some (c,q)->env.code=.ref c/\env.qual=q
theorem EnvOk.monoW {mg mb:Str->Option Value}{env:Env}{ω ω':Own}{ρ:Loc}{G:GC}(O:EnvOk mg mb env ω ρ G) (l:LeW ω ω'):EnvOk mg mb env ω' ρ G:=by
 refine { O with loc:=?_,cel:=?_ }
 · refine c9 O.loc fun m h1 h2=>?_
   refine(j1 m (l _ _ h1 rfl) (fun x h e k=>?_))
   refine c9 (h2 x h e k) fun v h3 h4=>?_
   exact(j1 v h3 (h4.monoF l.f))
 · intro x h e k
   refine d9 (O.cel x h e k) fun c v h1 h2 h3=>?_
   exact(j7 c v h1 (l _ _ h2 rfl) (h3.monoF l.f))
theorem EnvOk.mono {mg mb:Str->Option Value}{env:Env}{ω ω':Own}{ρ:Loc}{G:GC}(O:EnvOk mg mb env ω ρ G) (l:Le ω ω'):EnvOk mg mb env ω' ρ G:=O.monoW l.w
section
variable {prog:Program}{w:World}{A:Around}{E:Value->Shared->Prop}{B0:Heap}{os:OsState}{gs:TQ}{ω:Own}{s:Shared}{σ:St}{K:KV}{mg mb:Str->Option Value}{env:Env}{ρ:Loc}{G:GC}
theorem b00 {x:Str}{h:HV}{Q:Value->Shared->Prop}(O:EnvOk mg mb env ω ρ G) (S:MS B0 os ω gs s) (e:ρ x=some h) (H:∀ v,Rd ω h v->Q v s):wpAny (model prog w) A (loadName env x) Q E s:=by
 have hcd:(x==("__classdict__" : Str))=false:=by
  rw[beq_eq_false_iff_ne];intro q;subst q;rw[O.dbg.2.2] at e;exact c7 e
 refine Or.elim (O.dom x h e) (fun k=>?_) fun z=>Or.elim z (fun k=>?_) fun k=>?_
 · refine c9 O.loc fun m h1 h2=>?_
   refine c9 (h2 x h e k) fun v h3 h4=>?_
   exact wpAny_loadName_local O.kind k (S.hold _ _ h1) h3 (H v h4)
 · obtain⟨c,v,h1,h2,h3⟩:=O.cel x h e (.inl k)
   exact wpAny_loadName_cell O.kind k h1 (S.hold _ _ h2) (H v h3)
 · obtain⟨c,v,h1,h2,h3⟩:=O.cel x h e (.inr k)
   exact wpAny_loadName_free O.kind k h1 (S.hold _ _ h2) (H v h3) hcd
theorem w4 {x:Str}{p:Pos}{h:HV}{Q:Value->Shared->Prop}(O:EnvOk mg mb env ω ρ G) (S:MS B0 os ω gs s) (e:ρ x=some h) (H:∀ v,Rd ω h v->Q v s):wpAny (model prog w) A (eval (.Name x p) env) Q E s:=by
 exact wpAny_Name (b00 O S e H) (show (x==("__debug__" : Str))=false from by
  rw[beq_eq_false_iff_ne];intro q;subst q;rw[O.dbg.1] at e;exact c7 e)
theorem B8 {x:Str}{p:Pos}{h:HV}{Q:Value->Shared->Prop}(T:TopB B0 mg mb) (O:EnvOk mg mb env ω ρ G) (S:MS B0 os ω gs s) (e:G.g x=some h) (H:∀ v,h=.val v->Q v s):wpAny (model prog w) A (eval (.Name x p) env) Q E s:=by
 (refine c9 (O.gv x h e) fun v z140 gv=>?_;subst z140)
 refine Name_function_global O.kind (O.gl x _ e) ?_ (show (x==("__debug__" : Str))=false from by
  rw[beq_eq_false_iff_ne];intro q;clear gv;subst q;rw[O.dbg.2.1] at e;exact c7 e)
 rcases gv with q | ⟨q1,q2⟩
 · exact loadGlobal_global (O.glob▸T.g.now S) q (H v rfl)
 · exact loadGlobal_builtin (O.glob▸T.g.now S) q1 (O.blt▸T.b.now S) q2 (H v rfl)
end
end
section
noncomputable def a4c (l:Addr):Obj:={ cls:=.type "builtin_function_or_method",data:=.fields #[.builtin "list.append",.ref l] }
theorem a85:(Manifest.signature? "list.append").isSome=true:=by kernel_rfl
theorem a7u:∃ sig,Manifest.signature? "list.append" = some sig/\∀ l v,Bind.checkArgs "list.append" { sig with full:=s!"{Bind.lastOf "list"}.{Bind.lastOf "list.append"}" } ⟨[.ref l,v],[]⟩=pure ():=
 (j1 ((Manifest.signature? "list.append").get a85) (by exact rr (Option.some_get ..) rfl) (fun _ _=>by kernel_rfl))
theorem a71:builtinKind "list.append" = some .method:=by kernel_rfl
theorem b0o:Manifest.varargsMethods.contains "list.append" = false:=by decide +kernel
theorem a1k:isSubtype (.type "list") (.type "module")=pure false:=by kernel_rfl
section
variable {prog:Program}{w:World}{A:Around}{E:Value->Shared->Prop}{s:Shared}
theorem a7h {α:Type}{M:Model}{A:Around}{E:Value->Shared->Prop}{s:Shared}{c:Bool}{a b:Sem α}{Q:α->Shared->Prop}(hc:c=false) (h:wpAny M A b Q E s):wpAny M A (if c=true then a else b) Q E s:=by
 subst hc
 exact h
theorem a79 {l:Addr}{v:Value}{Q:Unit->Shared->Prop}{o:Obj}{xs:Array Value}{n:Nat}(ho:s.heap.get? l=some o) (hd:o.data=.seq xs n) (hT:s.TypeIs (.ref l) "list") (h:Q () s):wpAny (model prog w) A (checkBoundCall "list.append" ⟨[.ref l,v],[]⟩) Q E s:=by
 refine c9 a7u fun sig h1 h2=>?_
 unfold checkBoundCall
 (refine rr h1 ?_;refine rr a71 ?_)
 simp -iota only [show (Manifest.AttrKind.method != Manifest.AttrKind.method&&Manifest.AttrKind.method != Manifest.AttrKind.classMethod)=false by decide,Bool.false_eq_true,if_false]
 refine wpAny_bind (wpAny_isInstance hT a1k ?_)
 refine rr b0o ?_
 simp -iota only [Bool.or_self,Bool.false_eq_true,if_false]
 refine wpAny_bind ?_
 unfold isType
 refine wpAny_bind (wpAny_loadPart ho ?_)
 refine rr hd ?_
 refine wpAny_pure ?_
 refine a7h (by rfl) ?_
 refine wpAny_bind (wpAny_typeOf hT ?_)
 exact wpAny_of_eq (h2 l v) h
theorem a5u {as:Args}:(Code.builtin "list.append" as).quiet=true:=Code.quiet_builtin _ (by decide +kernel)
theorem b5p {b l:Addr}{v:Value}{vs:List Value}{n:Nat}{Q:Value->Shared->Prop}(ho:s.heap.get? b=some (a4c l)) (hl:s.heap.get? l=some { cls:=.type "list",data:=.seq vs.toArray n }) (hz:vs.length<sizeLine)
 (h:∀ h',Heap.SameBut l s.heap h'->h'.get? l=some { cls:=.type "list",data:=.seq (vs++[v]).toArray (n+1) }->Q .none { s with heap:=h' }) :
 wpAny (model prog w) A (call (.ref b) [v]) Q E s:=by
 refine wpAny_call (codeAny_of_tree ?_)
 show wpAny _ A.in1 (callAny (.ref b) ⟨[v],[]⟩) _ _ s
 dsimp only[callAny]
 refine wpAny_bind (wpAny_load ho ?_)
 simp -iota only [a4c,show (Value.type "builtin_function_or_method" == Value.type "method" || Value.type "builtin_function_or_method" == Value.type "builtin_function_or_method" || Value.type "builtin_function_or_method" == Value.type "method-wrapper")=true by decide,if_true]
 refine KFB.if_so (by decide) ?_
 refine wpAny_bind (a79 hl rfl (j1 _ hl rfl) ?_)
 refine wpAny_bind (wpAny_pure (wpAny_pure ?_))
 refine⟨a5u,codeAny_builtin entry_list_append ?_⟩
 show wpAny _ _ (updateSeq l (·.push v) >>= fun _=>ret .none) _ _ s
 refine wpAny_bind ?_
 refine wpAny_updateSeq hl rfl (wpAny_pure ?_) (by simp;lia) (by simp;lia)
 refine h _ (Heap.SameBut.update ..) ?_
 have:=Heap.get?_update_self (Obj.mapSeq (·.push v)) hl rfl
 simp only[this]
 simp[Obj.mapSeq]
theorem a78 {pos:Pos}{b l:Addr}{args:List (Bool×Sem Value)}{Q:Value->Shared->Prop}(hplain:args.any (·.1)=false)
 (h:wpAny (model prog w) A (evalArgs (.ref b) true args []) (fun x s₁=>s₁.heap.get? b=some (a4c l)/\wpAny (model prog w) A (call (.ref b) x.pos x.kw) Q E s₁) E s):wpAny (model prog w) A (callWith pos (.ref b) [] args []) Q E s:=by
 dsimp only[callWith]
 refine wpAny_bind (wpAny_holding (wpAny_mono h (fun x s₁ h₁=>wpAny_bind (wpAny_standAt ?_)) fun _ _ x=>x))
 simp -iota only [hplain,List.any_nil,Bool.or_false]
 refine wpAny_bind (m:=keeperOf (.ref b)) ?_
 refine wpAny_bind (wpAny_load h₁.1 ?_)
 simp -iota only [a4c,show (Value.type "builtin_function_or_method" != Value.type "method")=true by decide,show (Value.type "builtin_function_or_method" == Value.type "builtin_function_or_method" || Value.type "builtin_function_or_method" == Value.type "method-wrapper")=true by decide,if_true]
 refine wpAny_pure ?_
 exact wpAny_bind (wpAny_mono h₁.2 (fun r s₂ hr=>wpAny_bind (wpAny_holding (wpAny_point (wpAny_pure hr)))) fun _ _ x=>x)
end
end
section
theorem slot_mget:Slot "method_descriptor" "__get__" "method_descriptor.__get__" :=
 .of (owner:="method_descriptor") (n:="__get__") (by kernel_rfl) (by decide +kernel) (by decide +kernel) (by decide +kernel)
  (by first | exact .inl (by decide +kernel) | exact .inr (by decide +kernel)) (by kernel_rfl)
theorem a7y:entryFor table "method_descriptor.__get__" = some Builtin.«method_descriptor.__get__»:=entryFor_of_tree (by kernel_rfl)
theorem b0v (a b c:Value):argsOk "method_descriptor.__get__" ⟨[a,b,c],[]⟩:=by kernel_rfl
theorem b6b:typeLookup (.type "method_descriptor") "__set__" = pure none:=by kernel_rfl
theorem b5n:typeLookup (.type "method_descriptor") "__delete__" = pure none:=by kernel_rfl
theorem c10:isSubtype (.type "list") (.type "list")=pure true:=by kernel_rfl
section
variable {prog:Program}{w:World}{A:Around}{E:Value->Shared->Prop}{s:Shared}
set_option maxHeartbeats 2000000 in
theorem a2i {a:Addr} {xs:Array Value} {k:Nat} {Q:Value->Shared->Prop} (hx:s.heap.get? a=some { cls:=.type "list",data:=.seq xs k })
 (h:∀ tk,Q (.ref s.heap.objs.size) { s with heap:=s.heap.push (a4c a),toks:=tk }):wpAny (model prog w) A (getAttr (.ref a) (Str.ofString "append") true) Q E s:=by
 obtain⟨hp,g,d,tk,os⟩:=s
 have hT:∀ tk',(⟨hp,g,d,tk',os⟩:Shared).TypeIs (.ref a) "list" := fun _=>⟨_,hx,rfl⟩
 have f3:=F.slot_list_getattribute.lookup
 have f4:=F.slot_list_getattribute.bind (.ref a)
 have f5:=am_list_getattr_none
 unfold getAttr getAttrBy
 repeat (any_goals (first | assumption | exact hT _ | ((with_reducible show wpAny _ _ (call (Value.builtin "list.__getattribute__") _ _) _ _ _);refine wpAny_call_entry F.slot_list_getattribute (hT _) am_entry_list_getattribute ?kk (F.args_list_getattribute_2 _ _)) | wp_step))
 have g1:=F.slot_list_append.lookup
 have g2:=F.type_list_append
 dsimp only
 refine wpAny_of_eq g1 ?_
 unfold Builtin.ObjectAttr.getOf
 have g3:=slot_mget.lookup
 have g4:=b6b
 have g5:=b5n
 repeat (any_goals (first | assumption | exact hT _ | ((with_reducible show wpAny _ _ (call (Value.builtin "method_descriptor.__get__") _ _) _ _ _);refine wpAny_call_entry slot_mget F.type_list_append a7y ?kk2 (b0v _ _ _)) | wp_step))
 have e1 : ".".intercalate ("list.append".cutAt '.').dropLast = "list" := by decide +kernel
 dsimp only
 refine wpAny_of_eq c10 ?_
 repeat (any_goals (first | assumption | exact hT _ | wp_step))
 refine⟨_,rfl,wpAny_pure ⟨_,rfl,?_⟩⟩
 exact wpAny_pure (h _)
end
end
section
inductive a89 (B0:Heap) (os:OsState) (gs:TQ) (ω:Own) (n:Nat) (K:List HV->St->Prop) (vs:List Value) (s':Shared):Prop
 | mk:∀ hs ω' σ',(Le ω ω')->(MS B0 os ω' gs s')->(RelS ω' σ')->(RdL ω' hs vs)->(hs.length=n)->(K hs σ')->a89 B0 os gs ω n K vs s'
inductive b8f (B0:Heap) (os:OsState) (gs:TQ) (ω:Own) (K:Option Int->St->Prop) (v:Value) (s':Shared):Prop
 | mk:∀ i ω' σ',(Le ω ω')->(MS B0 os ω' gs s')->(RelS ω' σ')->(IsPart v i)->(K i σ')->b8f B0 os gs ω K v s'
theorem b3c {e:Expr}{r:List Expr}{env:Env}(h:n8 e=true):starEach (e::r) env=(false,eval e env)::starEach r env:=by
 cases e<;>first | rfl | exact j0 ((show false=true from h))
theorem a8t:∀ (es:List Expr) (env:Env),es.all n8=true->starEach es env=es.map fun e=>(false,eval e env):=by
 intro xs0
 induction xs0 with
 | nil=>
  exact @fun _ _=>rfl
 | cons e r ih=>
  exact @fun env h=>by
   simp only[List.all_cons,Bool.and_eq_true] at h
   (refine rr List.map_cons ?_;refine rl (ih env h.2) ?_);exact b3c h.1
theorem j2 (pos:Pos) (es:List Expr) (env:Env) (h:es.all n8=true):backTo pos (starEach es env)=es.map fun e=>(false,eval e env):=by
 refine rr (a8t es env h) ?_
 dsimp only[backTo]
 refine rr List.map_map ?_
 rfl
theorem d8 (es:List Expr) (env:Env):(es.map fun e=>(false,eval e env)).any (·.1)=false:=by
 refine rr List.any_map ?_;simp
section
variable {prog:Program}{w:World}{B0:Heap}{os:OsState}{gs:TQ}{mg mb:Str->Option Value}
theorem p7 {M:Model}{A:Around}{E:Value->Shared->Prop}{s:Shared}{f:Value}{l:List (Bool×Sem Value)}{Q:Args->Shared->Prop}(hp:l.any (·.1)=false)
 (h:wpAny M A (spliced l) (fun vs s'=>Q ⟨vs,[]⟩ s') E s):wpAny M A (evalArgs f true l []) Q E s:=by
 match l,hp,h with
 | [],_,h=>
  refine wpAny_bind (wpAny_mono h (fun vs s' h'=>?_) fun _ _ x=>x)
  refine wpAny_bind (wpAny_pure ?_)
  refine wpAny_holding ?_
  exact wpAny_bind (wpAny_pure (wpAny_bind (wpAny_pure (wpAny_pure h'))))
 | (false,x)::r,_,h=>exact evalArgs_plain h
 | (true,x)::r,hp,_=>simp at hp
section
variable {A:Around}{E:Value->Shared->Prop}{ω:Own}{s:Shared}{K:KV}
theorem PostV.up {ω₁:Own}{v:Value}(p:PostV B0 os gs ω₁ K v s) (l:Le ω ω₁):PostV B0 os gs ω K v s:=by
 obtain⟨h,ω',σ',l',a,b,c,d⟩:=p
 exact⟨h,ω',σ',l.trans l',a,b,c,d⟩
theorem j4 {X:Sem Value}{Q:Value->Shared->Prop}(p:wpAny (model prog w) A X (PostV B0 os gs ω K) E s)
 (H:∀ h ω' σ' v s',Le ω ω'->MS B0 os ω' gs s'->RelS ω' σ'->Rd ω' h v->K h σ'->Q v s'):wpAny (model prog w) A X Q E s:=
 wpAny_mono p (fun v s' q=>by obtain⟨h,ω',σ',a,b,c,d,e⟩:=q;exact H h ω' σ' v s' a b c d e) fun _ _ x=>x
theorem U1 {ω₁:Own}{X:Sem Value}(p:wpAny (model prog w) A X (PostV B0 os gs ω₁ K) E s) (l:Le ω ω₁):wpAny (model prog w) A X (PostV B0 os gs ω K) E s:=
 wpAny_mono p (fun _ _ q=>q.up l) fun _ _ x=>x
theorem P1 {K:Bool->St->Prop}{X:Sem Bool}{Q:Bool->Shared->Prop}(p:wpAny (model prog w) A X (V8 B0 os gs ω K) E s)
 (H:∀ b ω' σ' s',Le ω ω'->MS B0 os ω' gs s'->RelS ω' σ'->K b σ'->Q b s'):wpAny (model prog w) A X Q E s:=
 wpAny_mono p (fun v s' q=>by obtain⟨ω',σ',a,b,c,e⟩:=q;exact H v ω' σ' s' a b c e) fun _ _ x=>x
theorem c44 {ω₁:Own}{K:Bool->St->Prop}{X:Sem Bool}(p:wpAny (model prog w) A X (V8 B0 os gs ω₁ K) E s) (l:Le ω ω₁):wpAny (model prog w) A X (V8 B0 os gs ω K) E s:=
 wpAny_mono p (fun _ _ q=>by obtain⟨ω',σ',a,b,c,d⟩:=q;exact⟨ω',σ',l.trans a,b,c,d⟩) fun _ _ x=>x
theorem D2 {n:Nat}{K:List HV->St->Prop}{X:Sem (List Value)}{Q:List Value->Shared->Prop}(p:wpAny (model prog w) A X (a89 B0 os gs ω n K) E s)
 (H:∀ hs ω' σ' vs s',Le ω ω'->MS B0 os ω' gs s'->RelS ω' σ'->RdL ω' hs vs->hs.length=n->K hs σ'->Q vs s'):wpAny (model prog w) A X Q E s:=
 wpAny_mono p (fun v s' q=>by obtain⟨h,ω',σ',a,b,c,d,f,e⟩:=q;exact H h ω' σ' v s' a b c d f e) fun _ _ x=>x
end
variable (prog w B0 os gs mg mb) (mu:Pos->Bool) (Γ:Spx) (n:Nat)
noncomputable def u6:Prop:=(gs=Γ.tq/\Γ.hp B0/\Γ.lv<=n)/\∀ v sp,Γ.f v=some sp->∃ a o fd,v=.ref a/\B0.get? a=some o/\o.cls≠.none/\o.data=.func fd/\
 ∀ (A:Around) (E:Value->Shared->Prop) (ω:Own) (s:Shared) (σ:St) (K:KV) (hs:List HV) (vs:List Value),Room n A->MS B0 os ω gs s->RelS ω σ->RdL ω hs vs->sp hs σ K->
  wpAny (model prog w) A (call v vs []) (PostV B0 os gs ω K) E s
end
noncomputable def evE (_:Pos->Bool) (Γ:Spx) (e:Expr) (ρ:Loc) (G:GC) (σ:St) (K:KV):Prop:=∀ ⦃prog:Program⦄ ⦃w:World⦄ ⦃B0:Heap⦄ ⦃os:OsState⦄ ⦃gs:TQ⦄ ⦃mg mb:Str->Option Value⦄ ⦃n:Nat⦄,TopB B0 mg mb->u6 prog w B0 os gs Γ n->
 ∀ (A:Around) (E:Value->Shared->Prop) (ω:Own) (s:Shared) (env:Env),Room n A->EnvOk mg mb env ω ρ G->MS B0 os ω gs s->RelS ω σ->wpAny (model prog w) A (eval e env) (PostV B0 os gs ω K) E s
noncomputable def evT (_ : Pos -> Bool) (Γ : Spx) (e : Expr) (ρ : Loc) (G : GC) (σ : St) (K : Bool -> St -> Prop) : Prop := ∀ ⦃prog : Program⦄ ⦃w : World⦄ ⦃B0 : Heap⦄ ⦃os : OsState⦄ ⦃gs : TQ⦄ ⦃mg mb : Str -> Option Value⦄ ⦃n : Nat⦄, TopB B0 mg mb -> u6 prog w B0 os gs Γ n ->
 ∀ (A : Around) (E : Value -> Shared -> Prop) (ω : Own) (s : Shared) (env : Env), Room n A -> EnvOk mg mb env ω ρ G -> MS B0 os ω gs s -> RelS ω σ -> wpAny (model prog w) A (isTrue e env (eval e env)) (V8 B0 os gs ω K) E s
section
variable (mu:Pos->Bool) (Γ:Spx)
noncomputable def evA : BoolOp -> List Expr -> Loc -> GC -> St -> (Bool -> St -> Prop) -> Prop
 | .And, [], _, _, σ, K => K true σ
 | .Or, [], _, _, σ, K => K false σ
 | .And, x :: r, ρ, G, σ, K => evT mu Γ x ρ G σ fun b σ1 => if b then evA .And r ρ G σ1 K else K false σ1
 | .Or, x :: r, ρ, G, σ, K => evT mu Γ x ρ G σ fun b σ1 => if b then K true σ1 else evA .Or r ρ G σ1 K
noncomputable def M5:List Expr->Loc->GC->St->(List HV->St->Prop)->Prop
 | [],_,_,σ,K=>K [] σ
 | e::r,ρ,G,σ,K=>evE mu Γ e ρ G σ fun h σ1=>M5 r ρ G σ1 fun hs σ₂=>K (h::hs) σ₂
noncomputable def evO : Option Expr -> Loc -> GC -> St -> (Option Int -> St -> Prop) -> Prop
 | none, _, _, σ, K => K none σ
 | some e, ρ, G, σ, K => evE mu Γ e ρ G σ fun h σ1 => ∃ i, h = .int i /\ K (some i) σ1
inductive PartE:Expr->Str ⊕ Expr->Prop
 | str (x:Str) (k:Nat) (p:Pos):PartE (.Constant (.str x) k p) (.inl x)
 | fmt (v:Expr) (p:Pos):PartE (.FormattedValue v (-1) none p) (.inr v)
noncomputable def evJ:List Expr->Loc->GC->St->List Nat->(List Nat->St->Prop)->Prop
 | [],_,_,σ,acc,K=>K acc σ
 | e::r,ρ,G,σ,acc,K=>∃ q,PartE e q/\match q with
  | .inl x=>acc.length+(v9 x).length<=sizeLine/\evJ r ρ G σ (acc++v9 x) K
  | .inr v=>evE mu Γ v ρ G σ fun h σ1=>∃ l,h=.str l/\acc.length+l.length<=sizeLine/\evJ r ρ G σ1 (acc++l) K
end
section
variable (prog:Program) (w:World) (B0:Heap) (os:OsState) (gs:TQ) (mg mb:Str->Option Value) (mu:Pos->Bool) (Γ:Spx) (n:Nat)
noncomputable def OkE (e:Expr):Prop:=∀ (A:Around) (E:Value->Shared->Prop) (ω:Own) (s:Shared) (σ:St) (K:KV) (env:Env) (ρ:Loc) (G:GC),Room n A->EnvOk mg mb env ω ρ G->MS B0 os ω gs s->RelS ω σ->
 evE mu Γ e ρ G σ K->wpAny (model prog w) A (eval e env) (PostV B0 os gs ω K) E s
noncomputable def OkT (e:Expr):Prop:=∀ (A:Around) (E:Value->Shared->Prop) (ω:Own) (s:Shared) (σ:St) (K:Bool->St->Prop) (env:Env) (ρ:Loc) (G:GC),Room n A->EnvOk mg mb env ω ρ G->MS B0 os ω gs s->RelS ω σ->
 evT mu Γ e ρ G σ K->wpAny (model prog w) A (isTrue e env (eval e env)) (V8 B0 os gs ω K) E s
noncomputable def OkA (op:BoolOp) (es:List Expr):Prop:=∀ (A:Around) (E:Value->Shared->Prop) (ω:Own) (s:Shared) (σ:St) (K:Bool->St->Prop) (env:Env) (ρ:Loc) (G:GC),Room n A->EnvOk mg mb env ω ρ G->MS B0 os ω gs s->RelS ω σ->
 evA mu Γ op es ρ G σ K->wpAny (model prog w) A (allTrue op es env) (V8 B0 os gs ω K) E s
noncomputable def a7j (es:List Expr):Prop:=∀ (A:Around) (E:Value->Shared->Prop) (ω:Own) (s:Shared) (σ:St) (K:List HV->St->Prop) (env:Env) (ρ:Loc) (G:GC),Room n A->EnvOk mg mb env ω ρ G->MS B0 os ω gs s->RelS ω σ->
 M5 mu Γ es ρ G σ K->wpAny (model prog w) A (spliced (es.map fun e=>(false,eval e env))) (a89 B0 os gs ω es.length K) E s
noncomputable def OkO (e:Option Expr):Prop:=∀ (A:Around) (E:Value->Shared->Prop) (ω:Own) (s:Shared) (σ:St) (K:Option Int->St->Prop) (env:Env) (ρ:Loc) (G:GC),Room n A->EnvOk mg mb env ω ρ G->MS B0 os ω gs s->RelS ω σ->
 evO mu Γ e ρ G σ K->wpAny (model prog w) A (evalPart e env) (b8f B0 os gs ω K) E s
noncomputable def OkJ (es:List Expr):Prop:=∀ (A:Around) (E:Value->Shared->Prop) (ω:Own) (s:Shared) (σ:St) (acc:List Nat) (K:List Nat->St->Prop) (env:Env) (ρ:Loc) (G:GC),Room n A->EnvOk mg mb env ω ρ G->MS B0 os ω gs s->RelS ω σ->acc.length<=sizeLine->
 evJ mu Γ es ρ G σ acc K->Joins (model prog w) A E (evalEach es env) ⟨acc.toArray⟩ (fun out s'=>∃ l ω' σ',Le ω ω'/\MS B0 os ω' gs s'/\RelS ω' σ'/\out=⟨l.toArray⟩/\l.length<=sizeLine/\K l σ') s
variable {prog w B0 os gs mg mb mu Γ n}
theorem okE (T:TopB B0 mg mb) (X:u6 prog w B0 os gs Γ n) (e:Expr):OkE prog w B0 os gs mg mb mu Γ n e:=fun A E ω s _ _ env _ _ Rm O S R H=>H T X A E ω s env Rm O S R
theorem okT (T:TopB B0 mg mb) (X:u6 prog w B0 os gs Γ n) (e:Expr):OkT prog w B0 os gs mg mb mu Γ n e:=fun A E ω s _ _ env _ _ Rm O S R H=>H T X A E ω s env Rm O S R
theorem C3:a7j prog w B0 os gs mg mb mu Γ n []:=fun A E ω s σ K env ρ G Rm O S R H=>by
 exact spliced_nil ⟨[],ω,σ,.refl _,S,R,by exact rfl,rfl,H⟩
theorem u7 {e:Expr}{r:List Expr}(h1:OkE prog w B0 os gs mg mb mu Γ n e) (h2:a7j prog w B0 os gs mg mb mu Γ n r):a7j prog w B0 os gs mg mb mu Γ n (e::r):=fun A E ω s σ K env ρ G Rm O S R H=>by
 refine spliced_cons (j4 (h1 A E ω s σ _ env ρ G Rm O S R H) fun h ω₁ σ1 v s₁ l₁ S₁ R₁ r₁ H₁=>?_)
 refine D2 (h2 A E ω₁ s₁ σ1 _ env ρ G Rm (O.mono l₁) S₁ R₁ H₁) fun hs ω₂ σ₂ vs s₂ l₂ S₂ R₂ r₂ hn H₂=>?_
 exact⟨h::hs,ω₂,σ₂,l₁.trans l₂,S₂,R₂,by exact(j7 v vs rfl (r₁.mono l₂) r₂),by simp[hn],H₂⟩
theorem b2k:OkO prog w B0 os gs mg mb mu Γ n none:=fun A E ω s σ K env ρ G Rm O S R H=>by
 exact wpAny_evalPart_none ⟨none,ω,σ,.refl _,S,R,.none,H⟩
theorem b3n {e:Expr}(h1:OkE prog w B0 os gs mg mb mu Γ n e):OkO prog w B0 os gs mg mb mu Γ n (some e):=fun A E ω s σ K env ρ G Rm O S R H=>by
 refine wpAny_evalPart_some (j4 (h1 A E ω s σ _ env ρ G Rm O S R H) fun h ω₁ σ1 v s₁ l₁ S₁ R₁ r₁ H₁=>?_)
 (refine c9 H₁ fun i z357 H₂=>?_;clear H₁;subst z357)
 simp only[Rd] at r₁
 obtain⟨t,rfl⟩:=r₁
 exact⟨some i,ω₁,σ1,l₁,S₁,R₁,.int i t,H₂⟩
theorem okJ (T:TopB B0 mg mb) (X:u6 prog w B0 os gs Γ n):∀ (es:List Expr),OkJ prog w B0 os gs mg mb mu Γ n es
 | []=>fun A E ω s σ acc K env ρ G Rm O S R hz H=>by
   exact(Y1 acc ω σ (.refl _) S R rfl hz H)
 | e::r=>fun A E ω s σ acc K env ρ G Rm O S R hz H=>by
   refine c9 H fun q hq H=>?_
   induction hq using PartE.casesOn with
   | str x k p=>
     refine wpAny_Constant_str (j7 x s.toks rfl ?_ ?_)
     · have:=H.1
       (refine rr (show x=⟨(v9 x).toArray⟩ from (a0l x).symm) ?_;refine rr (G5 ..) ?_)
       simpa [Str.length] using this
     · have:=(okJ T X r) A E ω { s with toks:=s.toks+1 } σ (acc++v9 x) K env ρ G Rm O (S.toks _) R (by have:=H.1;simpa using this) H.2
       rw[← G5,show (⟨(v9 x).toArray⟩:Str)=x from a0l x] at this
       exact this
   | fmt v p=>
     refine wpAny_FormattedValue_plain (j4 (okE T X _ A E ω s σ _ env ρ G Rm O S R H) fun h ω₁ σ1 u s₁ l₁ S₁ R₁ r₁ H₁=>?_)
     (refine u9 H₁ fun l z369 hz' H₂=>?_;clear H₁;subst z369)
     simp only[Rd] at r₁
     (refine y5 r₁ fun hl t z365=>?_;clear r₁;refine rr z365 ?_)
     have key:∀ t',((⟨acc.toArray⟩:Str)++⟨l.toArray⟩).length<=sizeLine/\Joins (model prog w) A E (evalEach r env) ((⟨acc.toArray⟩:Str)++⟨l.toArray⟩) (fun out s'=>∃ l ω' σ',Le ω ω'/\MS B0 os ω' gs s'/\RelS ω' σ'/\out=⟨l.toArray⟩/\l.length<=sizeLine/\K l σ') { s₁ with toks:=t' }:=fun t'=>by
      refine rr (G5 ..) ?_
      refine⟨by simpa [Str.length] using hz',?_⟩
      have q:=(okJ T X r) A E ω₁ { s₁ with toks:=t' } σ1 (acc++l) K env ρ G Rm (O.mono l₁) (S₁.toks _) R₁ (by simpa using hz') H₂
      exact(show ∀ (es:List (Sem Value)) (acc:Str) (s:Shared),Joins (model prog w) A E es acc (fun out s'=>∃ l ω' σ',Le ω₁ ω'/\MS B0 os ω' gs s'/\RelS ω' σ'/\out=⟨l.toArray⟩/\l.length<=sizeLine/\K l σ') s->
       Joins (model prog w) A E es acc (fun out s'=>∃ l ω' σ',Le ω ω'/\MS B0 os ω' gs s'/\RelS ω' σ'/\out=⟨l.toArray⟩/\l.length<=sizeLine/\K l σ') s from by
       intro es
       induction es with
       | nil=>intro acc s q;refine S0 q fun l ω' σ' a b=>?_;exact(I5 l ω' σ' (l₁.trans a) b)
       | cons x xs ihx=>
         intro acc s q
         exact wpAny_mono q (fun v s' q=>by refine d9 q fun y t e1 e2 e3=>?_;exact(j7 y t e1 e2 (ihx _ _ e3))) fun _ _ x=>x) _ _ _ q
     exact wpAny_formatField_str (M9 _ _ rfl (key s₁.toks)) (M9 _ _ rfl (key _)) (by exact hl)
theorem a8j (T:TopB B0 mg mb) (X:u6 prog w B0 os gs Γ n):∀ es:List Expr,a7j prog w B0 os gs mg mb mu Γ n es:=by
 intro xs0
 induction xs0 with
 | nil=>
  exact C3
 | cons e r ih=>
  exact u7 (okE T X e) (ih)
theorem okO (T:TopB B0 mg mb) (X:u6 prog w B0 os gs Γ n):∀ o:Option Expr,OkO prog w B0 os gs mg mb mu Γ n o
 | none=>b2k
 | some e=>b3n (okE T X e)
end
end
section
noncomputable def c0p (e:Expr):Bool:=e.ctorIdx != 26
section
variable {prog:Program}{w:World}{B0:Heap}{os:OsState}{gs:TQ}{mg mb:Str->Option Value}{mu:Pos->Bool}{Γ:Spx}{n:Nat}{ρ:Loc}{G:GC}{σ:St}{K:KV}{KB:Bool->St->Prop}{KL:List HV->St->Prop}{KO:Option Int->St->Prop}
theorem b4j {k:Nat}{p:Pos}(h:K .none σ):evE mu Γ (.Constant .none k p) ρ G σ K:=fun _ _ _ _ _ _ _ _ _ _ A E ω s env Rm O S R=>wpAny_Constant_none (j6 S R (by rfl) h)
theorem b2c {b:Bool}{k:Nat}{p:Pos}(h:K (.bool b) σ):evE mu Γ (.Constant (.bool b) k p) ρ G σ K:=fun _ _ _ _ _ _ _ _ _ _ A E ω s env Rm O S R=>wpAny_Constant_bool (j6 S R (by rfl) h)
theorem b83 {i:Int}{k:Nat}{p:Pos}(h:K (.int i) σ):evE mu Γ (.Constant (.int i) k p) ρ G σ K:=fun _ _ _ _ _ _ _ _ _ _ A E ω s env Rm O S R=>wpAny_Constant_int (m9 S R (by simp[Rd]) h _)
theorem b3j {x:Str}{k:Nat}{p:Pos}(hz:Nat.ble x.cps.size 1000=true) (h:K (.str (v9 x)) σ):evE mu Γ (.Constant (.str x) k p) ρ G σ K:=fun _ _ _ _ _ _ _ _ _ _ A E ω s env Rm O S R=>by
 have ln:=c8
 have hz:=Nat.le_of_ble_eq_true hz
 exact wpAny_Constant_str (m9 S R (by exact(Y7 (by simp[v9];exact b8h ln hz) s.toks (by exact rr (show (⟨(v9 x).toArray⟩:Str)=x from a0l x) rfl))) h _)
theorem X5 {x:Str}{p:Pos}{v:HV}(e:ρ x=some v) (h:K v σ):evE mu Γ (.Name x p) ρ G σ K:=fun _ _ _ _ _ _ _ _ _ _ A E ω s env Rm O S R=>w4 O S e fun v r=>j6 S R r h
theorem b22 {x:Str}{p:Pos}{v:HV}(e:ρ x=none) (e2:G.g x=some v) (h:K v σ):evE mu Γ (.Name x p) ρ G σ K:=fun prog w B0 os gs mg mb n T X A E ω s env Rm O S R=>by
 exact B8 T O S e2 fun v r=>j6 S R (by refine rr r ?_;rfl) h
theorem T9 {l r:Expr}{op:Operator}{p:Pos}(h:evE mu Γ l ρ G σ fun a σ1=>evE mu Γ r ρ G σ1 fun b σ₂=>a0p op a b σ₂ K):evE mu Γ (.BinOp l op r p) ρ G σ K:=fun prog w B0 os gs mg mb n T X A E ω s env Rm O S R=>by
 refine wpAny_BinOp (j4 (h T X A E ω s env Rm O S R) fun a ω₁ σ1 va s₁ l₁ S₁ R₁ r₁ H₁=>?_)
 refine j4 (H₁ T X A E ω₁ s₁ env Rm (O.mono l₁) S₁ R₁) fun b ω₂ σ₂ vb s₂ l₂ S₂ R₂ r₂ H₂=>?_
 exact U1 (H₂ A E ω₂ s₂ va vb S₂ R₂ (r₁.mono l₂) r₂) (l₁.trans l₂)
theorem q_un {x:Expr}{op:UnaryOp}{p:Pos}(h:evE mu Γ x ρ G σ fun a σ1=>unH op a σ1 K):evE mu Γ (.UnaryOp op x p) ρ G σ K:=fun prog w B0 os gs mg mb n T X A E ω s env Rm O S R=>by
 refine wpAny_UnaryOp (j4 (h T X A E ω s env Rm O S R) fun a ω₁ σ1 va s₁ l₁ S₁ R₁ r₁ H₁=>?_)
 exact U1 (H₁ A E ω₁ s₁ va S₁ R₁ r₁) l₁
theorem c3v {x y:Expr}{p:Pos}(h:evE mu Γ x ρ G σ fun a σ1=>∃ c,P7 a σ1=some c/\if c then evE mu Γ y ρ G σ1 K else K a σ1):evE mu Γ (.BoolOp .And [x,y] p) ρ G σ K:=fun prog w B0 os gs mg mb n T X A E ω s env Rm O S R=>by
 refine wpAny_And2 (j4 (h T X A E ω s env Rm O S R) fun a ω₁ σ1 va s₁ l₁ S₁ R₁ r₁ H₁=>?_)
 refine c9 H₁ fun c e H₂=>?_
 refine a5f S₁ R₁ r₁ e fun t=>?_
 clear e;induction c with
 | true=>exact U1 (H₂ T X A E ω₁ _ env Rm (O.mono l₁) (S₁.toks t) R₁) l₁
 | false=>exact(m9 S₁ R₁ r₁ H₂ t).up l₁
theorem q_or {x y:Expr}{p:Pos}(h:evE mu Γ x ρ G σ fun a σ1=>∃ c,P7 a σ1=some c/\if c then K a σ1 else evE mu Γ y ρ G σ1 K):evE mu Γ (.BoolOp .Or [x,y] p) ρ G σ K:=fun prog w B0 os gs mg mb n T X A E ω s env Rm O S R=>by
 refine wpAny_Or2 (j4 (h T X A E ω s env Rm O S R) fun a ω₁ σ1 va s₁ l₁ S₁ R₁ r₁ H₁=>?_)
 refine c9 H₁ fun c e H₂=>?_
 refine a5f S₁ R₁ r₁ e fun t=>?_
 clear e;induction c with
 | true=>exact(m9 S₁ R₁ r₁ H₂ t).up l₁
 | false=>exact U1 (H₂ T X A E ω₁ _ env Rm (O.mono l₁) (S₁.toks t) R₁) l₁
theorem q_if {t b o:Expr}{p:Pos}(h:evT mu Γ t ρ G σ fun c σ1=>if c then evE mu Γ b ρ G σ1 K else evE mu Γ o ρ G σ1 K):evE mu Γ (.IfExp t b o p) ρ G σ K:=fun prog w B0 os gs mg mb n T X A E ω s env Rm O S R=>by
 refine wpAny_IfExp (P1 (h T X A E ω s env Rm O S R) fun c ω₁ σ1 s₁ l₁ S₁ R₁ H₁=>?_)
 induction c with
 | true=>exact U1 (H₁ T X A E ω₁ s₁ env Rm (O.mono l₁) S₁ R₁) l₁
 | false=>exact U1 (H₁ T X A E ω₁ s₁ env Rm (O.mono l₁) S₁ R₁) l₁
theorem b91 {l r:Expr}{op:CmpOp}{p:Pos}(hm:behindInMarks op r=false) (h:evE mu Γ l ρ G σ fun a σ1=>evE mu Γ r ρ G σ1 fun b σ₂=>cmpH op a b σ₂ K):evE mu Γ (.Compare l [op] [r] p) ρ G σ K:=fun prog w B0 os gs mg mb n T X A E ω s env Rm O S R=>by
 refine wpAny_Compare1 (j4 (h T X A E ω s env Rm O S R) fun a ω₁ σ1 va s₁ l₁ S₁ R₁ r₁ H₁=>?_) hm
 refine j4 (H₁ T X A E ω₁ s₁ env Rm (O.mono l₁) S₁ R₁) fun b ω₂ σ₂ vb s₂ l₂ S₂ R₂ r₂ H₂=>?_
 exact U1 (H₂ A _ ω₂ s₂ va vb Rm S₂ R₂ (r₁.mono l₂) r₂) (l₁.trans l₂)
theorem b3q {v i:Expr}{p:Pos}(hi:c0p i=true) (h:evE mu Γ v ρ G σ fun o σ1=>evE mu Γ i ρ G σ1 fun k σ₂=>a5w o k σ₂ K):evE mu Γ (.Subscript v i p) ρ G σ K:=fun prog w B0 os gs mg mb n T X A E ω s env Rm O S R=>by
 refine PyProof.Rows.Subscript_ (j4 (h T X A E ω s env Rm O S R) fun a ω₁ σ1 va s₁ l₁ S₁ R₁ r₁ H₁=>?_)
 refine j4 (H₁ T X A E ω₁ s₁ env Rm (O.mono l₁) S₁ R₁) fun b ω₂ σ₂ vb s₂ l₂ S₂ R₂ r₂ H₂=>?_
 exact U1 (H₂ A E ω₂ s₂ _ _ va vb S₂ R₂ (r₁.mono l₂) r₂) (l₁.trans l₂)
theorem a9u {v:Expr}{lo hi:Option Expr}{q p:Pos}(h:evE mu Γ v ρ G σ fun o σ1=>evO mu Γ lo ρ G σ1 fun l σ₂=>evO mu Γ hi ρ G σ₂ fun u σ₃=>slH o l u σ₃ K):evE mu Γ (.Subscript v (.Slice lo hi none q) p) ρ G σ K:=fun prog w B0 os gs mg mb n T X A E ω s env Rm O S R=>by
 refine PyProof.Rows.Subscript_ (j4 (h T X A E ω s env Rm O S R) fun a ω₁ σ1 va s₁ l₁ S₁ R₁ r₁ H₁=>?_)
 refine wpAny_Slice (wpAny_mono (okO T X _ A E ω₁ s₁ σ1 _ env ρ G Rm (O.mono l₁) S₁ R₁ H₁) (fun vl s₂ q=>?_) fun _ _ x=>x)
 obtain⟨il,ω₂,σ₂,l₂,S₂,R₂,p₂,H₂⟩:=q
 refine wpAny_mono (okO T X _ A E ω₂ s₂ σ₂ _ env ρ G Rm (O.mono (l₁.trans l₂)) S₂ R₂ H₂) (fun vh s₃ q=>?_) fun _ _ x=>x
 obtain⟨ih,ω₃,σ₃,l₃,S₃,R₃,p₃,H3⟩:=q
 refine wpAny_evalPart_none ?_
 exact U1 (H3 A E ω₃ _ _ _ _ _ va vl vh S₃ R₃ (r₁.mono (l₂.trans l₃)) p₂ p₃) (l₁.trans (l₂.trans l₃))
theorem a9e {es:List Expr}{k:Nat}{p:Pos}(h1:es.length<=1000) (h2:es.all n8=true) (h:M5 mu Γ es ρ G σ fun hs σ1=>K (.tup hs) σ1):evE mu Γ (.Tuple es k p) ρ G σ K:=fun prog w B0 os gs mg mb n T X A E ω s env Rm O S R=>by
 have ln:=c8
 refine wpAny_Tuple ?_
 refine rr (j2 p es env h2) ?_
 refine D2 (a8j T X _ A E ω s σ _ env ρ G Rm O S R h) fun xs ω₁ σ1 vs s₁ l₁ S₁ R₁ r₁ hn H₁=>?_
 have:=r₁.length
 exact⟨c0o ln this hn h1,(a6l S₁ R₁ (c0k ln hn h1) r₁ H₁ s₁.toks).up l₁⟩
theorem U8 {es:List Expr}{p:Pos}(hm:mu p=false) (h1:es.length<=1000) (h2:es.all n8=true) (h:M5 mu Γ es ρ G σ fun hs σ1=>K (.list hs) σ1):evE mu Γ (.List es p) ρ G σ K:=fun prog w B0 os gs mg mb n T X A E ω s env Rm O S R=>by
 have ln:=c8
 refine wpAny_List ?_
 refine rr (j2 p es env h2) ?_
 refine D2 (a8j T X _ A E ω s σ _ env ρ G Rm O S R h) fun xs ω₁ σ1 vs s₁ l₁ S₁ R₁ r₁ hn H₁=>?_
 have hl:=r₁.length
 refine⟨c0o ln hl hn h1,?_⟩
 exact(F6 S₁ R₁ (c0k ln hn h1) r₁ H₁ s₁.toks).up l₁
theorem a3v {es:List Expr}{p:Pos}(hm:mu p=true) (h1:es.length<=1000) (h2:es.all n8=true) (h:M5 mu Γ es ρ G σ fun hs σ1=>∀ a,σ1 a=none->K (.obj a) (σ1.put a hs)):evE mu Γ (.List es p) ρ G σ K:=fun prog w B0 os gs mg mb n T X A E ω s env Rm O S R=>by
 have ln:=c8
 refine wpAny_List ?_
 refine(j2 p es env h2)▸?_
 refine D2 (a8j T X _ A E ω s σ _ env ρ G Rm O S R h) fun xs ω₁ σ1 vs s₁ l₁ S₁ R₁ r₁ hn H₁=>?_
 have hl:=r₁.length
 refine⟨c0o ln hl hn h1,?_⟩
 have hu:=S₁.unused
 have hσ:σ1 s₁.heap.objs.size=none:=by
  induction q:σ1 s₁.heap.objs.size with
  | none=>rfl
  | some ys=>refine D9 (R₁ _ _ q) fun _ ws h3 _=>?_;rw[hu] at h3;exact c7 h3
 refine⟨.obj s₁.heap.objs.size,_,_,l₁.trans (Le.new _ hu),S₁.push _ (m:=.lst vs) ⟨_,Heap.get?_push_size _ rfl⟩,R₁.putNew hu (c0k ln hn h1) r₁,by rfl,H₁ _ hσ⟩
theorem b33 {v₁ v₂:Expr}{vs:List Expr}{p:Pos}(h:evJ mu Γ (v₁::v₂::vs) ρ G σ [] fun l σ1=>K (.str l) σ1):evE mu Γ (.JoinedStr (v₁::v₂::vs) p) ρ G σ K:=fun prog w B0 os gs mg mb n T X A E ω s env Rm O S R=>by
 refine wpAny_JoinedStr ?_
 have q:=okJ T X _ A E ω s σ [] _ env ρ G Rm O S R (by simp) h
 refine(show ∀ (es:List (Sem Value)) (acc:Str) (s:Shared) (P P':Str->Shared->Prop),(∀ x s,P x s->P' x s)->Joins (model prog w) A E es acc P s->Joins (model prog w) A E es acc P' s from by
  intro es
  induction es with
  | nil=>intro acc s P P' h q;exact h _ _ q
  | cons x xs ihx=>
   intro acc s P P' h q
   exact wpAny_mono q (fun v s' q=>by refine d9 q fun y t e1 e2 e3=>?_;exact(j7 y t e1 e2 (ihx _ _ _ _ h e3))) fun _ _ x=>x) _ _ _ _ _ (fun out s' q=>?_) q
 (refine G1 q fun l ω' σ' a b c z12 hz e=>?_;clear q;refine rr z12 ?_)
 exact⟨by exact hz,(m9 b c (by exact(Y7 hz _ rfl)) e _).up a⟩
theorem a7c {h : HV} {v : Value} {args : List Expr} {pos : Pos} {A : Around} {E : Value -> Shared -> Prop} {ω : Own} {s : Shared} {σ : St} {K : KV} {env : Env} {ρ : Loc} {G : GC} (X : u6 prog w B0 os gs Γ n)
    (T : TopB B0 mg mb) (Rm : Room n A) (O : EnvOk mg mb env ω ρ G) (S : MS B0 os ω gs s) (R : RelS ω σ) (r : Rd ω h v) (hp : args.all n8 = true) (hc : a8w Γ h = true)
    (H : M5 mu Γ args ρ G σ fun hs σ₂ => C5 Γ h hs σ₂ K) : wpAny (model prog w) A (callWith pos v [] (backTo pos (starEach args env)) (backToKw pos (keywordEach [] env))) (PostV B0 os gs ω K) E s := by
  refine rr (j2 pos args env hp) ?_
  show wpAny (model prog w) A (callWith pos v [] (args.map fun e => (false, eval e env)) []) (PostV B0 os gs ω K) E s
  have ev := a8j T X _ A E ω s σ _ env ρ G Rm O S R H
  induction h using HV.casesOn with
  | bm a =>
    simp only [Rd] at r
    (refine c9 r fun b z47 hb => ?_; clear r; subst z47)
    refine a78 (l := a) (d8 args env) (p7 (d8 args env) (D2 ev fun xs ω₁ σ1 vs s₁ l₁ S₁ R₁ r₁ hn H₁ => ?_))
    refine ⟨S₁.hold _ _ (l₁.fz hb), ?_⟩
    match xs, H₁, r₁ with
    | [], H₁, _ => exact H₁.elim
    | _ :: _ :: _, H₁, _ => exact H₁.elim
    | [x], H₁, r₁ =>
      (refine c9 r₁.one fun u z44 ru => ?_; refine z44 ▸ ?_)
      refine u9 H₁ fun l e1 hz H₂ => ?_
      refine D9 (R₁ a l e1) fun _ ws h1 r2 => ?_
      refine o_e (S₁.hold _ _ h1) fun m ho => ?_
      have hl := r2.length
      refine b5p (S₁.hold _ _ (l₁.fz hb)) ho (c4o hz hl) fun h' hs' hg => ?_
      exact ⟨.none, _, _, l₁.trans (Le.lst h1), S₁.same h1 rfl hs' (m := .lst (ws ++ [u])) ⟨_, hg⟩ s₁.toks, R₁.put h1 (by simp; assumption) (r2.append (j7 u ([]) rfl ru rfl) : RdL ω₁ (l ++ [x]) (ws ++ [u])), rfl, H₂⟩
  | val v' =>
    simp only [Rd] at r
    subst r
    by_cases hb : ∃ id, v = .builtin id
    · (refine o_e hb fun id z36 => ?_; clear H hc; subst z36)
      refine callWith_builtin (d8 args env) (p7 (d8 args env) (D2 ev fun xs ω₁ σ1 vs s₁ l₁ S₁ R₁ r₁ hn H₁ => ?_))
      exact U1 ((show biH _ _ _ _ from H₁) A E ω₁ s₁ vs Rm S₁ R₁ r₁) l₁
    · by_cases ht : ∃ t, v = .type t
      · obtain ⟨t, rfl⟩ := ht
        refine callWith_type (d8 args env) (p7 (d8 args env) (D2 ev fun xs ω₁ σ1 vs s₁ l₁ S₁ R₁ r₁ hn H₁ => ?_))
        exact U1 ((show tyH _ _ _ _ from H₁) A E ω₁ s₁ vs Rm S₁ R₁ r₁) l₁
      · have e1 : a8w Γ (.val v) = (Γ.f v).isSome := by
          clear ev H hc; cases v <;> first | rfl | exact absurd ⟨_, rfl⟩ hb | exact absurd ⟨_, rfl⟩ ht
        rw [e1] at hc
        refine o_e (Option.isSome_iff_exists.mp hc) fun sp hsp => ?_
        (refine E4 (X.2 v sp hsp) fun a o fd z19 h1 h2 z20 => ?_; clear e1 ht hb H hc; subst z19; refine o_a z20 fun h3 h4 => ?_)
        refine callWith_function (o := o) (fd := fd) (p7 (d8 args env) (D2 ev fun xs ω₁ σ1 vs s₁ l₁ S₁ R₁ r₁ hn H₁ => ?_))
        refine ⟨⟨S₁.top h1 h2, h3⟩, U1 (h4 A E ω₁ s₁ σ1 K xs vs Rm S₁ R₁ r₁ ?_) l₁⟩
        refine rl ((show C5 Γ (.val (.ref a)) xs σ1 K = sp xs σ1 K from by show (match Γ.f (.ref a) with | some sp => sp xs σ1 K | none => False) = _; exact rr hsp rfl)) ?_; exact H₁
  | _ => exact j0 hc
theorem U3 {f:Str}{q p:Pos}{args:List Expr}{v:HV}(h5:args.all n8=true) (e:ρ f=none) (e2:G.g f=some v) (hc:a8w Γ v=true) (h:M5 mu Γ args ρ G σ fun hs σ₂=>C5 Γ v hs σ₂ K) :
 evE mu Γ (.Call (.Name f q) args [] p) ρ G σ K:=fun prog w B0 os gs mg mb n T X A E ω s env Rm O S R=>by
 exact wpAny_Call_ofName (B8 T O S e2 fun v r=>a7c X T Rm O S R (by refine rr r ?_;rfl) h5 hc h)
theorem a9h {f:Str}{q p:Pos}{args:List Expr}{v:HV}(h5:args.all n8=true) (e:ρ f=some v) (hc:a8w Γ v=true) (h:M5 mu Γ args ρ G σ fun hs σ₂=>C5 Γ v hs σ₂ K) :
 evE mu Γ (.Call (.Name f q) args [] p) ρ G σ K:=fun prog w B0 os gs mg mb n T X A E ω s env Rm O S R=>by
 exact wpAny_Call_ofName (w4 O S e fun v r=>a7c X T Rm O S R r h5 hc h)
theorem u8 {o:Expr}{name:Str}{env:Env}{x:Sem Value}(h:T4 o=true):attributeBase o name env x=x:=by
 cases o<;>first | rfl | exact j0 ((show false=true from h))
theorem M1 (args:List Expr) (env:Env) (hp:args.all n8=true) (hl:args.length<=20) (pos:Pos):((backTo pos (starEach args env)).all (fun x=>!x.1)&&(backToKw pos (keywordEach [] env)).all (fun x=>x.1.isSome)
 && decide (args.length+([]:List Keyword).length+(if ([]:List Keyword).isEmpty then 0 else 1)<30))=true:=by
 rw[j2 pos args env hp]
 simp only[List.all_map,Bool.and_eq_true,decide_eq_true_eq]
 refine⟨⟨?_,rfl⟩,by simp;exact Nat.lt_of_le_of_lt hl (by decide)⟩
 rw[List.all_eq_true];intro x _;rfl
theorem b3h {o:Expr}{name:Str}{ap p:Pos}{args:List Expr}(h1:T4 o=true) (h2:name=Str.ofString "append" \/ name=Str.ofString "join") (h3:ap.endLine=p.line) (h4:args.length<=20) (h5:args.all n8=true)
 (h:evE mu Γ o ρ G σ fun a σ1=>rcv name a σ1=true/\M5 mu Γ args ρ G σ1 fun hs σ₂=>a6n a name hs σ₂ K):evE mu Γ (.Call (.Attribute o name ap) args [] p) ρ G σ K:=fun prog w B0 os gs mg mb n T X A E ω s env Rm O S R=>by
 by_cases ha:name=Str.ofString "append"
 · subst ha
   refine wpAny_Call_method (T:="list") (id:="list.append") (u8 h1) (M1 args env h5 h4 p) (by refine h3▸?_;simp) F.plainAttrs_list F.slot_list_append F.type_list_append (j4 (h T X A E ω s env Rm O S R) fun a ω₁ σ1 va s₁ l₁ S₁ R₁ r₁ H₁=>?_)
   obtain⟨hr,H₁⟩:=H₁
   dsimp only[rcv] at hr
   rw[if_pos rfl] at hr
   induction a using HV.casesOn with
   | obj b=>
     obtain⟨xs,hx⟩:=Option.isSome_iff_exists.mp hr
     (refine W9 (Y3 S₁ R₁ r₁ hx) fun z78 hz vs h1 hl r2=>?_;refine z78▸?_)
     refine o_e (S₁.hold _ _ h1) fun k hk=>?_
     refine(A8 hl.typeIs (fun a e=>by (injection e with e;subst e);exact(j1 _ hk rfl)) ?_)
     refine(j2 p args env h5)▸?_
     refine callWith_builtin (d8 args env) (p7 (d8 args env) (D2 (a8j T X _ A E ω₁ s₁ σ1 _ env ρ G Rm (O.mono l₁) S₁ R₁ H₁) fun ys ω₂ σ₂ us s₂ l₂ S₂ R₂ r₂ hn H₂=>?_))
     dsimp only[a6n] at H₂
     rw[if_pos rfl] at H₂
     match ys,H₂,r₂ with
     | [],H₂,_=>exact H₂.elim
     | _::_::_,H₂,_=>exact H₂.elim
     | [x],H₂,r₂=>
       (refine c9 r₂.one fun u z76 ru=>?_;refine rr z76 ?_)
       refine u9 H₂ fun l e1 hz' H3=>?_
       exact U1 (b0k S₂ R₂ e1 hz' ru H3) (l₁.trans l₂)
   | _=>exact j0 hr
 · by_cases hj:name=Str.ofString "join"
   · clear h2;subst hj
     refine wpAny_Call_method (T:="str") (id:="str.join") (u8 h1) (M1 args env h5 h4 p) (by refine rr h3 ?_;simp) F.plainAttrs_str F.slot_str_join F.type_str_join (j4 (h T X A E ω s env Rm O S R) fun a ω₁ σ1 va s₁ l₁ S₁ R₁ r₁ H₁=>?_)
     obtain⟨hr,H₁⟩:=H₁
     induction a using HV.casesOn with
     | str sep=>
       have r1':=r₁
       simp only[Rd] at r1'
       (refine y5 r1' fun hz t z67=>?_;clear r1';refine rr z67 ?_)
       refine(A8 (typeIs_str _ _ _) (fun a e=>(by contradiction)) ?_)
       refine rr (j2 p args env h5) ?_
       refine callWith_builtin (d8 args env) (p7 (d8 args env) (D2 (a8j T X _ A E ω₁ s₁ σ1 _ env ρ G Rm (O.mono l₁) S₁ R₁ H₁) fun ys ω₂ σ₂ us s₂ l₂ S₂ R₂ r₂ hn H₂=>?_))
       dsimp only[a6n] at H₂
       rw[if_neg ha,if_pos rfl] at H₂
       match ys,H₂,r₂ with
       | [],H₂,_=>exact H₂.elim
       | _::_::_,H₂,_=>exact H₂.elim
       | [x],H₂,r₂=>
         (refine c9 r₂.one fun u z64 ru=>?_;refine rr z64 ?_)
         (refine M6 H₂ fun zs ts e1 e2 hz' H3=>?_;clear H₂)
         clear hn r₂;induction x using HV.casesOn with
         | list ws=>
           (replace e1:=Option.some.inj e1;subst e1)
           (refine q9 (G7 S₂ ru) fun _ b us z61 hl r3=>?_;refine rr z61 ?_)
           exact U1 (a5e S₂ R₂ hl r3 e2 hz' H3) (l₁.trans l₂)
         | obj b=>
           (refine W9 (Y3 S₂ R₂ ru e1) fun z58 _ us h1 hl r3=>?_;refine rr z58 ?_)
           exact U1 (a5e S₂ R₂ hl r3 e2 hz' H3) (l₁.trans l₂)
         | _=>exact c7 e1
     | _=>exact j0 hr
   · exact absurd h2 (by simp only[ha,hj];simp)
theorem c1a {o:Expr}{name:Str}{p:Pos}(h1:T4 o=true) (h2:name=Str.ofString "append") (h:evE mu Γ o ρ G σ fun a σ1=>∃ b,a=.obj b/\(σ1 b).isSome=true/\K (.bm b) σ1):evE mu Γ (.Attribute o name p) ρ G σ K:=fun prog w B0 os gs mg mb n T X A E ω s env Rm O S R=>by
 refine rr h2 ?_
 refine PyProof.Rows.Attribute_any_ (j4 (h T X A E ω s env Rm O S R) fun a ω₁ σ1 va s₁ l₁ S₁ R₁ r₁ H₁=>?_) (by simp only[arm_eval_Attribute,u8 h1])
 (refine u9 H₁ fun b z85 hs H₂=>?_;clear H₁;subst z85)
 obtain⟨xs,hx⟩:=Option.isSome_iff_exists.mp hs
 (refine W9 (Y3 S₁ R₁ r₁ hx) fun z81 hz vs h1 hl r2=>?_;refine rr z81 ?_)
 refine o_e (S₁.hold _ _ h1) fun k hk=>?_
 refine a2i hk fun tk=>?_
 exact(J8 (o:=a4c b) S₁ R₁ rfl (by exact(j1 _ rfl (Own.set_self ..))) H₂ tk).up l₁
theorem a3s {A:Around}{E:Value->Shared->Prop}{ω ω0:Own}{s:Shared}{σ:St}{K:Bool->St->Prop}{h:HV}{v:Value}(l:Le ω0 ω) (S:MS B0 os ω gs s) (R:RelS ω σ) (r:Rd ω h v) (H:∃ c,P7 h σ=some c/\K c σ) :
 wpAny (model prog w) A (truthy v) (V8 B0 os gs ω0 K) E s:=by
 refine c9 H fun c e H=>?_
 exact a5f S R r e fun t=>⟨ω,σ,l,S.toks t,R,H⟩
theorem b7k {x:Expr}{p:Pos}(h:evT mu Γ x ρ G σ fun b σ1=>KB (!b) σ1):evT mu Γ (.UnaryOp .Not x p) ρ G σ KB:=fun prog w B0 os gs mg mb n T X A E ω s env Rm O S R=>by
 exact wpAny_isTrue_Not (P1 (h T X A E ω s env Rm O S R) fun b ω₁ σ1 s₁ l₁ S₁ R₁ H₁=>⟨ω₁,σ1,l₁,S₁,R₁,H₁⟩)
theorem b54 {op:BoolOp}:OkA prog w B0 os gs mg mb mu Γ n op []:=fun A E ω s σ K env ρ G Rm O S R H=>by
 induction op using BoolOp.casesOn with
 | And=>exact wpAny_allTrue_And_nil ⟨ω,σ,.refl _,S,R,H⟩
 | Or=>exact wpAny_allTrue_Or_nil ⟨ω,σ,.refl _,S,R,H⟩
theorem b0x {op:BoolOp}{x:Expr}{r:List Expr}(hx:OkT prog w B0 os gs mg mb mu Γ n x) (hr:OkA prog w B0 os gs mg mb mu Γ n op r):OkA prog w B0 os gs mg mb mu Γ n op (x::r):=fun A E ω s σ K env ρ G Rm O S R H=>by
 induction op using BoolOp.casesOn with
 | And=>
  refine wpAny_allTrue_And_cons (P1 (hx A E ω s σ _ env ρ G Rm O S R H) fun b ω₁ σ1 s₁ l₁ S₁ R₁ H₁=>?_)
  cases b with
  | true=>exact c44 (hr A E ω₁ s₁ σ1 _ env ρ G Rm (O.mono l₁) S₁ R₁ H₁) l₁
  | false=>exact⟨ω₁,σ1,l₁,S₁,R₁,H₁⟩
 | Or=>
  refine wpAny_allTrue_Or_cons (P1 (hx A E ω s σ _ env ρ G Rm O S R H) fun b ω₁ σ1 s₁ l₁ S₁ R₁ H₁=>?_)
  cases b with
  | true=>exact⟨ω₁,σ1,l₁,S₁,R₁,H₁⟩
  | false=>exact c44 (hr A E ω₁ s₁ σ1 _ env ρ G Rm (O.mono l₁) S₁ R₁ H₁) l₁
theorem okA (T:TopB B0 mg mb) (X:u6 prog w B0 os gs Γ n) (op:BoolOp):∀ es,OkA prog w B0 os gs mg mb mu Γ n op es:=by
 intro xs0
 induction xs0 with
 | nil=>
  exact b54
 | cons x r ih=>
  exact b0x (okT T X x) (ih)
theorem b25 {op:BoolOp}{vs:List Expr}{p:Pos}(h:evA mu Γ op vs ρ G σ KB):evT mu Γ (.BoolOp op vs p) ρ G σ KB:=fun prog w B0 os gs mg mb n T X A E ω s env Rm O S R=>by
 exact wpAny_isTrue_BoolOp (okA T X _ _ A E ω s σ _ env ρ G Rm O S R h)
theorem a5d {l r:Expr}{op:CmpOp}{p:Pos}(hm:behindInMarks op r=false) (h:evE mu Γ l ρ G σ fun a σ1=>evE mu Γ r ρ G σ1 fun b σ₂=>cmpH op a b σ₂ fun h σ₃=>∃ c,P7 h σ₃=some c/\KB c σ₃):evT mu Γ (.Compare l [op] [r] p) ρ G σ KB:=fun prog w B0 os gs mg mb n T X A E ω s env Rm O S R=>by
 refine wpAny_isTrue_Compare1 (j4 (h T X A E ω s env Rm O S R) fun a ω₁ σ1 va s₁ l₁ S₁ R₁ r₁ H₁=>?_) hm
 refine j4 (H₁ T X A E ω₁ s₁ env Rm (O.mono l₁) S₁ R₁) fun b ω₂ σ₂ vb s₂ l₂ S₂ R₂ r₂ H₂=>?_
 exact j4 (H₂ A _ ω₂ s₂ va vb Rm S₂ R₂ (r₁.mono l₂) r₂) fun c ω₃ σ₃ vc s₃ l₃ S₃ R₃ r₃ H3=>a3s ((l₁.trans l₂).trans l₃) S₃ R₃ r₃ H3
theorem b51 {x:Str}{p:Pos}{v:HV}(e:ρ x=some v) (h:∃ c,P7 v σ=some c/\KB c σ):evT mu Γ (.Name x p) ρ G σ KB:=fun _ _ _ _ _ _ _ _ _ _ A E ω s env Rm O S R=>wpAny_isTrue_value (w4 O S e fun v r=>a3s (.refl _) S R r h)
theorem b1x {f:Expr}{as:List Expr}{ks:List Keyword}{p:Pos}(h:evE mu Γ (.Call f as ks p) ρ G σ fun h σ1=>∃ c,P7 h σ1=some c/\KB c σ1):evT mu Γ (.Call f as ks p) ρ G σ KB:=fun prog w B0 os gs mg mb n T X A E ω s env Rm O S R=>by
 exact wpAny_isTrue_value (j4 (h T X A E ω s env Rm O S R) fun a ω₁ σ1 va s₁ l₁ S₁ R₁ r₁ H₁=>a3s l₁ S₁ R₁ r₁ H₁)
end
end
section
theorem Own.set_set (ω:Own) (a:Addr) (m m':OM):(ω.set a m).set a m'=ω.set a m':=by funext b;unfold Own.set;split<;>rfl
theorem Own.del_ne (ω:Own){a b:Addr}(h:b≠a):ω.del a b=ω b:=by simp -iota [Own.del,h]
theorem Own.ne_of {ω:Own}{a b:Addr}{m:OM}(h:ω a=some m) (h':ω b=none):a≠b:=fun q=>by subst q;rw[h] at h';exact B5 h'
theorem RelS.keepF {ω ω':Own}{σ:St}(R:RelS ω σ) (l:LeF ω ω') (k:∀ a vs,ω a=some (.lst vs)->ω' a=some (.lst vs)):RelS ω' σ:=fun b xs e=>by
 refine D9 (R b xs e) fun hz vs h1 h2=>?_
 exact(X8 hz vs (k _ _ h1) (h2.monoF l))
theorem RelS.set {ω:Own}{σ:St}{a:Addr}{m₀:OM}(R:RelS ω σ) (m:OM) (h:ω a=some m₀) (h1:∀ o,m₀≠.fz o) (h2:∀ vs,m₀≠.lst vs):RelS (ω.set a m) σ:=
 R.keepF (LeF.set m h h1) fun b vs e=>by
  refine rr (Own.set_ne _ _ (fun q=>by subst q;rw[h] at e;(replace e:=Option.some.inj e;clear h h1;subst e);exact h2 _ rfl)) ?_;exact e
theorem RelS.del {ω:Own}{σ:St}{a:Addr}{m₀:OM}(R:RelS ω σ) (h:ω a=some m₀) (h1:∀ o,m₀≠.fz o) (h2:∀ vs,m₀≠.lst vs):RelS (ω.del a) σ:=
 R.keepF (LeF.del h h1) fun b vs e=>by
  refine rr (Own.del_ne _ (fun q=>by subst q;rw[h] at e;(replace e:=Option.some.inj e;clear h h1;subst e);exact h2 _ rfl)) ?_;exact e
theorem MS.env {B0:Heap}{os:OsState}{ω:Own}{gs:TQ}{s:Shared}{o:Obj}{h':Heap}{m:Str->Option Value}(S:MS B0 os ω gs s) (hf:o.isFreed=false)
 (hn:h'.Ns s.heap.objs.size m) (hs:Heap.SameBut s.heap.objs.size (s.heap.push o) h') (t:Nat):MS B0 os (ω.set s.heap.objs.size (.ns m)) gs { s with heap:=h',toks:=t }:=by
 have S₁:=S.push o (m:=.ex o) (Heap.get?_push_size _ hf)
 have S₂:=S₁.same (Own.set_self ..) rfl hs (m:=.ns m) hn t
 simp only[Own.set_set] at S₂
 exact S₂
theorem E7 {e:Expr}{env:Env}(h:a4g e=true) (x:Value):foldedSetIterable e env x=pure x:=by
 cases e<;>first | rfl | exact j0 ((show false=true from h))
noncomputable def I4 (env:Env) (cs:List (Str×Addr)) (x:Str×NameKind):List (Str×Addr):=if x.2==.free then (x.1,(env.cells.lookup x.1).getD 0)::cs else cs
theorem a37 {env:Env}{sc:Scope}(h:∀ x∈sc.names,x.2=.free->∃ c,env.cells.lookup x.1=some c):closureFor sc env=pure (sc.names.foldl (I4 env) []):=by
 simp -iota only [closureFor]
 refine rr ((show ∀ (l:List (Str×NameKind)) (cs:List (Str×Addr)),(∀ x∈l,x.2=.free->∃ c,env.cells.lookup x.1=some c)->
  (forIn l cs fun x r=>(if (x.snd==NameKind.free)=true then (do
   let __do_lift ← cellOf env x.fst
   pure (ForInStep.yield ((x.fst,__do_lift)::r)))
   else pure (ForInStep.yield r):Sem (ForInStep (List (Str×Addr)))))=(pure (l.foldl (I4 env) cs):Sem (List (Str×Addr))) from by
  intro l
  induction l with
  | nil=>intro cs _;rfl
  | cons x r ih=>
    intro cs hx
    (refine rr (List.forIn_cons ..) ?_;refine rr List.foldl_cons ?_)
    obtain⟨nm,kd⟩:=x
    by_cases hk:kd=.free
    · subst hk
      obtain⟨c,hc⟩:=hx _ (.head _) rfl
      refine rr (show I4 env cs (nm,.free)=(nm,c)::cs from by dsimp only[I4];simp -iota only [hc];rfl) ?_
      simp -iota only [(show cellOf env nm=pure c from by unfold cellOf;exact rr hc rfl)]
      exact ih _ fun y hy=>hx y (.tail _ hy)
    · have e2:I4 env cs (nm,kd)=cs:=by dsimp only[I4];simp -iota [hk]
      refine rr e2 ?_
      have hb:(kd==NameKind.free)=false:=by simp -iota [hk]
      simp -iota only [hb]
      exact ih _ fun y hy=>hx y (.tail _ hy)) _ _ h) ?_
 rfl
theorem a16 {env:Env}:∀ (l:List (Str×NameKind)) (cs:List (Str×Addr)) (x:Str) (c:Addr),env.cells.lookup x=some c->((x,NameKind.free)∈l\/cs.lookup x=some c)->(l.foldl (I4 env) cs).lookup x=some c
 | [],cs,x,c,_,h=>by rcases h with h | h;· contradiction
                     · exact h
 | y::r,cs,x,c,hc,h=>by
   refine a16 r _ x c hc ?_
   obtain⟨nm,kd⟩:=y
   by_cases hin:(x,NameKind.free)∈r
   · exact .inl hin
   · refine .inr ?_
     by_cases hk:kd=.free
     · refine rr hk ?_
       refine rr (show I4 env cs (nm,.free)=(nm,(env.cells.lookup nm).getD 0)::cs from by rfl) ?_
       by_cases hx:x=nm
       · refine rl hx ?_;simp -iota [List.lookup_cons,hc]
       · simp -iota only [List.lookup_cons,(beq_eq_false_iff_ne.mpr hx)]
         rcases h with h | h
         · rcases List.mem_cons.mp h with h | h
           · (injection h with h;subst h);exact absurd rfl hx
           · exact absurd h hin
         · exact h
     · refine rr (show I4 env cs (nm,kd)=cs from by dsimp only[I4];simp -iota [hk]) ?_
       rcases h with h | h
       · rcases List.mem_cons.mp h with h | h
         · (injection h with h h9;subst h9);exact absurd rfl hk
         · exact absurd h hin
       · exact h
theorem D3 {x:Str}{k:NameKind}:∀ {l:List (Str×NameKind)},l.lookup x=some k->(x,k)∈l
 | [],h=>by simp -iota at h
 | (n,j)::r,h=>by
  simp only[List.lookup_cons] at h
  split at h
  · rename_i hx;refine Option.some.inj h▸?_;rw[beq_iff_eq] at hx;refine rr hx ?_;exact .head _
  · exact .tail _ (D3 h)
theorem L0 {env:Env}{x:Str}:∀ {l:List (Str×NameKind)}{k:NameKind},l.lookup x=some k->
 ∃ k',(l.map fun (n,k)=>if (k==NameKind.free&&env.scope.kind==.function&&env.kindOf n==some .cell) then (n,NameKind.cell) else (n,k)).lookup x=some k'/\(k≠.free->k'=k)/\(k=.free->k'=.free\/k'=.cell)
 | [],_,h=>by simp -iota at h
 | (n,j)::r,k,h=>by
   show ∃ k',List.lookup x ((if (j==NameKind.free&&env.scope.kind==.function&&env.kindOf n==some .cell)=true then (n,NameKind.cell) else (n,j))::_)=some k'/\_
   induction hx:x==n with
   | true=>
     simp -iota only [List.lookup_cons,hx] at h
     refine Option.some.inj h▸?_
     by_cases hc:(j==NameKind.free&&env.scope.kind==.function&&env.kindOf n==some .cell)=true
     · rw[if_pos hc]
       refine(y7 .cell (by simp only[List.lookup_cons,hx]) (fun q=>?_) (fun _=>.inr rfl))
       exfalso;apply q;simp -iota only [Bool.and_eq_true,beq_iff_eq] at hc;exact hc.1.1
     · rw[if_neg hc]
       exact(y7 j (by simp only[List.lookup_cons,hx]) (fun _=>rfl) (fun q=>.inl q))
   | false=>
     simp -iota only [List.lookup_cons,hx] at h
     refine c9 ((@L0 env x r k) h) fun k' h1 h2=>?_
     refine(j1 k' ?_ h2)
     by_cases hc:(j==NameKind.free&&env.scope.kind==.function&&env.kindOf n==some .cell)=true
     · rw[if_pos hc];simp -iota only [List.lookup_cons,hx];exact h1
     · rw[if_neg hc];simp -iota only [List.lookup_cons,hx];exact h1
structure c2i (sc:Scope) (t:Str) (c:Str->Bool):Prop where
 kind:sc.kind=.function
 noc:∀ x∈sc.names,x.2≠.cell
 names:∀ x∈sc.names,x.2=.local->sc.names.lookup x.1=some .local
 tl:sc.names.lookup t=some .local
 free:∀ x∈sc.names,x.2=.free->c x.1=true
 d1:t≠("__debug__" : Str)
 d2:t≠("__classdict__" : Str)
theorem a8h {sc:Scope}{t:Str}{c:Str->Bool}(h:scB sc t c=true):c2i sc t c:=by
 unfold scB at h
 simp -iota only [Bool.and_eq_true,List.all_eq_true,Bool.or_eq_true,bne_iff_ne,beq_iff_eq] at h
 (refine o_a h fun z346 h7=>?_;(refine o_a z346 fun z348 h6=>?_;obtain⟨⟨⟨⟨h1,h2⟩,h3⟩,h4⟩,h5⟩:=z348))
 exact⟨h1,h2,fun x hx e=>(h3 x hx).resolve_left (fun q=>q e),h4,fun x hx e=>(h5 x hx).resolve_left (fun q=>q e),h6,h7⟩
noncomputable def V6 (sc:Scope) (env:Env) (L:Addr):Env:={ newEnv sc L env.globals (sc.names.foldl (I4 env) []) env.qual none .none (some env) builtinsNs with scope:=relabel sc env }
theorem b59 {mg mb:Str->Option Value}{env:Env}{ω:Own}{ρ:Loc}{G:GC}{sc:Scope}{t:Str}{L:Addr}{m:Str->Option Value}{v:Value}{x:HV}(O:EnvOk mg mb env ω ρ G) (C:c2i sc t G.c)
 (hL:ω L=some (.ns m)) (hm:m t=some v) (r:Rd ω x v):EnvOk mg mb (V6 sc env L) ω (upd (E5 sc ρ) t x) (B1 sc G):=by
 have kof:∀ y,(V6 sc env L).kindOf y=((sc.names.map fun (n,k)=>if (k==NameKind.free&&env.scope.kind==.function&&env.kindOf n==some .cell) then (n,NameKind.cell) else (n,k)).lookup y):=fun _=>rfl
 have kt:(V6 sc env L).kindOf t=some .local:=lookup_relabel_local C.tl
 have kfree:∀ y,sc.names.lookup y=some .free->(V6 sc env L).kindOf y=some .cell\/(V6 sc env L).kindOf y=some .free:=fun y hy=>by
  refine u9 (L0 (env:=env) hy) fun k' h1 h2 h3=>?_
  (refine rr (kof ..) ?_;refine rr h1 ?_)
  refine Or.elim (h3 rfl) (fun q=>?_) fun q=>?_<;>refine rr q ?_
  · exact .inr rfl
  · exact .inl rfl
 have look:∀ y,sc.names.lookup y=some .free->∀ c,env.cells.lookup y=some c->(V6 sc env L).cells.lookup y=some c:=fun y hy c hc=>by
  exact a16 _ _ y c hc (.inl (D3 hy))
 have un:∀ y h,upd (E5 sc ρ) t x y=some h->(y=t/\h=x)\/(y≠t/\sc.names.lookup y=some .free/\ρ y=some h):=fun y h e=>by
  unfold upd at e
  (revert e;refine ie rfl (fun _ e=>?_) fun _ e=>?_)
  · rename_i q;refine Option.some.inj e▸?_;exact .inl ⟨q,rfl⟩
  · rename_i q
    unfold E5 at e
    (revert e;refine ie rfl (fun _ e=>?_) fun _ e=>?_)
    · rename_i q2;exact .inr (A8 q q2 e)
    · exact c7 e
 have gun:∀ y h,(B1 sc G).g y=some h->sc.names.lookup y=some .globalImplicit/\G.all y=some h:=fun y h e=>by
  unfold B1 at e
  dsimp only at e
  (revert e;refine ie rfl (fun _ e=>?_) fun _ e=>?_)
  · rename_i q;exact⟨q,e⟩
  · exact c7 e
 refine⟨C.kind,O.glob,O.blt,(j1 m hL (fun y h e k=>?_)),fun y h e k=>?_,fun y h e=>?_,fun y h e=>?_,fun y h e=>?_,fun y e=>?_,fun y e=>by simp -iota [B1] at e,(A8 ?_ ?_ ?_),O.gg,O.gd,fun _ _ e=>c7 e⟩
 · refine Or.elim (un y h e) (fun z396=>?_) fun z397=>?_
   · obtain⟨rfl,rfl⟩:=z396;exact(j1 v hm r)
   · rcases kfree y z397.2.1 with q4 | q4<;>(rw[q4] at k;contradiction)
 · rcases un y h e with ⟨rfl,rfl⟩ | ⟨q,q2,q3⟩
   · rw[kt] at k;rcases k with k | k<;>contradiction
   · refine d9 (O.cel y h q3 (O.cl y (C.free _ (D3 q2) rfl)).1) fun c u h1 h2 h3=>?_
     exact(j7 c u (look y q2 c h1) h2 h3)
 · rcases un y h e with ⟨rfl,rfl⟩ | ⟨q,q2,q3⟩
   · exact .inl kt
   · exact .inr (kfree y q2)
 · refine o_a (gun y h e) fun q _=>?_
   refine u9 (L0 (env:=env) q) fun k' h1 h2 _=>?_
   (refine rr (kof ..) ?_;refine rr h1 ?_;exact rr (h2 (by decide)) rfl)
 · have q:=(gun y h e).2
   unfold GC.all at q
   split at q
   · rename_i q2;refine Option.some.inj q▸?_;exact O.gv y _ q2
   · exact O.gg y h q
 · have q:sc.names.lookup y=some .free:=by simpa -iota [B1] using e
   obtain⟨c,hc⟩:=(O.cl y (C.free _ (D3 q) rfl)).2
   exact⟨kfree y q,c,look y q c hc⟩
 · induction q:upd (E5 sc ρ) t x "__debug__" using Option.casesOn with
   | none=>rfl
   | some h=>
     rcases un _ h q with ⟨q2,_⟩ | ⟨_,_,q3⟩
     · exact absurd q2.symm C.d1
     · rw[O.dbg.1] at q3;exact c7 q3
 · induction q:(B1 sc G).g "__debug__" using Option.casesOn with
   | none=>rfl
   | some h=>have:=(gun _ h q).2;unfold GC.all at this;rw[O.dbg.2.1] at this;dsimp only at this;rw[O.gd] at this;exact c7 this
 · induction q:upd (E5 sc ρ) t x "__classdict__" using Option.casesOn with
   | none=>rfl
   | some h=>
     rcases un _ h q with ⟨q2,_⟩ | ⟨_,_,q3⟩
     · exact absurd q2.symm C.d2
     · rw[O.dbg.2.2] at q3;exact c7 q3
end
section
section
variable {prog:Program}{w:World}{B0:Heap}{os:OsState}{gs:TQ}{mg mb:Str->Option Value}{mu:Pos->Bool}{Γ:Spx}{n:Nat}
theorem a93 {A:Around}{E:Value->Shared->Prop}{ω:Own}{s:Shared}{a:Addr}{v:Value}{vs:List Value}{Q:Value->Shared->Prop}(S:MS B0 os ω gs s) (e:ω a=some (.hid vs)) (hz:vs.length<sizeLine)
 (H:∀ s',MS B0 os (ω.set a (.hid (vs++[v]))) gs s'->Q .none s'):wpAny (model prog w) A (call (.builtin "list.append") [.ref a,v]) Q E s:=by
 refine o_e (S.hold _ _ e) fun n ho=>?_
 have hl:s.heap.IsList a vs.toArray:=(y7 _ ho rfl ⟨n,rfl⟩)
 refine wpAny_call_entry slot_list_append hl.typeIs entry_list_append ?_ (args_list_append _ _)
 show wpAny _ _ (updateSeq a (·.push v) >>= fun _=>ret .none) _ _ s
 refine wpAny_bind ?_
 refine wpAny_updateSeq ho rfl (wpAny_pure (j1 .none rfl ?_)) (by simp;exact ar9 hz) (by simp;exact ar9 hz)
 refine H _ (S.same e rfl (Heap.SameBut.update ..) (m:=.hid (vs++[v])) ?_ s.toks)
 refine⟨n+1,?_⟩
 have:=Heap.get?_update_self (Obj.mapSeq (·.push v)) ho rfl
 simp only[this]
 simp[Obj.mapSeq]
noncomputable abbrev Tst:=HV->St->(Bool->St->Prop)->Prop
inductive LcI (B0:Heap) (os:OsState) (gs:TQ) (ω₁:Own) (it acc L:Addr) (tst:Tst) (els:HV->St->KV->Prop) (K:KV) (k:Nat) (s:Shared):Prop where
 | mk (ω:Own) (σ:St) (kk:ItK) (xs ha:List HV) (vs:List Value) (m:Str->Option Value) (h1:xs.length=k) (h2:Le ω₁ ω) (h3:MS B0 os ω gs s) (h4:RelS ω σ) (h5:ω it=some (.it kk)) (h6:ItRd ω kk xs) (h7:ω acc=some (.hid vs)) (h8:RdL ω ha vs) (h9:ha.length<=sizeLine) (h10:ω L=some (.ns m)) (h11:J1 tst els ha xs σ K):LcI B0 os gs ω₁ it acc L tst els K k s
inductive b96 (B0:Heap) (os:OsState) (gs:TQ) (ω ω₁:Own) (acc L:Addr) (K:KV) (s:Shared):Prop where
 | mk (ω':Own) (σ:St) (ha:List HV) (vs:List Value) (m:Str->Option Value) (h0:Le ω ω₁) (n1:ω₁ acc=none) (n2:ω₁ L=none) (a2:acc≠L) (h2:Le ω₁ ω') (h3:MS B0 os ω' gs s) (h4:RelS ω' σ) (h7:ω' acc=some (.hid vs)) (h8:RdL ω' ha vs) (h9:ha.length<=sizeLine) (h10:ω' L=some (.ns m)) (h11:K (.list ha) σ):b96 B0 os gs ω ω₁ acc L K s
theorem a7n {elt iter:Expr} {t:Str} {tp p:Pos} {sc:Scope} {ifs:List Expr} {A:Around} {E:Value->Shared->Prop} {ω:Own} {s:Shared} {σ:St} {K:KV} {env:Env} {ρ:Loc} {G:GC} (tst:Tst) (P:Value->Addr->Result->Shared->Prop)
 (hi:OkE prog w B0 os gs mg mb mu Γ n iter) (he:OkE prog w B0 os gs mg mb mu Γ n elt)
 (ht:∀ (E:Value->Shared->Prop) (ω:Own) (s:Shared) (σ:St) (K:Bool->St->Prop) (env:Env) (x:HV),EnvOk mg mb env ω (upd (E5 sc ρ) t x) (B1 sc G)->MS B0 os ω gs s->RelS ω σ->tst x σ K->
  wpAny (model prog w) A (forIn ifs true fun c r=>if r=true then do let ok ← isTrue c env (eval c env);pure (ForInStep.yield ok) else pure (ForInStep.yield r)) (V8 B0 os gs ω K) E s)
 (Rm:Room n A) (O:EnvOk mg mb env ω ρ G) (S:MS B0 os ω gs s) (R:RelS ω σ) (hsc:scB sc t G.c=true)
 (H:evE mu Γ iter ρ G σ fun it σ1=>∃ xs,I6 it=some xs/\J1 tst (fun x σ K=>evE mu Γ elt (upd (E5 sc ρ) t x) (B1 sc G) σ K) [] xs σ1 K)
 (HP:∀ ω₁ acc L s',b96 B0 os gs ω ω₁ acc L K s'->P (.ref acc) L (.ok .next) s') :
 wpAny (model prog w) A (eval iter env) (fun x s₁=>wpAny (model prog w) A (pyIter x) (fun it s₂=>wpAny (model prog w) A (newList []) (fun acc s₃=>
  wpAny (model prog w) A (newFunctionEnv sc env.globals (sc.names.foldl (I4 env) []) [] env.qual none .none (some env)) (fun cenv s₄=>
   codeAny (model prog w) A (.compStart (.ListComp elt [⟨.Name t tp,iter,ifs,0⟩] sc p) 0 it acc { cenv with scope:=relabel sc env }) (P acc cenv.locals) s₄) E s₃) E s₂) E s₁) E s:=by
 have ln:=c8
 have C:=a8h hsc
 refine j4 (hi A E ω s σ _ env ρ G Rm O S R H) fun h ω₁ σ1 v s₁ l₁ S₁ R₁ r₁ H₁=>?_
 clear H hi
 refine c9 H₁ fun xs hx H₂=>?_
 refine b08 S₁ r₁ hx fun it kk s₂ hit hrd S₂=>?_
 refine wpAny_newList ?_
 have hacc:=S₂.unused
 have S₃:=S₂.push { cls:=.type "list",data:=.seq (#[]:Array Value) } (m:=.hid []) ⟨_,Heap.get?_push_size _ rfl⟩
 revert hacc S₃
 generalize s₂.heap.objs.size=acc
 generalize hs3:({ s₂ with heap:=s₂.heap.push { cls:=.type "list",data:=.seq (#[]:Array Value) } }:Shared)=s₃
 intro hacc S₃
 refine wpAny_newFunctionEnv C.noc (fun _ h=>nomatch h) (fun h' hn hs=>?_) C.kind
 have hL:=S₃.unused
 have S₄:=S₃.env rfl hn hs (s₃.toks+0)
 revert hL S₄
 show _->_->codeAny (model prog w) A (.compStart _ 0 _ _ (V6 sc env s₃.heap.objs.size)) (P _ s₃.heap.objs.size) { s₃ with heap:=h',toks:=s₃.toks+0 }
 generalize s₃.heap.objs.size=L
 generalize ({ s₃ with heap:=h',toks:=s₃.toks+0 }:Shared)=s₄
 intro hL S₄
 have a1:it≠acc:=Own.ne_of (Own.set_self ω₁ it _) hacc
 have n1:ω₁ acc=none:=by rw[Own.set_ne _ _ a1.symm] at hacc;exact hacc
 have a2:acc≠L:=Own.ne_of (Own.set_self _ acc _) hL
 have a3:it≠L:=Own.ne_of (m:=.it kk) (by refine rr (Own.set_ne _ _ a1) ?_;exact Own.set_self ..) hL
 have n2:ω₁ L=none:=by rw[Own.set_ne _ _ a2.symm,Own.set_ne _ _ a3.symm] at hL;exact hL
 have O1:=O.mono l₁
 have i0:=Own.set_self ω₁ it (OM.it kk)
 have start:LcI B0 os gs ω₁ it acc L tst (fun x σ K=>evE mu Γ elt (upd (E5 sc ρ) t x) (B1 sc G) σ K) K xs.length s₄:=by
  refine⟨_,σ1,kk,xs,[],[],_,rfl,((Le.refl ω₁).setNew _ hit).setNew _ n1 |>.setNew _ n2,S₄,((R₁.new hit).new hacc).new hL,?_,(hrd.monoF (Le.new _ hacc).f).monoF (Le.new _ hL).f,?_,by simp[RdL],by simp,Own.set_self ..,H₂⟩
  · (refine rr (Own.set_ne _ _ a3) ?_;refine rr (Own.set_ne _ _ a1) ?_);exact i0
  · refine rr (Own.set_ne _ _ a2) ?_;exact Own.set_self ..
 clear hL hacc S₄ S₃ hs3 S₂ i0 hx S₁ R₁ r₁ H₂ hrd S R O
 have loop:∀ (s:Shared) (k:Nat),LcI B0 os gs ω₁ it acc L tst (fun x σ K=>evE mu Γ elt (upd (E5 sc ρ) t x) (B1 sc G) σ K) K k s->
  codeAny (model prog w) A (.compLoop (.ListComp elt [⟨.Name t tp,iter,ifs,0⟩] sc p) 0 (.ref it) (.ref acc) (V6 sc env L)) (P (.ref acc) L) s:=by
  intro s k hI
  refine codeAny_compLoop_tests _ (fun k s hI=>?_) k hI
  obtain⟨ω₂,σ₂,kk,xs,ha,vs,m,hk,l₂,S₂,R₂,e1,e2,e3,e4,e5,e6,H⟩:=hI
  refine a1u Rm.handled S₂ e1 e2 (fun hnil s' S'=>?_) (fun y rest hcons v k' s' rv rk S'=>?_)
  · subst hnil
    exact HP ω₁ acc L _ ⟨_,σ₂,ha,vs,m,l₁,n1,n2,a2,l₂.delNew hit,S',R₂.del e1 (fun _ q=>by contradiction) (fun _ q=>by contradiction),(by refine rr (Own.del_ne _ a1.symm) ?_;exact e3),e4.monoF (LeF.del e1 (fun _ q=>by contradiction)),e5,(by refine rr (Own.del_ne _ a3.symm) ?_;exact e6),H⟩
  · subst hcons
    have e6':(ω₂.set it (.it k')) L=some (.ns m):=by refine rr (Own.set_ne _ _ a3.symm) ?_;exact e6
    have e3':(ω₂.set it (.it k')) acc=some (.hid vs):=by refine rr (Own.set_ne _ _ a1.symm) ?_;exact e3
    have e1':(ω₂.set it (.it k')) it=some (.it k'):=Own.set_self ..
    have f1:LeF ω₂ (ω₂.set it (.it k')):=LeF.set _ e1 (fun _ q=>by contradiction)
    have l2':Le ω₁ (ω₂.set it (.it k')):=l₂.setNew _ hit
    have R2':=R₂.set (OM.it k') e1 (fun _ q=>by contradiction) (fun _ q=>by contradiction)
    replace rv:=rv.monoF f1
    replace rk:=rk.monoF f1
    replace e4:=e4.monoF f1
    revert e6' e3' e1' l2' R2' rv rk e4 S'
    clear f1 e1 e2 e3 e6 S₂ R₂ l₂
    generalize (ω₂.set it (.it k'))=ω2'
    intro S' e6 e3 e1 l₂ R₂ rv rk e4
    refine wpAny_assign_Name (wpAny_storeName_local (lookup_relabel_local C.tl) (S'.hold _ _ e6) (fun h' hn hs=>?_) (by show (sc.kind==.class||(sc.kind==.module&&_))=false;refine rr C.kind ?_;rfl))
    have S'':=S'.same e6 rfl hs (m:=.ns _) hn (s'.toks+1)
    have f2:LeF ω2' (ω2'.set L (.ns fun x=>if x=t then some v else m x)):=LeF.set _ e6 (fun _ q=>by contradiction)
    have l3:Le ω₁ (ω2'.set L (.ns fun x=>if x=t then some v else m x)):=l₂.setNew _ n2
    have Oc:=b59 (v:=v) (x:=y) (L:=L) (O1.mono l3) C (Own.set_self ..) (by simp) (rv.monoF f2)
    have R'':=R₂.set (OM.ns fun x=>if x=t then some v else m x) e6 (fun _ q=>by contradiction) (fun _ q=>by contradiction)
    have i1:(ω2'.set L (.ns fun x=>if x=t then some v else m x)) it=some (.it k'):=by refine rr (Own.set_ne _ _ a3) ?_;exact e1
    have i2:=rk.monoF f2
    have i3:(ω2'.set L (.ns fun x=>if x=t then some v else m x)) acc=some (.hid vs):=by refine rr (Own.set_ne _ _ a2) ?_;exact e3
    have i4:=e4.monoF f2
    have i6:(ω2'.set L (.ns fun x=>if x=t then some v else m x)) L=some (.ns fun x=>if x=t then some v else m x):=Own.set_self ..
    revert S'' l3 Oc R'' i1 i2 i3 i4 i6
    clear f2 e6 e3 e1 l₂ R₂ rv rk e4 S' hn hs
    generalize (ω2'.set L (.ns fun x=>if x=t then some v else m x))=ω₃
    generalize (fun x=>if x=t then some v else m x)=m₃
    intro S'' l3 Oc R'' i1 i2 i3 i4 i6
    refine P1 (ht _ ω₃ _ σ₂ _ _ y Oc S'' R'' H) fun b ω₄ σ₄ s₄ l₄ S₄ R₄ H4=>?_
    replace i1:=l₄ _ _ i1;replace i2:=i2.monoF l₄.f;replace i3:=l₄ _ _ i3;replace i4:=i4.monoF l₄.f;replace i6:=l₄ _ _ i6;replace l3:=l3.trans l₄
    replace Oc:=Oc.mono l₄
    clear H S'' R'' l₄
    induction b with
    | false=>
      rw[if_neg (by decide)] at H4 ⊢
      exact⟨rest.length,by simp only[List.length_cons] at hk;exact c0l hk,⟨ω₄,σ₄,k',rest,ha,vs,_,rfl,l3,S₄,R₄,i1,i2,i3,i4,e5,i6,H4⟩⟩
    | true=>
      rw[if_pos rfl] at H4 ⊢
      refine j4 (he A _ ω₄ s₄ σ₄ _ _ _ _ Rm Oc S₄ R₄ H4) fun hv ω₅ σ5 u s₅ l₅ S₅ R₅ r₅ H5=>?_
      replace i3:ω₅ acc=some (.hid vs):=l₅ _ _ i3
      have hlen:=i4.length
      refine o_a H5 fun h5 H5=>?_
      refine a93 S₅ i3 (c4o h5 hlen) fun s₆ S6=>?_
      have f5:LeF ω₅ (ω₅.set acc (.hid (vs++[u]))):=LeF.set _ i3 (fun _ q=>by contradiction)
      refine⟨rest.length,by simp only[List.length_cons] at hk;exact c0l hk,⟨_,σ5,k',rest,ha++[hv],vs++[u],_,rfl,(l3.trans l₅).setNew _ n1,S6,R₅.set _ i3 (fun _ q=>by contradiction) (fun _ q=>by contradiction),
       by refine rr (Own.set_ne _ _ a1) ?_;exact l₅ _ _ i1,(i2.monoF l₅.f).monoF f5,Own.set_self ..,((i4.monoF l₅.f).append (by simp only[RdL];exact⟨u,[],rfl,r₅,rfl⟩)).monoF f5,by simp;exact c2k h5,by refine rr (Own.set_ne _ _ a2.symm) ?_;exact l₅ _ _ i6,H5⟩⟩
 have l:=loop _ _ start
 obtain⟨ω₅,_,_,_,_,_,_,_,_,S₅,_,k1,k2,_⟩:=start
 exact codeAny_compStart_list l (b1g S₅ k1 k2 l)
theorem b4u {elt iter:Expr}{t:Str}{tp p:Pos}{sc:Scope}{ifs:List Expr}{A:Around}{E:Value->Shared->Prop}{ω:Own}{s:Shared}{σ:St}{K:KV}{env:Env}{ρ:Loc}{G:GC}(tst:Tst)
 (hi:OkE prog w B0 os gs mg mb mu Γ n iter) (he:OkE prog w B0 os gs mg mb mu Γ n elt)
 (ht:∀ (E:Value->Shared->Prop) (ω:Own) (s:Shared) (σ:St) (K:Bool->St->Prop) (env:Env) (x:HV),EnvOk mg mb env ω (upd (E5 sc ρ) t x) (B1 sc G)->MS B0 os ω gs s->RelS ω σ->tst x σ K->
  wpAny (model prog w) A (forIn ifs true fun c r=>if r=true then do let ok ← isTrue c env (eval c env);pure (ForInStep.yield ok) else pure (ForInStep.yield r)) (V8 B0 os gs ω K) E s)
 (Rm:Room n A) (O:EnvOk mg mb env ω ρ G) (S:MS B0 os ω gs s) (R:RelS ω σ) (hsc:scB sc t G.c=true) (hib:a4g iter=true)
 (H:evE mu Γ iter ρ G σ fun it σ1=>∃ xs,I6 it=some xs/\J1 tst (fun x σ K=>evE mu Γ elt (upd (E5 sc ρ) t x) (B1 sc G) σ K) [] xs σ1 K) :
 wpAny (model prog w) A (eval (.ListComp elt [⟨.Name t tp,iter,ifs,0⟩] sc p) env) (PostV B0 os gs ω K) E s:=by
 have C:=a8h hsc
 refine wpAny_comprehension_free (use:=none) (g:=⟨.Name t tp,iter,ifs,0⟩) (gs:=[]) rfl (E7 hib) (a37 fun x hx e=>(O.cl x.1 (C.free x hx e)).2) C.kind C.names ?_
 refine a7n tst (compPost _ _ _ _ _) hi he ht Rm O S R hsc H ?_
 clear H ht hi he O S R
 rintro ω₁ acc L s' ⟨ω',σ',ha,vs,m,l₁,n1,n2,a2,l₂,S',R',e3,e4,e5,e6,HK⟩
 refine(j1 m (S'.hold _ _ e6) (fun h' hs'=>?_))
 have S'':=S'.gone e6 rfl hs'
 have f2:LeF ω' (ω'.del L):=LeF.del e6 (fun _ q=>by contradiction)
 have R2:=R'.del e6 (fun _ q=>by contradiction) (fun _ q=>by contradiction)
 have e3':(ω'.del L) acc=some (.hid vs):=by refine rr (Own.del_ne _ a2) ?_;exact e3
 have l3:=l₂.delNew n2
 replace e4:=e4.monoF f2
 revert S'' e3' l3 e4 R2
 clear f2 S' R' e3 e6 l₂
 generalize ω'.del L=ω₂
 intro S'' R2 e3 l₂ e4
 refine o_e (S''.hold _ _ e3) fun j hj=>?_
 have S3:=S''.turn e3 rfl (m:=.fz { cls:=.type "list",data:=.seq vs.toArray j }) hj
 have f3:LeF ω₂ (ω₂.set acc (.fz { cls:=.type "list",data:=.seq vs.toArray j })):=LeF.set _ e3 (fun _ q=>by contradiction)
 refine⟨.list ha,_,σ',l₁.trans (l₂.setNew _ n1),S3,R2.set _ e3 (fun _ q=>by contradiction) (fun _ q=>by contradiction),?_,HK⟩
 exact(Y7 e5 acc (W7 _ vs j rfl (Own.set_self ..) rfl rfl (e4.monoF f3)))
end
end
section
section
variable {mu:Pos->Bool}{Γ:Spx}{ρ:Loc}{G:GC}{σ:St}{K:KV}
theorem b92 {elt iter:Expr}{t:Str}{tp p:Pos}{sc:Scope}(h1:scB sc t G.c=true) (h2:a4g iter=true) (h:evE mu Γ iter ρ G σ fun it σ1=>∃ xs,I6 it=some xs/\
 J1 (fun _ σ K=>K true σ) (fun x σ K=>evE mu Γ elt (upd (E5 sc ρ) t x) (B1 sc G) σ K) [] xs σ1 K):evE mu Γ (.ListComp elt [⟨.Name t tp,iter,[],0⟩] sc p) ρ G σ K:=fun prog w B0 os gs mg mb n T X A E ω s env Rm O S R=>
 b4u (fun _ σ K=>K true σ) (okE T X _) (okE T X _) (fun E ω s σ K env x O S R H=>wpAny_tests_nil ⟨ω,σ,.refl _,S,R,H⟩) Rm O S R h1 h2 h
theorem c1r {elt iter c:Expr}{t:Str}{tp p:Pos}{sc:Scope}(h1:scB sc t G.c=true) (h2:a4g iter=true) (h:evE mu Γ iter ρ G σ fun it σ1=>∃ xs,I6 it=some xs/\
 J1 (fun x σ K=>evT mu Γ c (upd (E5 sc ρ) t x) (B1 sc G) σ K) (fun x σ K=>evE mu Γ elt (upd (E5 sc ρ) t x) (B1 sc G) σ K) [] xs σ1 K):evE mu Γ (.ListComp elt [⟨.Name t tp,iter,[c],0⟩] sc p) ρ G σ K:=fun prog w B0 os gs mg mb n T X A E ω s env Rm O S R=>
 b4u _ (okE T X _) (okE T X _) (fun E ω s σ K env x O S R H=>wpAny_tests_one (okT T X _ A E ω s σ K env _ _ Rm O S R H)) Rm O S R h1 h2 h
end
end
section
inductive Fl where
 | nx | br | ct
 | rt (h:HV)
noncomputable abbrev KS:=Fl->Loc->St->Prop
noncomputable def J5 (e:Expr):Bool:=e.ctorIdx != 8&&e.ctorIdx != 9&&e.ctorIdx != 10
noncomputable def nmB (G:GC) (x:Str):Bool:=G.l x&&x != ("__debug__" : Str)&&x != ("__classdict__" : Str)
noncomputable def V4 (body:HV->Loc->St->KS->Prop):List HV->Loc->St->KS->Prop
 | [],ρ,σ,K=>K .nx ρ σ
 | h::r,ρ,σ,K=>body h ρ σ fun fl ρ' σ'=>match fl with
  | .nx=>V4 body r ρ' σ' K
  | .ct=>V4 body r ρ' σ' K
  | .br=>K .nx ρ' σ'
  | .rt v=>K (.rt v) ρ' σ'
noncomputable def whL (test:Loc->St->(Bool->St->Prop)->Prop) (body:Loc->St->KS->Prop):Nat->Loc->St->KS->Prop
 | 0,_,_,_=>False
 | n+1,ρ,σ,K=>test ρ σ fun c σ1=>if c then body ρ σ1 (fun fl ρ' σ'=>match fl with
  | .nx=>whL test body n ρ' σ' K
  | .ct=>whL test body n ρ' σ' K
  | .br=>K .nx ρ' σ'
  | .rt v=>K (.rt v) ρ' σ') else K .nx ρ σ1
theorem b7b {body:HV->Loc->St->KS->Prop}{x:HV}{r:List HV}{ρ:Loc}{σ:St}{K:KS}(h:body x ρ σ fun fl ρ' σ'=>match fl with
 | .nx=>V4 body r ρ' σ' K
 | .ct=>V4 body r ρ' σ' K
 | .br=>K .nx ρ' σ'
 | .rt v=>K (.rt v) ρ' σ'):V4 body (x::r) ρ σ K:=h
theorem V3 {test:Loc->St->(Bool->St->Prop)->Prop}{body:Loc->St->KS->Prop}{n:Nat}{ρ:Loc}{σ:St}{K:KS}(h:test ρ σ fun c σ1=>if c then body ρ σ1 (fun fl ρ' σ'=>match fl with
 | .nx=>whL test body n ρ' σ' K
 | .ct=>whL test body n ρ' σ' K
 | .br=>K .nx ρ' σ'
 | .rt v=>K (.rt v) ρ' σ') else K .nx ρ σ1):whL test body (n+1) ρ σ K:=h
noncomputable def b2h (G:GC) (x y:Str) (px py:Pos) (a b:Expr):Bool:=
 nmB G x&&nmB G y&&x != y&&py.line==px.line&&!([a,b].all (foldedForSure 8))&&!([a,b].all (constantsAlone 8))&&[a,b].all n8
noncomputable def LeS (L:Addr) (ω ω':Own):Prop:=∀ a o,a≠L->ω a=some o->LeO o (ω' a)
theorem LeS.refl (L:Addr) (ω:Own):LeS L ω ω:=fun a o _ e=>Le.refl ω a o e
theorem Le.s {ω ω':Own}(x:Le ω ω') (L:Addr):LeS L ω ω':=fun a o _ e=>x a o e
theorem LeO.trans {o:OM}{r r':Option OM}(x:LeO o r) (y:∀ o',r=some o'->LeO o' r'):LeO o r':=by
 induction o using OM.casesOn with
 | lst vs=>refine o_e x fun vs' q=>?_;have z:=y _ q;exact z
 | ex o=>refine o_e x fun o' q=>?_;have z:=y _ q;exact z
 | tab qs ps=>refine o_e x fun m1 q=>?_;refine o_e (y _ q) fun m2 q2=>?_;exact⟨m1++m2,by (refine rr q2 ?_;exact rr Array.append_assoc rfl)⟩
 | it k=>exact y _ x
 | hid vs=>exact y _ x
 | fz o=>exact y _ x
 | ns m=>exact y _ x
 | cell v=>exact y _ x
theorem LeS.trans {L:Addr}{ω₁ ω₂ ω₃:Own}(x:LeS L ω₁ ω₂) (y:LeS L ω₂ ω₃):LeS L ω₁ ω₃:=fun a o h e=>(x a o h e).trans fun o' e'=>y a o' h e'
theorem LeS.set {L:Addr}{ω:Own}(m:OM):LeS L ω (ω.set L m):=fun a o h e=>by rw[Own.set_ne _ _ h,e];exact LeO.refl _
theorem LeS.setNew {L:Addr}{ω0 ω:Own}{a:Addr}(x:LeS L ω0 ω) (m:OM) (h:ω0 a=none):LeS L ω0 (ω.set a m):=fun b o hb e=>by
 by_cases q:b=a
 · subst q;rw[h] at e;exact c7 e
 · refine rr (Own.set_ne _ _ q) ?_;exact x b o hb e
theorem LeS.delNew {L:Addr}{ω0 ω:Own}{a:Addr}(x:LeS L ω0 ω) (h:ω0 a=none):LeS L ω0 (ω.del a):=fun b o hb e=>by
 by_cases q:b=a
 · subst q;rw[h] at e;exact c7 e
 · refine rr (Own.del_ne _ q) ?_;exact x b o hb e
theorem LeS.f {L:Addr}{ω ω':Own}(x:LeS L ω ω'){m:Str->Option Value}(h:ω L=some (.ns m)):LeF ω ω':=fun a o e=>
 x a _ (fun q=>by clear x;subst q;have e:=h▸e;cases e) e
theorem LeS.le {L:Addr}{ω ω':Own}(x:LeS L ω ω') (h:ω L=none):Le ω ω':=fun a o e=>x a o (fun q=>by clear x;subst q;rw[h] at e;exact c7 e) e
inductive FlR (ω:Own):Fl->Flow->Prop
 | nx:FlR ω .nx .next
 | br:FlR ω .br .brk
 | ct:FlR ω .ct .cont
 | rt {h:HV}{v:Value}:Rd ω h v->FlR ω (.rt h) (.ret v)
theorem b03 {mg mb:Str->Option Value}{env:Env}{ω:Own}{ρ:Loc}{G:GC}{x:Str}{h:HV}{v:Value}{m:Str->Option Value}(O:EnvOk mg mb env ω ρ G) (hx:nmB G x=true) (hL:ω env.locals=some (.ns m))
 (r:Rd ω h v):EnvOk mg mb env (ω.set env.locals (.ns fun y=>if y=x then some v else m y)) (upd ρ x h) G:=by
 unfold nmB at hx
 simp only[Bool.and_eq_true,bne_iff_ne] at hx
 (refine o_a hx fun z345 hd2=>?_;clear hx;(refine o_a z345 fun hl hd1=>?_;clear z345))
 have kx:=O.lc x hl
 have f:LeF ω (ω.set env.locals (.ns fun y=>if y=x then some v else m y)):=LeF.set _ hL (fun _ q=>by contradiction)
 have un:∀ y h',upd ρ x h y=some h'->(y=x/\h'=h)\/(y≠x/\ρ y=some h'):=fun y h' e=>by
  unfold upd at e
  (revert e;refine ie rfl (fun _ e=>?_) fun _ e=>?_)
  · rename_i q;refine Option.some.inj e▸?_;exact .inl ⟨q,rfl⟩
  · rename_i q;exact .inr ⟨q,e⟩
 refine c9 O.loc fun m₀ h1 h2=>?_
 replace h1:=hL▸h1
 cases h1
 refine { O with loc:=(j1 _ (Own.set_self ..) (fun y h' e k=>?_)),cel:=fun y h' e k=>?_,dom:=fun y h' e=>?_,dbg:=?_ }
 · refine Or.elim (un y h' e) (fun z342=>?_) fun z343=>?_
   · (refine o_a z342 fun z386 z387=>?_;clear z342;subst z386;clear e un;subst z387);exact(j1 v (by simp) (r.monoF f))
   · refine c9 (h2 y h' z343.2 k) fun u h3 h4=>?_
     exact(j1 u (by simp[z343.1,h3]) (h4.monoF f))
 · rcases un y h' e with ⟨rfl,rfl⟩ | ⟨q,q2⟩
   · rw[kx] at k;rcases k with k | k<;>contradiction
   · refine d9 (O.cel y h' q2 k) fun c u h3 h4 h5=>?_
     refine(M9 c u h3 ⟨?_,h5.monoF f⟩)
     refine rr (Own.set_ne _ _ (fun q=>by clear h3;subst q;have h4:=hL▸h4;cases h4)) ?_;exact h4
 · refine Or.elim (un y h' e) (fun z336=>?_) fun z337=>?_
   · (refine o_a z336 fun z376 z377=>?_;clear f hd1 hl hd2;subst z376;clear r un e z336;subst z377);exact .inl kx
   · exact O.dom y h' z337.2
 · refine(A8 ?_ O.dbg.2.1 ?_)
   · unfold upd;refine rr (if_neg (fun q=>hd1 q.symm)) ?_;exact O.dbg.1
   · unfold upd;refine rr (if_neg (fun q=>hd2 q.symm)) ?_;exact O.dbg.2.2
theorem k9 {e:Expr}{t:Option Expr}{l:Nat}{env:Env}(h:J5 e=true):swapsWith e t l env=pure false:=by
 cases e<;>first | rfl | exact j0 ((show false=true from h))
section
variable {prog:Program}{w:World}{B0:Heap}{os:OsState}{gs:TQ}{mg mb:Str->Option Value}
theorem o9 {A:Around}{E:Value->Shared->Prop}{ω:Own}{s:Shared}{σ:St}{env:Env}{ρ:Loc}{G:GC}{x:Str}{h:HV}{v:Value}{Q:Unit->Shared->Prop}(O:EnvOk mg mb env ω ρ G) (S:MS B0 os ω gs s) (R:RelS ω σ)
 (hx:nmB G x=true) (r:Rd ω h v) (H:∀ ω' s',LeS env.locals ω ω'->LeF ω ω'->EnvOk mg mb env ω' (upd ρ x h) G->MS B0 os ω' gs s'->RelS ω' σ->Q () s'):wpAny (model prog w) A (storeName env x v) Q E s:=by
 refine c9 O.loc fun m h1 h2=>?_
 have hl:G.l x=true:=by unfold nmB at hx;simp only[Bool.and_eq_true] at hx;exact hx.1.1
 refine wpAny_storeName_local (O.lc x hl) (S.hold _ _ h1) (fun h' hn hs=>?_) (by refine rr O.kind ?_;rfl)
 exact H _ _ (LeS.set _) (LeF.set _ h1 (fun _ q=>by contradiction)) (b03 O hx h1 r) (S.same h1 rfl hs (m:=.ns _) hn (s.toks+1)) (R.set _ h1 (fun _ q=>by contradiction) (fun _ q=>by contradiction))
end
noncomputable def c0b (op:Operator) (a b:HV) (σ:St) (K:KV):Prop:=∀ ⦃prog:Program⦄ ⦃w:World⦄ ⦃B0:Heap⦄ ⦃os:OsState⦄ ⦃gs:TQ⦄ (A:Around) (E:Value->Shared->Prop) (ω:Own) (s:Shared) (va vb:Value),MS B0 os ω gs s->RelS ω σ->Rd ω a va->Rd ω b vb->
 wpAny (model prog w) A (inplaceOp op va vb) (PostV B0 os gs ω K) E s
section
variable {σ:St}{K:KV}
theorem c08 {i j:Int}(h:K (.int (i+j)) σ):c0b .Add (.int i) (.int j) σ K:=fun _ _ _ _ _ A E ω s va vb S R ra rb=>by
 obtain⟨t,rfl⟩:=ra;obtain⟨u,rfl⟩:=rb
 exact PyProof.Rows.iadd_int (m9 S R U5 h _)
end
end
section
inductive a4t (B0:Heap) (os:OsState) (gs:TQ) (mg mb:Str->Option Value) (env:Env) (G:GC) (ω:Own) (K:KS) (f:Flow) (s':Shared):Prop
 | mk:∀ fl ω' σ' ρ',(LeS env.locals ω ω')->(EnvOk mg mb env ω' ρ' G)->(MS B0 os ω' gs s')->(RelS ω' σ')->(FlR ω' fl f)->(K fl ρ' σ')->a4t B0 os gs mg mb env G ω K f s'
noncomputable def evS (_:Pos->Bool) (Γ:Spx) (st:Stmt) (ρ:Loc) (G:GC) (σ:St) (K:KS):Prop:=∀ ⦃prog:Program⦄ ⦃w:World⦄ ⦃B0:Heap⦄ ⦃os:OsState⦄ ⦃gs:TQ⦄ ⦃mg mb:Str->Option Value⦄ ⦃n:Nat⦄,TopB B0 mg mb->u6 prog w B0 os gs Γ n->
 ∀ (A:Around) (E:Value->Shared->Prop) (ω:Own) (s:Shared) (env:Env),Room n A->EnvOk mg mb env ω ρ G->MS B0 os ω gs s->RelS ω σ->wpAny (model prog w) A (exec st env) (a4t B0 os gs mg mb env G ω K) E s
noncomputable def evB (mu:Pos->Bool) (Γ:Spx):List Stmt->Loc->GC->St->KS->Prop
 | [],ρ,_,σ,K=>K .nx ρ σ
 | s::r,ρ,G,σ,K=>evS mu Γ s ρ G σ fun fl ρ' σ'=>match fl with
  | .nx=>evB mu Γ r ρ' G σ' K
  | fl=>K fl ρ' σ'
section
variable (prog:Program) (w:World) (B0:Heap) (os:OsState) (gs:TQ) (mg mb:Str->Option Value) (mu:Pos->Bool) (Γ:Spx) (n:Nat)
noncomputable def OkS (st:Stmt):Prop:=∀ (A:Around) (E:Value->Shared->Prop) (ω:Own) (s:Shared) (σ:St) (K:KS) (env:Env) (ρ:Loc) (G:GC),Room n A->EnvOk mg mb env ω ρ G->MS B0 os ω gs s->RelS ω σ->
 evS mu Γ st ρ G σ K->wpAny (model prog w) A (exec st env) (a4t B0 os gs mg mb env G ω K) E s
noncomputable def OkB (sts:List Stmt):Prop:=∀ (A:Around) (E:Value->Shared->Prop) (ω:Own) (s:Shared) (σ:St) (K:KS) (env:Env) (ρ:Loc) (G:GC),Room n A->EnvOk mg mb env ω ρ G->MS B0 os ω gs s->RelS ω σ->
 evB mu Γ sts ρ G σ K->wpAny (model prog w) A (execs sts env) (a4t B0 os gs mg mb env G ω K) E s
end
section
variable {prog:Program}{w:World}{B0:Heap}{os:OsState}{gs:TQ}{mg mb:Str->Option Value}{mu:Pos->Bool}{Γ:Spx}{n:Nat}
theorem c1p {A:Around}{E:Value->Shared->Prop}{ω ω₁:Own}{s:Shared}{K:KS}{env:Env}{G:GC}{X:Sem Flow}(p:wpAny (model prog w) A X (a4t B0 os gs mg mb env G ω₁ K) E s) (l:LeS env.locals ω ω₁) :
 wpAny (model prog w) A X (a4t B0 os gs mg mb env G ω K) E s:=
 wpAny_mono p (fun _ _ q=>by obtain⟨fl,ω',σ',ρ',l',a,b,c,d,e⟩:=q;exact⟨fl,ω',σ',ρ',l.trans l',a,b,c,d,e⟩) fun _ _ x=>x
theorem okS (T:TopB B0 mg mb) (X:u6 prog w B0 os gs Γ n) (st:Stmt):OkS prog w B0 os gs mg mb mu Γ n st:=fun A E ω s _ _ env _ _ Rm O S R H=>H T X A E ω s env Rm O S R
theorem okB (T:TopB B0 mg mb) (X:u6 prog w B0 os gs Γ n):∀ sts:List Stmt,OkB prog w B0 os gs mg mb mu Γ n sts:=by
 intro xs0
 induction xs0 with
 | nil=>
  exact fun A E ω s σ K env ρ G Rm O S R H=>wpAny_execs_nil ⟨.nx,ω,σ,ρ,.refl _ _,O,S,R,.nx,H⟩
 | cons st r ih=>
  exact fun A E ω s σ K env ρ G Rm O S R H=>by
   refine wpAny_execs_cons (wpAny_mono (okS T X st A E ω s σ _ env ρ G Rm O S R H) (fun f s₁ q=>?_) fun _ _ x=>x)
   obtain⟨fl,ω₁,σ1,ρ1,l₁,O1,S₁,R₁,hf,H₁⟩:=q
   induction hf using FlR.casesOn with
   | nx=>exact c1p (ih A E ω₁ s₁ σ1 _ env ρ1 G Rm O1 S₁ R₁ H₁) l₁
   | ct=>exact⟨.ct,ω₁,σ1,ρ1,l₁,O1,S₁,R₁,.ct,H₁⟩
   | br=>exact⟨.br,ω₁,σ1,ρ1,l₁,O1,S₁,R₁,.br,H₁⟩
   | rt rr=>exact⟨_,ω₁,σ1,ρ1,l₁,O1,S₁,R₁,.rt rr,H₁⟩
end
inductive WhI (B0:Heap) (os:OsState) (gs:TQ) (mg mb:Str->Option Value) (env:Env) (G:GC) (ω:Own) (P:Nat->Loc->St->Prop) (k:Nat) (s:Shared):Prop
 | mk:∀ ω' σ' ρ',LeS env.locals ω ω'->EnvOk mg mb env ω' ρ' G->MS B0 os ω' gs s->RelS ω' σ'->P k ρ' σ'->WhI B0 os gs mg mb env G ω P k s
inductive b73 (B0:Heap) (os:OsState) (gs:TQ) (mg mb:Str->Option Value) (env:Env) (G:GC) (ω:Own) (a:Addr) (P:List HV->Loc->St->Prop) (k:Nat) (s:Shared):Prop
 | mk:∀ ω' σ' ρ' kk xs,List.length xs=k->LeS env.locals ω ω'->EnvOk mg mb env ω' ρ' G->MS B0 os ω' gs s->RelS ω' σ'->ω' a=some (.it kk)->ItRd ω' kk xs->P xs ρ' σ'->b73 B0 os gs mg mb env G ω a P k s
section
variable {mu:Pos->Bool}{Γ:Spx}{ρ:Loc}{G:GC}{σ:St}{KF:KS}
theorem b35 {p:Pos}(h:KF .nx ρ σ):evS mu Γ (.Pass p) ρ G σ KF:=fun _ _ _ _ _ _ _ _ _ _ A E ω s env Rm O S R=>wpAny_Pass ⟨.nx,ω,_,_,.refl _ _,O,S,R,.nx,h⟩
theorem a49 {p:Pos}(h:KF .br ρ σ):evS mu Γ (.Break p) ρ G σ KF:=fun _ _ _ _ _ _ _ _ _ _ A E ω s env Rm O S R=>wpAny_Break ⟨.br,ω,_,_,.refl _ _,O,S,R,.br,h⟩
theorem a7i {e:Expr}{p:Pos}(h1:J5 e=true) (h:evE mu Γ e ρ G σ fun h σ1=>h=.none/\KF .nx ρ σ1):evS mu Γ (.Expr e p) ρ G σ KF:=fun prog w B0 os gs mg mb n T X A E ω s env Rm O S R=>by
 refine wpAny_Expr (j4 (h T X A E ω s env Rm O S R) fun h ω₁ σ1 v s₁ l₁ S₁ R₁ r₁ H₁=>?_) (by dsimp only[interactive];refine rr O.kind ?_;rfl) (k9 h1)
 (refine o_a H₁ fun z158 H₂=>?_;clear H₁;subst z158)
 simp -iota only [Rd] at r₁
 refine rr r₁ ?_
 exact⟨.nx,ω₁,σ1,ρ,l₁.s _,O.mono l₁,S₁,R₁,.nx,H₂⟩
theorem a3f {x:Str}{q p:Pos}{e:Expr}(h1:J5 e=true) (h2:nmB G x=true) (h:evE mu Γ e ρ G σ fun h σ1=>KF .nx (upd ρ x h) σ1):evS mu Γ (.Assign [.Name x q] e p) ρ G σ KF:=fun prog w B0 os gs mg mb n T X A E ω s env Rm O S R=>by
 refine wpAny_Assign_Name (j4 (h T X A E ω s env Rm O S R) fun h ω₁ σ1 v s₁ l₁ S₁ R₁ r₁ H₁=>?_) (k9 h1)
 exact o9 (O.mono l₁) S₁ R₁ h2 r₁ fun ω₂ s₂ l₂ _ O2 S₂ R₂=>⟨.nx,ω₂,σ1,_,(l₁.s _).trans l₂,O2,S₂,R₂,.nx,H₁⟩
theorem a6q {x y:Str} {px py tp vp p:Pos} {k j:Nat} {a b:Expr} (h1:b2h G x y px py a b=true) (h:evE mu Γ a ρ G σ fun h σ1=>evE mu Γ b ρ G σ1 fun k σ₂=>KF .nx (upd (upd ρ y k) x h) σ₂) :
 evS mu Γ (.Assign [.Tuple [.Name x px,.Name y py] k tp] (.Tuple [a,b] j vp) p) ρ G σ KF:=fun prog w B0 os gs mg mb n T X A E ω s env Rm O S R=>by
 have ln:=c8
 unfold b2h at h1
 simp -iota only [Bool.and_eq_true,bne_iff_ne,beq_iff_eq,Bool.not_eq_true'] at h1
 obtain⟨⟨⟨⟨⟨⟨hx,hy⟩,hne⟩,hln⟩,hf⟩,hc⟩,hst⟩:=h1
 have lx:=O.lc x (by unfold nmB at hx;simp -iota only [Bool.and_eq_true] at hx;exact hx.1.1)
 have ly:=O.lc y (by unfold nmB at hy;simp -iota only [Bool.and_eq_true] at hy;exact hy.1.1)
 refine PyProof.Rows.Assign_Tuple_swapped (names:=[x,y]) ?_ rfl (show swappedStores [.Tuple [.Name x px,.Name y py] k tp] (.Tuple [a,b] j vp) env=pure (some [x,y]) from by
  have nst:∀ e:Expr,n8 e=true->(match e with | .Starred ..=>true | _=>false)=false:=fun e q=>by cases e<;>first | rfl | exact j0 ((show false=true from q))
  have hs2:=hst
  simp -iota only [List.all_cons,List.all_nil,Bool.and_true,Bool.and_eq_true] at hs2
  have hst':[a,b].any (fun e=>match e with | .Starred ..=>true | _=>false)=false:=by
   simp -iota only [List.any_cons,List.any_nil,nst a hs2.1,nst b hs2.2,Bool.or_false]
  have hed:[x,y].eraseDups.length=2:=by
   have:(y==x)=false:=by simpa -iota using fun q:y=x=>hne q.symm
   simp -iota [List.eraseDups_cons,this]
  have hpl2:(py.line==px.line)=true:=by simp -iota [hln]
  have key:∀ F:Expr->Option Str,F (.Name x px)=some x->F (.Name y py)=some y->[Expr.Name x px,.Name y py].filterMap F=[x,y]:=fun F a b=>by (refine rr (List.filterMap_cons_some a) ?_;refine rr (List.filterMap_cons_some b) ?_);rfl
  unfold swappedStores
  dsimp only
  (refine rr (if_neg (fun q=>by simp only[(show env.blockKind=.function from by unfold Env.blockKind;refine rr O.kind ?_;rfl)] at q;exact Bool.noConfusion (show false=true from q))) ?_;refine rr (if_neg (fun q=>by have q2:=q.symm.trans hst';contradiction)) ?_;refine rr (if_neg (fun q=>by have q2:=q.symm.trans ((fun l e=>by (refine rr e ?_;refine rr hed ?_);rfl:∀ l:List Str,l=[x,y]->(l.length != 2||l.eraseDups.length != l.length)=false) _ (key _ (if_pos (by (refine rr lx ?_;refine rr (beq_self_eq_true _:(px.line==px.line)=true) ?_);rfl)) (if_pos (by (refine rr ly ?_;refine rr hpl2 ?_);rfl))));contradiction)) ?_;refine rr (if_neg (by refine rr hf ?_;decide)) ?_;refine rr (if_neg (by refine rr hc ?_;decide)) ?_)
  exact congrArg (fun l=>pure (some l)) (key _ (if_pos (by (refine rr lx ?_;refine rr (beq_self_eq_true _:(px.line==px.line)=true) ?_);rfl)) (if_pos (by (refine rr ly ?_;refine rr hpl2 ?_);rfl))))
 refine wpAny_Tuple ?_
 refine(j2 vp [a,b] env hst)▸?_
 refine spliced_cons (j4 (h T X A E ω s env Rm O S R) fun h ω₁ σ1 v s₁ l₁ S₁ R₁ r₁ H₁=>?_)
 refine spliced_cons (j4 (H₁ T X A E ω₁ s₁ env Rm (O.mono l₁) S₁ R₁) fun h' ω₂ σ₂ v' s₂ l₂ S₂ R₂ r₂ H₂=>?_)
 refine spliced_nil ?_
 refine⟨by simp;exact Nat.le_add_left _ _,?_⟩
 have S₃:=S₂.push { cls:=.type "tuple",data:=.seq [v,v'].toArray } (m:=.fz _) (Heap.get?_push_size _ rfl)
 have l₃:=Le.new (OM.fz { cls:=.type "tuple",data:=.seq [v,v'].toArray }) S₂.unused
 have R₃:=R₂.new (m:=OM.fz { cls:=.type "tuple",data:=.seq [v,v'].toArray }) S₂.unused
 refine PyProof.Rows.unpackItems_tuple (items:=#[v,v']) Rm.handled (a4p S₃ (Own.set_self ..) rfl rfl) fun h' hx'=>?_
 have S₄:=S₃.keeps (h':=h') (fun b o e=>hx' b o (Nat.ne_of_lt (Heap.lt_size e)) e) s₂.toks
 refine wpAny_bind (wpAny_holding (wpAny_bindName (o9 (O.mono ((l₁.trans l₂).trans l₃)) S₄ R₃ hy (r₂.mono l₃) fun ω₅ s₅ l₅ f₅ O5 S₅ R₅=>?_)))
 refine wpAny_bind (wpAny_holding (wpAny_bindName (o9 O5 S₅ R₅ hx (((r₁.mono l₂).mono l₃).monoF f₅) fun ω6 s₆ l₆ f₆ O6 S6 R6=>?_)))
 exact wpAny_pure ⟨.nx,ω6,σ₂,_,((((l₁.trans l₂).trans l₃).s _).trans l₅).trans l₆,O6,S6,R6,.nx,H₂⟩
theorem b0f {x:Str}{q p:Pos}{op:Operator}{e:Expr}{a:HV}(h1:nmB G x=true) (ha:ρ x=some a) (h:evE mu Γ e ρ G σ fun b σ1=>c0b op a b σ1 fun h σ₂=>KF .nx (upd ρ x h) σ₂):evS mu Γ (.AugAssign (.Name x q) op e p) ρ G σ KF:=fun prog w B0 os gs mg mb n T X A E ω s env Rm O S R=>by
 refine wpAny_AugAssign_Name (b00 O S ha fun old ro=>?_)
 refine j4 (h T X A E ω s env Rm O S R) fun b ω₁ σ1 v s₁ l₁ S₁ R₁ r₁ H₁=>?_
 refine j4 (H₁ A E ω₁ s₁ old v S₁ R₁ (ro.mono l₁) r₁) fun h ω₂ σ₂ u s₂ l₂ S₂ R₂ r₂ H₂=>?_
 exact o9 (O.mono (l₁.trans l₂)) S₂ R₂ h1 r₂ fun ω₃ s₃ l₃ _ O3 S₃ R₃=>⟨.nx,ω₃,σ₂,_,((l₁.trans l₂).s _).trans l₃,O3,S₃,R₃,.nx,H₂⟩
theorem b4a {t:Expr}{b o:List Stmt}{p:Pos}(h:evT mu Γ t ρ G σ fun c σ1=>if c then evB mu Γ b ρ G σ1 KF else evB mu Γ o ρ G σ1 KF):evS mu Γ (.If t b o p) ρ G σ KF:=fun prog w B0 os gs mg mb n T X A E ω s env Rm O S R=>by
 refine wpAny_If (P1 (h T X A E ω s env Rm O S R) fun c ω₁ σ1 s₁ l₁ S₁ R₁ H₁=>?_)
 induction c with
 | true=>exact c1p (okB T X _ A E ω₁ s₁ σ1 _ env ρ G Rm (O.mono l₁) S₁ R₁ H₁) (l₁.s _)
 | false=>exact c1p (okB T X _ A E ω₁ s₁ σ1 _ env ρ G Rm (O.mono l₁) S₁ R₁ H₁) (l₁.s _)
theorem b09 {e:Expr}{p:Pos}(h:evE mu Γ e ρ G σ fun h σ1=>KF (.rt h) ρ σ1):evS mu Γ (.Return (some e) p) ρ G σ KF:=fun prog w B0 os gs mg mb n T X A E ω s env Rm O S R=>by
 exact wpAny_Return_some (j4 (h T X A E ω s env Rm O S R) fun h ω₁ σ1 v s₁ l₁ S₁ R₁ r₁ H₁=>⟨.rt h,ω₁,σ1,ρ,l₁.s _,O.mono l₁,S₁,R₁,.rt r₁,H₁⟩)
theorem a2z {t:Expr}{p:Pos}(h:evT mu Γ t ρ G σ fun c σ1=>c=true/\KF .nx ρ σ1):evS mu Γ (.Assert t none p) ρ G σ KF:=fun prog w B0 os gs mg mb n T X A E ω s env Rm O S R=>by
 refine wpAny_Assert Rm.handled (P1 (h T X A E ω s env Rm O S R) fun c ω₁ σ1 s₁ l₁ S₁ R₁ H₁=>?_)
 (refine o_a H₁ fun z227 H₂=>?_;clear H₁;subst z227)
 exact⟨.nx,ω₁,σ1,ρ,l₁.s _,O.mono l₁,S₁,R₁,.nx,H₂⟩
theorem b1o {t:Expr}{b:List Stmt}{p:Pos}(h:∃ n,whL (fun ρ σ K=>evT mu Γ t ρ G σ K) (fun ρ σ K=>evB mu Γ b ρ G σ K) n ρ σ KF):evS mu Γ (.While t b [] p) ρ G σ KF:=fun prog w B0 os gs mg mb n T X A E ω s env Rm O S R=>by
 obtain⟨k,H⟩:=h
 refine wpAny_While (codeAny_whileLoop (WhI B0 os gs mg mb env G ω fun k ρ' σ'=>whL (fun ρ σ KF=>evT mu Γ t ρ G σ KF) (fun ρ σ KF=>evB mu Γ b ρ G σ KF) k ρ' σ' KF) ?_ k ⟨ω,σ,ρ,.refl _ _,O,S,R,H⟩)
 intro k s hI
 obtain⟨ω₁,σ1,ρ1,l₁,O1,S₁,R₁,H₁⟩:=hI
 induction k using Nat.casesOn with
 | zero=>exact H₁.elim
 | succ k=>
  have H₁:evT mu Γ t ρ1 G σ1 _:=H₁
  refine P1 (okT T X _ A _ ω₁ s σ1 _ env ρ1 G Rm O1 S₁ R₁ H₁) fun c ω₂ σ₂ s₂ l₂ S₂ R₂ H₂=>?_
  have l12:=l₁.trans (l₂.s env.locals)
  induction c with
  | false=>
   exact wpAny_execs_nil ⟨.nx,ω₂,σ₂,ρ1,l12,O1.mono l₂,S₂,R₂,.nx,H₂⟩
  | true=>
   refine wpAny_mono (okB T X _ A _ ω₂ s₂ σ₂ _ env ρ1 G Rm (O1.mono l₂) S₂ R₂ H₂) (fun f s₃ q=>?_) fun _ _ x=>x
   obtain⟨fl,ω₃,σ₃,ρ3,l₃,O3,S₃,R₃,hf,H3⟩:=q
   induction hf using FlR.casesOn with
   | nx=>exact⟨k,Nat.lt_succ_self _,ω₃,σ₃,ρ3,l12.trans l₃,O3,S₃,R₃,H3⟩
   | ct=>exact⟨k,Nat.lt_succ_self _,ω₃,σ₃,ρ3,l12.trans l₃,O3,S₃,R₃,H3⟩
   | br=>exact⟨.nx,ω₃,σ₃,ρ3,l12.trans l₃,O3,S₃,R₃,.nx,H3⟩
   | rt r=>exact⟨_,ω₃,σ₃,ρ3,l12.trans l₃,O3,S₃,R₃,.rt r,H3⟩
theorem b6h {x:Str}{q p:Pos}{it:Expr}{b:List Stmt}(h1:nmB G x=true) (h2:a4g it=true) (h:evE mu Γ it ρ G σ fun h σ1=>∃ xs,I6 h=some xs/\V4 (fun h ρ σ K=>evB mu Γ b (upd ρ x h) G σ K) xs ρ σ1 KF):evS mu Γ (.For (.Name x q) it b [] p) ρ G σ KF:=fun prog w B0 os gs mg mb n T X A E ω s env Rm O S R=>by
 refine wpAny_For (j4 (h T X A E ω s env Rm O S R) fun h ω₁ σ1 v s₁ l₁ S₁ R₁ r₁ H₁=>?_) (E7 h2)
 refine c9 H₁ fun xs hxs H₂=>?_
 refine b08 S₁ r₁ hxs fun a kk s₂ hit hrd S₂=>?_
 have hnL:a≠env.locals:=fun q=>by refine c9 ((O.mono l₁).loc) fun m h1 _=>?_;rw[q] at hit;rw[hit] at h1;exact c7 h1
 refine codeAny_forLoop (b73 B0 os gs mg mb env G ω₁ a fun xs ρ' σ'=>V4 (fun h ρ σ K=>evB mu Γ b (upd ρ x h) G σ K) xs ρ' σ' KF) ?_ xs.length ⟨_,σ1,ρ,kk,xs,rfl,(LeS.refl _ ω₁).setNew _ hit,(O.mono l₁).mono (Le.new _ hit),S₂,R₁.new hit,Own.set_self ..,hrd,H₂⟩
 intro k s hI
 obtain⟨ω₃,σ₃,ρ3,kk,xs,hk,l₃,O3,S₃,R₃,e1,e2,H3⟩:=hI
 refine a1u Rm.handled S₃ e1 e2 (fun hnil s' S'=>?_) (fun y rest hcons u k' s' rv rk S'=>?_)
 · clear e2;subst hnil
   refine wpAny_execs_nil ⟨.nx,_,σ₃,ρ3,(l₁.s _).trans (l₃.delNew hit),(O3.monoW (LeW.del e1 rfl)),S',R₃.del e1 (fun _ q=>by contradiction) (fun _ q=>by contradiction),.nx,?_⟩
   exact H3
 · subst hcons
   have O':=O3.monoW (LeW.set (.it k') e1 rfl)
   have f1:LeF ω₃ (ω₃.set a (.it k')):=LeF.set _ e1 (fun _ q=>by contradiction)
   refine wpAny_assign_Name (o9 O' S' (R₃.set _ e1 (fun _ q=>by contradiction) (fun _ q=>by contradiction)) h1 (rv.monoF f1) fun ω₄ s₄ l₄ f₄ O4 S₄ R₄=>?_)
   refine wpAny_mono (okB T X _ A _ ω₄ s₄ σ₃ _ env _ G Rm O4 S₄ R₄ H3) (fun f s₅ q=>?_) fun _ _ x=>x
   obtain⟨fl,ω₅,σ5,ρ5,l₅,O5,S₅,R₅,hf,H5⟩:=q
   have l':LeS env.locals ω₁ ω₅:=((l₃.setNew _ hit).trans l₄).trans l₅
   refine c9 O4.loc fun m4 hm4 _=>?_
   have hk':rest.length<k:=by simp -iota only [List.length_cons] at hk;exact c0l hk
   induction hf using FlR.casesOn with
   | nx=>exact(fun q=>(⟨_,hk',ω₅,σ5,ρ5,k',rest,rfl,l',O5,S₅,R₅,(l₅ a _ hnL (l₄ a _ hnL (Own.set_self ..))),(((rk.monoF f1).monoF f₄).monoF (l₅.f hm4)),q⟩:∃ m,m<k/\b73 B0 os gs mg mb env G ω₁ a (fun xs ρ' σ'=>V4 (fun h ρ σ K=>evB mu Γ b (upd ρ x h) G σ K) xs ρ' σ' KF) m s₅)) H5
   | ct=>exact(fun q=>(⟨_,hk',ω₅,σ5,ρ5,k',rest,rfl,l',O5,S₅,R₅,(l₅ a _ hnL (l₄ a _ hnL (Own.set_self ..))),(((rk.monoF f1).monoF f₄).monoF (l₅.f hm4)),q⟩:∃ m,m<k/\b73 B0 os gs mg mb env G ω₁ a (fun xs ρ' σ'=>V4 (fun h ρ σ K=>evB mu Γ b (upd ρ x h) G σ K) xs ρ' σ' KF) m s₅)) H5
   | br=>exact⟨.nx,ω₅,σ5,ρ5,(l₁.s _).trans l',O5,S₅,R₅,.nx,H5⟩
   | rt r=>exact⟨_,ω₅,σ5,ρ5,(l₁.s _).trans l',O5,S₅,R₅,.rt r,H5⟩
end
end
section
noncomputable def j3 (σ:St) (ω:Own):Own:=fun a=>match ω a with
 | some (.lst vs)=>if (σ a).isSome then some (.lst vs) else some (.hid vs)
 | r=>r
mutual
noncomputable def frz (σ σ':St):HV->Option HV
 | .obj a=>if (σ a).isSome then some (.obj a) else (σ' a).map .list
 | .list xs=>(a42 σ σ' xs).map .list
 | .tup xs=>(a42 σ σ' xs).map .tup
 | h=>some h
noncomputable def a42 (σ σ':St):List HV->Option (List HV)
 | []=>some []
 | x::r=>(frz σ σ' x).bind fun y=>(a42 σ σ' r).map (y::·)
end
noncomputable def within (σ σ':St):St:=fun a=>if (σ a).isSome then σ' a else none
noncomputable def N1 (σ:St) (ω ω':Own) (σ':St) (h:Heap):Own:=fun a=>match ω a with
 | some (.lst vs)=>if (σ a).isSome then ω' a else some (.lst vs)
 | none=>(match σ' a,ω' a,h.get? a with
  | some _,some (.lst _),some o=>some (.fz o)
  | _,r,_=>r)
 | some _=>ω' a
theorem E3 {σ:St}{ω:Own}{a:Addr}{vs:List Value}(h:ω a=some (.lst vs)):j3 σ ω a=if (σ a).isSome then some (.lst vs) else some (.hid vs):=by unfold j3;exact rr h rfl
set_option tactic.hygienic true in
theorem A9 {σ:St}{ω:Own}{a:Addr}(h:∀ vs,ω a≠some (.lst vs)):j3 σ ω a=ω a:=by
 unfold j3
 split
 · rename_i vs e;exact absurd e (h vs)
 · rfl
theorem hide_none {σ:St}{ω:Own}{a:Addr}:j3 σ ω a=none ↔ ω a=none:=by
 constructor
 · intro h
   unfold j3 at h
   split at h
   · (revert h;refine ie rfl (fun _ h=>?_) fun _ h=>?_)<;>exact B5 h
   · exact h
 · intro h;(refine rr (A9 (by refine rr h ?_;intro vs q;contradiction)) ?_;exact rr h rfl)
theorem hide_f {σ:St}{ω:Own}:LeF ω (j3 σ ω):=fun a o e=>by (refine rr (A9 (by refine rr e ?_;intro vs q;cases q)) ?_;exact rr e rfl)
section
variable {B0:Heap}{os:OsState}{gs:TQ}{ω ω':Own}{s s':Shared}{σ σ':St}
theorem MS.tq_hide (S:MS B0 os ω gs s) (σ:St):∀ x∈gs,Z0 (j3 σ ω) x:=fun x hx=>by
 refine o_e (S.tq x hx) fun ps e=>?_
 refine⟨ps,(A9 (σ:=σ) fun vs q=>?_).trans e⟩
 have q:=e▸q;cases q
set_option tactic.hygienic true in
theorem MS.hide (S:MS B0 os ω gs s) (σ:St):MS B0 os (j3 σ ω) gs s:=by
 refine { S with hold:=fun a o e=>?_,lo:=fun a o e hf=>?_,tabs:=fun P qs ps e=>(S.tabs P qs ps (by
  unfold j3 at e
  split at e
  · split at e<;>exact absurd e nofun
  · exact e)).monoF hide_f,tq:=S.tq_hide σ }
 · unfold j3 at e
   split at e
   · rename_i vs h
     have:=S.hold _ _ h
     split at e<;>(replace e:=Option.some.inj e;subst e)<;>exact this
   · exact S.hold _ _ e
 · unfold j3 at e
   split at e
   · rename_i vs h;exact S.lo _ _ h rfl
   · exact S.lo _ _ e hf
theorem RelS.hide (R:RelS ω σ):RelS (j3 σ ω) σ:=fun a xs e=>by
 refine D9 (R a xs e) fun hz vs h1 h2=>?_
 exact(X8 hz vs (by (refine rr (E3 h1) ?_;refine rr e ?_);rfl) (h2.monoF hide_f))
theorem MS.adopt (S:MS B0 os ω gs s){a:Addr}{m:OM}(hm:m.Holds s.heap a) (hl:B0.objs.size<=a) (h0:∀ o:{ m:OM // m.fixed=true },ω a≠some o.1) (ht:m.isTab=false:=by rfl):MS B0 os (ω.set a m) gs s:=by
 refine { S with hold:=fun b o e=>?_,lo:=fun b o e hf=>?_,tabs:=S.tabs_set (fun o=>h0 ⟨_,rfl⟩) ht,tq:=S.tq_set _ fun qs ps=>h0 ⟨_,rfl⟩ }
 · unfold Own.set at e
   (revert e;refine ie rfl (fun _ e=>?_) fun _ e=>?_)
   · rename_i q;refine rr q ?_;(replace e:=Option.some.inj e;subst e);exact hm
   · exact S.hold _ _ e
 · unfold Own.set at e
   (revert e;refine ie rfl (fun _ e=>?_) fun _ e=>?_)
   · rename_i q;refine rr q ?_;exact hl
   · exact S.lo _ _ e hf
theorem b2o (l:Le (j3 σ ω) ω') (R':RelS ω' σ'){a:Addr}{xs:List HV}(h:(σ a).isSome=false) (e:σ' a=some xs):ω a=none:=by
 refine D9 (R' a xs e) fun _ vs h1 _=>?_
 induction q:ω a with
 | none=>rfl
 | some o=>
   exfalso
   by_cases hl:∃ us,o=.lst us
   · (refine o_e hl fun us z10=>?_;clear hl;subst z10)
     have e1:=E3 (σ:=σ) q
     have:=l a _ (h▸e1)
     have this:=h1▸this
     cases this
   · have:=l a _ (show j3 σ ω a=some o from by (refine rr (A9 (by refine q▸?_;intro us q2;exact hl ⟨us,Option.some.inj q2⟩)) ?_;exact rr q rfl))
     simp only[h1] at this
     clear q;induction o using OM.casesOn with
     | lst us=>exact hl ⟨us,rfl⟩
     | ex o=>refine o_e this fun o' q2=>?_;cases q2
     | tab qs ps=>refine o_e this fun m q2=>?_;cases q2
     | it _=>cases this
     | fz _=>cases this
     | hid _=>cases this
     | ns _=>cases this
     | cell _=>cases this
set_option tactic.hygienic true in
theorem a0s (l:Le (j3 σ ω) ω'){h:Heap}:LeF ω' (N1 σ ω ω' σ' h):=fun a o e=>by
 unfold N1
 split
 · rename_i vs hw
   refine ie rfl (fun _=>?_) fun _=>?_
   · exact e
   · rename_i hn
     have e1:=E3 (σ:=σ) hw
     rw[if_neg hn] at e1
     have:=l a _ e1
     have this:=e▸this
     cases this
 · refine rr e ?_
   split
   · rename_i q _;cases q
   · rfl
 · exact e
theorem a5x (l:Le (j3 σ ω) ω'){h:Heap}:Le ω (N1 σ ω ω' σ' h):=fun a o e=>by
 unfold N1
 refine e▸?_
 induction o using OM.casesOn with
 | lst vs=>
   dsimp only
   refine ie rfl (fun _=>?_) fun _=>?_
   · rename_i hs
     have e1:=E3 (σ:=σ) e
     rw[if_pos hs] at e1
     exact l a _ e1
   · exact⟨vs,rfl⟩
 | _=>exact l a _ (by (refine rr (A9 (by refine rr e ?_;intro us q2;cases q2)) ?_;exact rr e rfl))
theorem MS.tq_finish (S:MS B0 os ω gs s) (l:Le (j3 σ ω) ω'):∀ x∈gs,Z0 (N1 σ ω ω' σ' s'.heap) x:=fun x hx=>by
 refine o_e (S.tq x hx) fun ps e=>?_
 refine o_e ((a5x (σ':=σ') (h:=s'.heap) l _ _ e:LeO (.tab x.2 ps) _)) fun more h=>?_
 exact⟨_,h⟩
set_option tactic.hygienic true in
theorem MS.finish (S:MS B0 os ω gs s) (l:Le (j3 σ ω) ω') (S':MS B0 os ω' gs s'):MS B0 os (N1 σ ω ω' σ' s'.heap) gs s':=by
 refine { S' with hold:=fun a o e=>?_,lo:=fun a o e hf=>?_,tabs:=fun P qs ps e=>(S'.tabs P qs ps (by
  unfold N1 at e
  split at e
  · split at e
    · exact e
    · exact absurd e nofun
  · split at e
    · cases e
    · exact e
  · exact e)).monoF (a0s l),tq:=S.tq_finish l }
 · unfold N1 at e
   split at e
   · rename_i vs hw
     split at e
     · exact S'.hold _ _ e
     · rename_i hn
       (replace e:=Option.some.inj e;subst e)
       have e1:=E3 (σ:=σ) hw
       rw[if_neg hn] at e1
       exact(S'.hold _ _ (l a _ e1):(OM.hid vs).Holds s'.heap a)
   · split at e
     · rename_i q;(injection e with e;subst e);exact q
     · exact S'.hold _ _ e
   · exact S'.hold _ _ e
 · unfold N1 at e
   split at e
   · rename_i vs hw
     split at e
     · exact S'.lo _ _ e hf
     · exact S.lo _ _ hw rfl
   · split at e
     · (injection e with e;subst e);exact B2 hf
     · exact S'.lo _ _ e hf
   · exact S'.lo _ _ e hf
theorem RelS.last (R:RelS ω σ) (l:Le (j3 σ ω) ω') (R':RelS ω' σ'){h:Heap}:RelS (N1 σ ω ω' σ' h) (within σ σ'):=fun a xs e=>by
 unfold within at e
 (revert e;refine ie rfl (fun _ e=>?_) fun _ e=>?_)
 · rename_i hs
   refine D9 (R' a xs e) fun hz vs h1 h2=>?_
   refine(X8 hz vs ?_ (h2.monoF (a0s l)))
   refine o_e (Option.isSome_iff_exists.mp hs) fun ys hy=>?_
   refine D9 (R a ys hy) fun _ us h3 _=>?_
   unfold N1
   refine rr h3 ?_
   dsimp only
   refine rr (if_pos hs) ?_
   exact h1
 · exact c7 e
mutual
theorem a81 (l:Le (j3 σ ω) ω') (S':MS B0 os ω' gs s') (R':RelS ω' σ'):∀ {h h':HV}{v:Value},Rd ω' h v->frz σ σ' h=some h'->Rd (N1 σ ω ω' σ' s'.heap) h' v
 | .obj a,h',v,r,e=>by
   simp only[frz] at e
   (revert e;refine ie rfl (fun _ e=>?_) fun _ e=>?_)
   · (replace e:=Option.some.inj e;subst e);exact r
   · rename_i hn
     simp only[Option.map_eq_some_iff] at e
     (refine c9 e fun xs e1 z55=>?_;clear e;subst z55)
     simp only[Rd] at r
     refine rr r ?_
     refine D9 (R' a xs e1) fun hz vs h1 h2=>?_
     have hn':(σ a).isSome=false:=by simpa using hn
     refine o_e (S'.hold _ _ h1) fun n ho=>?_
     refine⟨hz,a,{ cls:=.type "list",data:=.seq vs.toArray n },vs,n,rfl,?_,rfl,rfl,h2.monoF (a0s l)⟩
     unfold N1
     simp only[(b2o l R' hn' e1),e1,h1,ho]
 | .list xs,h',v,r,e=>by
   simp only[frz,Option.map_eq_some_iff] at e
   (refine c9 e fun ys e1 z51=>?_;clear e;subst z51)
   (refine y3 r fun hz a o vs n h1 h2 h3 h4 h5=>?_;clear r)
   obtain⟨h6,h7⟩:=a5o l S' R' h5 e1
   exact⟨by exact c09 h7 hz,a,o,vs,n,h1,a0s l _ _ h2,h3,h4,h6⟩
 | .tup xs,h',v,r,e=>by
   simp only[frz,Option.map_eq_some_iff] at e
   (refine c9 e fun ys e1 z41=>?_;clear e;subst z41)
   (refine y3 r fun hz a o vs n h1 h2 h3 h4 h5=>?_;clear r)
   obtain⟨h6,h7⟩:=a5o l S' R' h5 e1
   exact⟨by exact c09 h7 hz,a,o,vs,n,h1,a0s l _ _ h2,h3,h4,h6⟩
 | .none,h',v,r,e | .bool _,h',v,r,e | .int _,h',v,r,e | .str _,h',v,r,e | .bytes _,h',v,r,e | .val _,h',v,r,e | .rng _ _,h',v,r,e | .rngd _,h',v,r,e | .mt _,h',v,r,e | .bm _,h',v,r,e=>by
   simp only[frz,Option.some.injEq] at e;subst e;exact r.monoF (a0s l)
theorem a5o (l:Le (j3 σ ω) ω') (S':MS B0 os ω' gs s') (R':RelS ω' σ'):∀ {xs ys:List HV}{vs:List Value},RdL ω' xs vs->a42 σ σ' xs=some ys->RdL (N1 σ ω ω' σ' s'.heap) ys vs/\ys.length=xs.length
 | [],ys,vs,r,e=>by simp only[a42,Option.some.injEq] at e;subst e;simp only[RdL] at r ⊢;exact⟨r,trivial⟩
 | x::xs,ys,vs,r,e=>by
   simp only[a42,Option.bind_eq_some_iff,Option.map_eq_some_iff] at e
   (refine c9 e fun y e1 z26=>?_;clear e;refine c9 z26 fun zs e2 z27=>?_;refine rl z27 ?_)
   refine d9 r fun v q h1 h2 h3=>?_
   refine o_a (a5o l S' R' h3 e2) fun h4 h5=>?_
   exact⟨(j7 v q h1 (a81 l S' R' h2 e1) h4),by simp[h5]⟩
end
end
noncomputable def F5 (ω:Own) (cs:List (Str×Addr)) (cm:Str->Option Value):Own:=fun b=>match cs.find? fun p=>p.2==b&&cs.lookup p.1==some b with
 | some p=>some (.cell (cm p.1))
 | none=>ω b
set_option tactic.hygienic true in
theorem a6m {ω:Own}{cs:List (Str×Addr)}{cm:Str->Option Value}(hp:cs.Pairwise fun x y=>x.2≠y.2){x:Str}{c:Addr}(h:cs.lookup x=some c):F5 ω cs cm c=some (.cell (cm x)):=by
 unfold F5
 split
 · rename_i p e
   have h1:=List.find?_some e
   simp only[Bool.and_eq_true,beq_iff_eq] at h1
   have:=name_of_addr hp (mem_of_lookup h) (mem_of_lookup h1.2)
   exact rr this rfl
 · rename_i e
   rw[List.find?_eq_none] at e
   have:=e _ (mem_of_lookup h)
   simp[h] at this
set_option tactic.hygienic true in
theorem D7 {ω:Own}{cs:List (Str×Addr)}{cm:Str->Option Value}{b:Addr}(h:∀ n,(n,b) ∉ cs):F5 ω cs cm b=ω b:=by
 unfold F5
 split
 · rename_i p e
   have h1:=List.find?_some e
   rw[Bool.and_eq_true,beq_iff_eq] at h1
   exact absurd (by refine h1.1▸?_;exact(List.mem_of_find?_eq_some e)) (h p.1)
 · rfl
theorem MS.tq_cells {B0:Heap}{os:OsState}{gs:TQ}{ω:Own}{s:Shared}(S:MS B0 os ω gs s){cs:List (Str×Addr)}{cm:Str->Option Value}(h0:∀ n c,(n,c)∈cs->∀ o:{ m:OM // m.fixed=true },ω c≠some o.1):∀ x∈gs,Z0 (F5 ω cs cm) x:=fun x hx=>by
 refine o_e (S.tq x hx) fun ps e=>?_
 exact⟨ps,(D7 (fun n hn=>h0 n x.1 hn ⟨_,rfl⟩ e)).trans e⟩
set_option tactic.hygienic true in
theorem MS.cells {B0:Heap}{os:OsState}{gs:TQ}{ω:Own}{s:Shared}(S:MS B0 os ω gs s){cs:List (Str×Addr)}{cm:Str->Option Value}(hc:∀ n c,cs.lookup n=some c->s.heap.IsCell c (cm n))
 (hl:∀ n c,(n,c)∈cs->B0.objs.size<=c) (h0:∀ n c,(n,c)∈cs->∀ o:{ m:OM // m.fixed=true },ω c≠some o.1):MS B0 os (F5 ω cs cm) gs s:=by
 refine { S with hold:=fun b o e=>?_,lo:=fun b o e hf=>?_,tabs:=fun P qs ps e=>(S.tabs P qs ps (by
  unfold F5 at e
  split at e
  · cases e
  · exact e)).monoF fun b o e=>(D7 (fun n hn=>h0 n b hn ⟨_,rfl⟩ e)).trans e,tq:=S.tq_cells h0 }
 · unfold F5 at e
   split at e
   · rename_i p h
     have h1:=List.find?_some h
     simp only[Bool.and_eq_true,beq_iff_eq] at h1
     refine Option.some.inj e▸?_
     exact hc _ _ h1.2
   · exact S.hold _ _ e
 · unfold F5 at e
   split at e
   · rename_i p h
     have h1:=List.find?_some h
     simp only[Bool.and_eq_true,beq_iff_eq] at h1
     exact hl p.1 b (mem_of_lookup h1.2)
   · exact S.lo _ _ e hf
theorem J9 {x:Str}:∀ (names:List (Str×NameKind)) (n:Nat) (acc:List (Str×Addr)),((x,NameKind.cell)∈names\/(acc.lookup x).isSome=true)->((cellsFrom n names acc).lookup x).isSome=true
 | [],n,acc,h=>by rcases h with h | h;· contradiction
                  · exact h
 | (y,k)::r,n,acc,h=>by
   dsimp only[cellsFrom]
   refine ie rfl (fun _=>?_) fun _=>?_
   · refine J9 r _ _ ?_
     rcases h with h | h
     · rcases List.mem_cons.mp h with h | h
       · (injection h with h;refine rl h ?_);right;simp[List.lookup_cons]
       · exact .inl h
     · right
       simp only[List.lookup_cons]
       split
       · rfl
       · exact h
   · rename_i hk
     refine J9 r _ _ ?_
     rcases h with h | h
     · rcases List.mem_cons.mp h with h | h
       · (injection h with h h9;subst h9);simp at hk
       · exact .inl h
     · exact .inr h
theorem a3o {kd:Str->Option NameKind}{x:Str}:∀ (names:List Str) (vs:List Value) (m:Str->Option Value),x ∉ names->bindL kd (names.zip vs) m x=m x
 | [],_,_,_=>by rfl
 | _::_,[],_,_=>by rfl
 | y::r,v::vs,m,h=>by
  refine rr (a3o r vs _ (fun q=>h (.tail _ q))) ?_
  refine ie rfl (fun _=>?_) fun _=>?_
  · exact if_neg (fun q=>h (by refine q▸?_;exact .head _))
  · rfl
theorem a2a {kd:Str->Option NameKind}{x:Str}:∀ (names:List Str) (vs:List Value) (m:Str->Option Value),x ∉ names->bindC kd (names.zip vs) m x=m x
 | [],_,_,_=>by rfl
 | _::_,[],_,_=>by rfl
 | y::r,v::vs,m,h=>by
  refine rr (a2a r vs _ (fun q=>h (.tail _ q))) ?_
  refine ie rfl (fun _=>?_) fun _=>?_
  · rfl
  · exact if_neg (fun q=>h (by refine q▸?_;exact .head _))
theorem a61 {kd:Str->Option NameKind}{ω:Own}{x:Str}{h:HV}:∀ {names:List Str}{hs:List HV}{vs:List Value}(mL mC:Str->Option Value),names.Nodup->RdL ω hs vs->(names.zip hs).lookup x=some h->
 ∃ v,Rd ω h v/\(kd x=some .local->bindL kd (names.zip vs) mL x=some v)/\(kd x≠some .local->bindC kd (names.zip vs) mC x=some v)
 | [],_,_,_,_,_,_,e=>by simp only[List.zip_nil_left] at e;exact c7 e
 | _::_,[],_,_,_,_,_,e=>by exact c7 e
 | y::r,k::ks,vs,mL,mC,hn,rd,e=>by
   simp only[RdL] at rd
   (refine d9 rd fun v q z71 h1 h2=>?_;clear rd;refine rr z71 ?_)
   obtain⟨hy,hr⟩:=List.nodup_cons.mp hn
   simp only[List.zip_cons_cons,List.lookup_cons] at e
   simp only[List.zip_cons_cons]
   unfold bindL bindC
   split at e
   · rename_i hx
     simp only[beq_iff_eq] at hx
     refine rr hx ?_
     (replace e:=Option.some.inj e;subst e)
     refine(y7 v h1 (fun k=>?_) (fun k=>?_))
     · (refine rr (if_pos k) ?_;refine rr (a3o _ _ _ hy) ?_);simp
     · (refine rr (if_neg k) ?_;refine rr (a2a _ _ _ hy) ?_);simp
   · exact a61 _ _ hr h2 e
noncomputable def d7 (sc:Scope) (gt:Loc):GC:=⟨fun x=>if sc.names.lookup x=some .globalImplicit then gt x else none,fun x=>sc.names.lookup x==some .cell,fun x=>sc.names.lookup x==some .local,fun x=>if x=("__debug__" : Str) then none else gt x,none⟩
noncomputable def y0 (sc:Scope) (gt:Loc) (cd:Option (Addr×Str)):GC:={ d7 sc gt with cd:=cd }
noncomputable def I1 (mg mb:Str->Option Value) (gt:Loc):Prop:=∀ x h,gt x=some h->∃ v,h=.val v/\GV mg mb x v
structure b0a (fd:FuncData) (ps:List Str) (body:List Stmt):Prop where
 body:fd.body=.stmts body
 clo:fd.closure=[]
 glob:fd.globals=mainGlobals
 blt:fd.builtins=builtinsNs
 kind:fd.scope.kind=.function
 co:fd.scope.isCoroutine=false
 gen:fd.scope.isGenerator=false
 nd:ps.Nodup
 kinds:∀ x∈ps,fd.scope.names.lookup x=some .local\/fd.scope.names.lookup x=some .cell
 bind:∀ vals:List Value,vals.length=ps.length->bindArgs fd ⟨vals,[]⟩=pure (ps.zip vals)
 dbg:("__debug__" : Str) ∉ ps/\fd.scope.names.lookup ("__debug__" : Str)≠some .globalImplicit/\("__classdict__" : Str) ∉ ps
structure FnAt (B0:Heap) (a:Addr) (fd:FuncData):Prop where
 at':∃ o,B0.get? a=some o/\o.cls≠.none/\o.data=.func fd
 code:∃ c o vs t,fd.code=.ref c/\B0.get? c=some o/\o.cls≠.none/\o.data=.fields vs/\vs[1]? = some (.str fd.qualname t)
noncomputable def a03 (cd:Option (Addr×Str)) (mu:Pos->Bool) (Γ:Spx) (sc:Scope) (gt:Loc) (ps:List Str) (body:List Stmt):Spec:=fun hs σ K=>hs.length=ps.length/\
 evB mu Γ body (fun x=>(ps.zip hs).lookup x) (y0 sc gt cd) σ fun fl _ σ'=>∃ h h',fl=.rt h/\frz σ σ' h=some h'/\K h' (within σ σ')
noncomputable def B6 (mu:Pos->Bool) (Γ:Spx) (sc:Scope) (gt:Loc) (ps:List Str) (body:List Stmt):Spec:=fun hs σ K=>hs.length=ps.length/\
 evB mu Γ body (fun x=>(ps.zip hs).lookup x) (d7 sc gt) σ fun fl _ σ'=>∃ h h',fl=.rt h/\frz σ σ' h=some h'/\K h' (within σ σ')
theorem EnvOk.tag {mg mb:Str->Option Value}{env:Env}{ω:Own}{ρ:Loc}{G:GC}(O:EnvOk mg mb env ω ρ G){cd:Option (Addr×Str)}(h:∀ c q,cd=some (c,q)->env.code=.ref c/\env.qual=q):EnvOk mg mb env ω ρ { G with cd:=cd }:=
 ⟨O.kind,O.glob,O.blt,O.loc,O.cel,O.dom,O.gl,O.gv,O.cl,O.lc,O.dbg,O.gg,O.gd,h⟩
section
variable {prog:Program}{w:World}{B0:Heap}{os:OsState}{gs:TQ}{mg mb:Str->Option Value}{mu:Pos->Bool}{Γ:Spx}{n:Nat}
theorem a9x {ω:Own}{fd:FuncData}{ps:List Str}{body:List Stmt}{gt:Loc}{L a:Addr}{hs:List HV}{vs:List Value}(D:b0a fd ps body) (hg:I1 mg mb gt) (r:RdL ω hs vs)
 (hL:ω L=some (.ns (bindL (callEnvC fd L a).kindOf (ps.zip vs) fun _=>none)))
 (hc:∀ x c,(callEnvC fd L a).cells.lookup x=some c->ω c=some (.cell (bindC (callEnvC fd L a).kindOf (ps.zip vs) (fun _=>none) x))) :
 EnvOk mg mb (callEnvC fd L a) ω (fun x=>(ps.zip hs).lookup x) (d7 fd.scope gt):=by
 have kd:∀ x,(callEnvC fd L a).kindOf x=fd.scope.names.lookup x:=fun _=>rfl
 have inps:∀ x h,(ps.zip hs).lookup x=some h->x∈ps:=fun x h e=>(List.of_mem_zip (mem_of_lookup e)).1
 have cs:∀ x,fd.scope.names.lookup x=some .cell->∃ c,(callEnvC fd L a).cells.lookup x=some c:=fun x e=>
  Option.isSome_iff_exists.mp (J9 fd.scope.names (L+1) [] (.inl (D3 e)))
 refine⟨D.kind,D.glob,D.blt,(j1 _ hL (fun x h e k=>?_)),fun x h e k=>?_,fun x h e=>?_,fun x h e=>?_,fun x h e=>?_,fun x e=>?_,fun x e=>?_,(A8 ?_ ?_ ?_),fun x h e=>?_,by unfold d7;dsimp only;exact if_pos rfl,fun _ _ e=>c7 e⟩
 · refine u9 (a61 (kd:=(callEnvC fd L a).kindOf) (fun _=>none) (fun _=>none) D.nd r e) fun v h1 h2 _=>?_
   exact(j1 v (h2 k) h1)
 · refine u9 (a61 (kd:=(callEnvC fd L a).kindOf) (fun _=>none) (fun _=>none) D.nd r e) fun v h1 _ h3=>?_
   have k':fd.scope.names.lookup x=some .cell:=by
    rcases D.kinds x (inps x h e) with q | q
    · rw[kd,q] at k;rcases k with k | k<;>contradiction
    · exact q
   refine o_e (cs x k') fun c hcx=>?_
   refine(j7 c v hcx ?_ h1)
   (refine rr (hc x c hcx) ?_;exact rr (h3 (by (refine rr (kd ..) ?_;refine rr k' ?_);decide)) rfl)
 · rcases D.kinds x (inps x h e) with q | q
   · exact .inl q
   · exact .inr (.inl q)
 · unfold d7 at e;dsimp only at e
   (revert e;refine ie rfl (fun _ e=>?_) fun _ e=>?_)
   · rename_i q;exact q
   · exact c7 e
 · unfold d7 at e;dsimp only at e
   (revert e;refine ie rfl (fun _ e=>?_) fun _ e=>?_)
   · exact hg x h e
   · exact c7 e
 · have q:fd.scope.names.lookup x=some .cell:=by simpa [d7] using e
   exact⟨.inl q,cs x q⟩
 · have q:fd.scope.names.lookup x=some .local:=by simpa [d7] using e
   exact q
 · induction q:(ps.zip hs).lookup ("__debug__" : Str) using Option.casesOn with
   | none=>rfl
   | some h=>exact absurd (inps _ h q) D.dbg.1
 · unfold d7;exact if_neg D.dbg.2.1
 · induction q:(ps.zip hs).lookup ("__classdict__" : Str) using Option.casesOn with
   | none=>rfl
   | some h=>exact absurd (inps _ h q) D.dbg.2.2
 · unfold d7 at e;dsimp only at e
   (revert e;refine ie rfl (fun _ e=>?_) fun _ e=>?_)
   · exact c7 e
   · exact hg x h e
theorem b0j (T:TopB B0 mg mb) (X:u6 prog w B0 os gs Γ n){fd:FuncData}{ps:List Str}{body:List Stmt}{gt:Loc}{a:Addr}(D:b0a fd ps body) (F:FnAt B0 a fd) (hg:I1 mg mb gt)
 (A:Around) (E:Value->Shared->Prop) (ω:Own) (s:Shared) (σ:St) (K:KV) (hs:List HV) (vs:List Value) (Rm:Room (n+1) A) (S:MS B0 os ω gs s) (R:RelS ω σ) (r:RdL ω hs vs)
 {cd:Option (Addr×Str)}(hcdT:∀ c q,cd=some (c,q)->fd.code=.ref c/\fd.qualname++".<locals>." = q) (H:a03 cd mu Γ fd.scope gt ps body hs σ K):wpAny (model prog w) A (call (.ref a) vs []) (PostV B0 os gs ω K) E s:=by
 refine o_a H fun hlen H=>?_
 refine u9 F.at' fun o ho hcls hdata=>?_
 (refine y1 F.code fun c oc cvs t hcode hoc hccls z90=>?_;refine o_a z90 fun hcd hq=>?_)
 refine wpAny_call (codeAny_call_cells Rm.lim (S.top ho hcls) hdata (T.lim S) (C6 c oc cvs t hcode (S.top hoc hccls) hcd hq) D.body (D.bind vs (c4k r.length hlen)) D.clo ?_ ?_ D.co D.gen D.kind)
 · intro x hx
   refine o_a (List.of_mem_zip hx) fun h1 _=>?_
   rcases D.kinds x.1 h1 with q | q
   · exact .inl q
   · exact .inr ⟨q,J9 _ _ _ (.inl (D3 q))⟩
 · intro s₁ C
   refine X9 C.toInCall.same fun h' tk hsame=>?_
   have S₁:MS B0 os ω gs s₁:=by
    simp only[hsame]
    have:=S.keeps (h':=h') (fun b ob e=>by have:=C.toInCall.keep b ob e;rw[hsame] at this;exact this) tk
    exact this
   have S₂:=S₁.hide σ
   have hun:∀ b,s.heap.objs.size<=b->j3 σ ω b=none:=fun b hb=>by
    rw[hide_none]
    induction q:ω b with
    | none=>rfl
    | some m=>exact absurd (S.hold _ _ q).lt (Nat.not_lt.mpr hb)
   have S₃:=S₂.adopt (a:=s.heap.objs.size) (m:=.ns _) C.toInCall.ns S.size (fun o q=>by rw[hun _ (Nat.le_refl _)] at q;exact c7 q)
   have S₄:=S₃.cells (cm:=bindC (callEnvC fd s.heap.objs.size a).kindOf (ps.zip vs) fun _=>none) C.cell (fun m c hm=>Nat.le_trans S.size (Nat.le_of_lt (C.above m c hm))) (fun m c hm o q=>by
    have:s.heap.objs.size<c:=C.above m c hm
    rw[Own.set_ne _ _ (Nat.ne_of_gt this),hun c (Nat.le_of_lt this)] at q;exact c7 q)
   have hcl:∀ m c,(m,c)∈(callEnvC fd s.heap.objs.size a).cells->s.heap.objs.size<c:=fun m c hm=>C.above m c hm
   have l₄:Le (j3 σ ω) (F5 ((j3 σ ω).set s.heap.objs.size (.ns (bindL (callEnvC fd s.heap.objs.size a).kindOf (ps.zip vs) fun _=>none))) (callEnvC fd s.heap.objs.size a).cells (bindC (callEnvC fd s.heap.objs.size a).kindOf (ps.zip vs) fun _=>none)):=fun b ob e=>by
    have hb:b<s.heap.objs.size:=by
     apply Nat.lt_of_not_le
     intro q
     rw[hun b q] at e;exact c7 e
    (refine rr (D7 (fun m q=>Nat.lt_irrefl _ (Nat.lt_trans hb (hcl m b q)))) ?_;refine rr (Own.set_ne _ _ (Nat.ne_of_lt hb)) ?_;refine rr e ?_)
    exact LeO.refl _
   have hL:F5 ((j3 σ ω).set s.heap.objs.size (.ns (bindL (callEnvC fd s.heap.objs.size a).kindOf (ps.zip vs) fun _=>none))) (callEnvC fd s.heap.objs.size a).cells (bindC (callEnvC fd s.heap.objs.size a).kindOf (ps.zip vs) fun _=>none) s.heap.objs.size=some (.ns (bindL (callEnvC fd s.heap.objs.size a).kindOf (ps.zip vs) fun _=>none)):=by
    refine rr (D7 (fun m q=>Nat.lt_irrefl _ (hcl m _ q))) ?_;exact Own.set_self ..
   have hce:∀ x c,(callEnvC fd s.heap.objs.size a).cells.lookup x=some c->F5 ((j3 σ ω).set s.heap.objs.size (.ns (bindL (callEnvC fd s.heap.objs.size a).kindOf (ps.zip vs) fun _=>none))) (callEnvC fd s.heap.objs.size a).cells (bindC (callEnvC fd s.heap.objs.size a).kindOf (ps.zip vs) fun _=>none) c=some (.cell (bindC (callEnvC fd s.heap.objs.size a).kindOf (ps.zip vs) (fun _=>none) x)):=
    fun x c e=>a6m C.apart e
   revert S₄ l₄ hL hce
   generalize F5 ((j3 σ ω).set s.heap.objs.size (.ns (bindL (callEnvC fd s.heap.objs.size a).kindOf (ps.zip vs) fun _=>none))) (callEnvC fd s.heap.objs.size a).cells (bindC (callEnvC fd s.heap.objs.size a).kindOf (ps.zip vs) fun _=>none)=ω₄
   intro S₄ l₄ hL hce
   have R₄:RelS ω₄ σ:=R.hide.keepF l₄.f fun b us e=>by
    have hs:=l₄ b _ e
    refine o_e hs fun us' q=>?_
    have h1:=S₂.hold _ _ e
    refine o_e h1 fun n1 g1=>?_
    refine o_e (S₄.hold _ _ q) fun n2 g2=>?_
    rw[g1] at g2
    have:us.toArray=us'.toArray:=by injection g2 with g2;injection g2 with _ _ g2;injection g2
    refine rr q ?_
    simp at this
    exact rr this rfl
   have O:=(a9x (a:=a) D hg ((r.monoF hide_f).monoF l₄.f) hL hce).tag (cd:=cd) hcdT
   refine wpAny_mono (okB T X body (A.deeper (callEnvC fd s.heap.objs.size a)) _ ω₄ s₁ σ _ (callEnvC fd s.heap.objs.size a) _ _ Rm.deeper O S₄ R₄ H) (fun f s' q=>?_) fun _ _ x=>x
   obtain⟨fl,ω',σ',ρ',l',O',S',R',hf,h,h',rfl,hfr,hK⟩:=q
   cases hf with
   | rt rv=>
     have l6:=((l₄.s _).trans l':LeS s.heap.objs.size (j3 σ ω) ω').le (hun _ (Nat.le_refl _))
     exact⟨h',_,_,a5x l6,S₁.finish l6 S',R.last l6 R',a81 l6 S' R' rv hfr,hK⟩
end
end
section
noncomputable def stm (i:Nat):Stmt:=PySem.Challenge.pw_ik0158_01.main.body.getD i (.Pass ⟨0,0,0,0⟩)
noncomputable def stI (s:Stmt):List Stmt×List Stmt×Expr×Scope×Arguments×Pos:=
 let d:List Stmt×List Stmt×Expr×Scope×Arguments×Pos:=([],[],.Constant .none 0 ⟨0,0,0,0⟩,default,default,default)
 @Stmt.casesOn (fun _=>List Stmt×List Stmt×Expr×Scope×Arguments×Pos) s (fun _ a b _ _ _ c _ _ p=>(b,[],.Constant .none 0 ⟨0,0,0,0⟩,c,a,p)) (fun _ _ _ _ _ _ _ _ _ _=>d) (fun _ _ _ _ _ _ _ _ _ _ _=>d) (fun _ _=>d) (fun _ _=>d) (fun _ v _=>([],[],v,default,default,default)) (fun _ _ _ _ _ _ _=>d) (fun _ _ _ _=>d) (fun _ _ _ _ _=>d) (fun _ _ b _ _=>(b,[],.Constant .none 0 ⟨0,0,0,0⟩,default,default,default)) (fun _ _ _ _ _=>d) (fun t b _ _=>(b,[],t,default,default,default)) (fun t b o _=>(b,o,t,default,default,default)) (fun _ _ _=>d) (fun _ _ _=>d) (fun _ _ _=>d) (fun _ _ _=>d) (fun b _ _ _ _=>(b,[],.Constant .none 0 ⟨0,0,0,0⟩,default,default,default)) (fun _ _ _ _ _=>d) (fun _ _ _=>d) (fun _ _=>d) (fun _ _ _ _=>d) (fun _ _=>d) (fun _ _=>d) (fun _ _=>d) (fun _=>d) (fun _=>d) (fun _=>d)
noncomputable def n7 (s:Stmt):List Stmt:=(stI s).1
noncomputable def z0 (s:Stmt):Expr:=(stI s).2.2.1
noncomputable def kid (s:Stmt) (i:Nat):Stmt:=(n7 s).getD i (.Pass ⟨0,0,0,0⟩)
noncomputable def N8 (s:Stmt):Expr×List Stmt:=(z0 s,n7 s)
noncomputable def b0 (s:Stmt):Scope:=(stI s).2.2.2.1
theorem b5l (a b:String):(Str.ofString a=Str.ofString b)=(a=b):=by
 (refine rr (Str.ofString_eq_toList ..) ?_;refine rr (Str.ofString_eq_toList ..) ?_)
 refine propext ⟨fun h=>?_,fun h=>by exact rr h rfl⟩
 injection h with h
 have h2:a.toList.map Char.toNat=b.toList.map Char.toNat:=by injection h
 have key:∀ (x y:List Char),x.map Char.toNat=y.map Char.toNat->x=y:=by
  intro x
  induction x with
  | nil=>intro y e;induction y using List.casesOn with | nil=>rfl | cons c r=>simp at e
  | cons c r ih=>
   intro y e
   induction y using List.casesOn with
   | nil=>simp at e
   | cons d q=>
    simp only[List.map_cons,List.cons.injEq] at e
    refine rr (ih q e.2) ?_
    congr 1
    exact Char.toNat_inj.mp e.1
 exact String.toList_inj.mp (key _ _ h2)
theorem R0 {tst:Tst}{els:HV->St->KV->Prop}{σ:St}(p:HV->Bool) (f:HV->HV):∀ (xs acc:List HV) (K:KV),acc.length+xs.length<=sizeLine->(∀ x∈xs,∀ K,K (p x) σ->tst x σ K)->(∀ x∈xs,p x=true->∀ K,K (f x) σ->els x σ K)->
 K (.list (acc++(xs.filter p).map f)) σ->J1 tst els acc xs σ K:=by
 intro xs0
 induction xs0 with
 | nil=>
  exact @fun acc K _ _ _ h=>by simpa [J1] using h
 | cons x xs ih=>
  exact @fun acc K hz ht he h=>by
   refine ht x (.head _) _ ?_
   simp only[List.length_cons] at hz
   induction hp:p x with
   | true=>
     refine he x (.head _) hp _ ⟨c1l hz,?_⟩
     refine ih _ K (by simp;exact c0g hz) (fun y hy=>ht y (.tail _ hy)) (fun y hy=>he y (.tail _ hy)) ?_
     simpa [hp] using h
   | false=>
     refine ih _ K (by exact Nat.le_of_lt ‹_›) (fun y hy=>ht y (.tail _ hy)) (fun y hy=>he y (.tail _ hy)) ?_
     simpa [hp] using h
noncomputable def b3l (f:Int->Bool):HV->Bool
 | .int k=>f k
 | _=>false
theorem b1l {f:Int->Bool}{k:Int}:b3l f (.int k)=f k:=rfl
noncomputable def T8:List Str->List HV->Loc
 | x::xs,h::hs=>upd (T8 xs hs) x h
 | _,_=>fun _=>none
theorem D6 (x:Str) (xs:List Str) (h:HV) (hs:List HV):T8 (x::xs) (h::hs)=upd (T8 xs hs) x h:=rfl
theorem D5:T8 [] []=fun _=>none:=rfl
theorem Q6:∀ (ps:List Str) (hs:List HV),(fun x=>(ps.zip hs).lookup x)=T8 ps hs
 | [],_=>by funext x;rfl
 | _::_,[]=>by funext x;rfl
 | y::ps,h::hs=>by
   funext x
   (refine rr List.zip_cons_cons ?_;refine rr List.lookup_cons ?_)
   show _=upd (T8 ps hs) y h x
   unfold upd
   by_cases e:x=y
   · subst e;simp
   · have:(x==y)=false:=beq_eq_false_iff_ne.mpr e
     (refine rr this ?_;refine rr (if_neg e) ?_;exact rl (Q6 ps hs) rfl)
theorem a92 {mu:Pos->Bool}{Γ:Spx}{sc:Scope}{gt:Loc}{ps:List Str}{body:List Stmt}{hs:List HV}{σ:St}{K:KV}(hl:hs.length=ps.length)
 (h:evB mu Γ body (T8 ps hs) (d7 sc gt) σ fun fl _ σ'=>∃ h h',fl=.rt h/\frz σ σ' h=some h'/\K h' (within σ σ')):B6 mu Γ sc gt ps body hs σ K:=by
 unfold B6
 refine rr (Q6 ..) ?_
 exact⟨hl,h⟩
theorem p6 {mu:Pos->Bool}{Γ:Spx}{sc:Scope}{gt:Loc}{ps:List Str}{body:List Stmt}{hs:List HV}{σ:St}{K:KV}(hl:hs.length=ps.length)
 (h:∀ KF:KS,(∀ fl (ρ:Loc) σ',(∃ h h',fl=Fl.rt h/\frz σ σ' h=some h'/\K h' (within σ σ'))->KF fl ρ σ')->evB mu Γ body (T8 ps hs) (d7 sc gt) σ KF):B6 mu Γ sc gt ps body hs σ K:=
 a92 hl (h _ fun _ _ _ k=>k)
theorem i5 {ρ:Loc}{x:Str}{h:HV}:upd ρ x h x=some h:=if_pos rfl
theorem i8 {ρ:Loc}{x y:Str}{h:HV}{r:Option HV}(n:y≠x) (e:ρ y=r):upd ρ x h y=r:=(if_neg n).trans e
theorem d6 {a b:String}(h:(a==b)=false):Str.ofString a≠Str.ofString b:=fun q=>by simp only[b5l] at q;subst q;simp at h
theorem b6k {y:Str}:(fun _:Str=>(none:Option HV)) y=none:=rfl
theorem b3y {sc:Scope}{ρ:Loc}{x:Str}{h:HV}(k:sc.names.lookup x=some .free) (e:ρ x=some h):E5 sc ρ x=some h:=(if_pos k).trans e
theorem b1r {sc:Scope}{ρ:Loc}{x:Str}(k:sc.names.lookup x≠some .free):E5 sc ρ x=none:=if_neg k
theorem b1j {sc:Scope}{G:GC}{x:Str}{h:HV}(k:sc.names.lookup x=some .globalImplicit) (e:G.g x=some h):(B1 sc G).g x=some h:=(if_pos k).trans (by unfold GC.all;exact rr e rfl)
theorem b1i {sc sc':Scope}{gt:Loc}{x:Str}{h:HV}(k:sc.names.lookup x=some .globalImplicit) (hd:x≠("__debug__" : Str)) (e:gt x=some h):(B1 sc (d7 sc' gt)).g x=some h:=by
 refine(if_pos k).trans ?_
 unfold GC.all d7
 dsimp only
 split
 · rename_i q
   (revert q;refine ie rfl (fun _ q=>?_) fun _ q=>?_)
   · refine rl q ?_;exact e
   · exact c7 q
 · refine rr (if_neg hd) ?_;exact e
theorem a8r {sc:Scope}{gt:Loc}{x:Str}{h:HV}(k:sc.names.lookup x=some .globalImplicit) (e:gt x=some h):(d7 sc gt).g x=some h:=(if_pos k).trans e
theorem a9l {sc:Scope}{gt:Loc}{cd:Option (Addr×Str)}{x:Str}{h:HV}(k:sc.names.lookup x=some .globalImplicit) (e:gt x=some h):(y0 sc gt cd).g x=some h:=a8r k e
section
variable {mu:Pos->Bool}{Γ:Spx}{ρ:Loc}{G:GC}{σ:St}{K:KV}{KB:Bool->St->Prop}{KL:List HV->St->Prop}{KO:Option Int->St->Prop}{KF:KS}
theorem b2x (h:KB true σ):evA mu Γ .And [] ρ G σ KB:=h
theorem b7d (h:KB false σ):evA mu Γ .Or [] ρ G σ KB:=h
theorem b62 {x:Expr}{r:List Expr}(h:evT mu Γ x ρ G σ fun b σ1=>if b then evA mu Γ .And r ρ G σ1 KB else KB false σ1):evA mu Γ .And (x::r) ρ G σ KB:=h
theorem c07 {x:Expr}{r:List Expr}(h:evT mu Γ x ρ G σ fun b σ1=>if b then KB true σ1 else evA mu Γ .Or r ρ G σ1 KB):evA mu Γ .Or (x::r) ρ G σ KB:=h
theorem V9 (h:KL [] σ):M5 mu Γ [] ρ G σ KL:=h
theorem a7m {e:Expr}{r:List Expr}(h:evE mu Γ e ρ G σ fun h σ1=>M5 mu Γ r ρ G σ1 fun hs σ₂=>KL (h::hs) σ₂):M5 mu Γ (e::r) ρ G σ KL:=h
theorem q_o0 (h:KO none σ):evO mu Γ none ρ G σ KO:=h
theorem q_o {e:Expr}(h:evE mu Γ e ρ G σ fun h σ1=>∃ i,h=.int i/\KO (some i) σ1):evO mu Γ (some e) ρ G σ KO:=h
theorem q_j0 {acc:List Nat}{KJ:List Nat->St->Prop}(h:KJ acc σ):evJ mu Γ [] ρ G σ acc KJ:=h
theorem a3z {x:Str}{k:Nat}{p:Pos}{r:List Expr}{acc:List Nat}{KJ:List Nat->St->Prop}(h1:acc.length+(v9 x).length<=sizeLine) (h:evJ mu Γ r ρ G σ (acc++v9 x) KJ):evJ mu Γ (.Constant (.str x) k p::r) ρ G σ acc KJ:=(j1 (.inl x) (.str x k p) ⟨h1,h⟩)
theorem q_jv {v:Expr}{p:Pos}{r:List Expr}{acc:List Nat}{KJ:List Nat->St->Prop}(h:evE mu Γ v ρ G σ fun h σ1=>∃ l,h=.str l/\acc.length+l.length<=sizeLine/\evJ mu Γ r ρ G σ1 (acc++l) KJ):evJ mu Γ (.FormattedValue v (-1) none p::r) ρ G σ acc KJ:=(j1 (.inr v) (.fmt v p) h)
theorem q_B0 (h:KF .nx ρ σ):evB mu Γ [] ρ G σ KF:=h
theorem q_B {s:Stmt}{r:List Stmt}(h:evS mu Γ s ρ G σ fun fl ρ' σ'=>match fl with
 | .nx=>evB mu Γ r ρ' G σ' KF
 | fl=>KF fl ρ' σ'):evB mu Γ (s::r) ρ G σ KF:=h
theorem b2e {s:Stmt}{K K':KS}(h:∀ fl ρ σ,K fl ρ σ->K' fl ρ σ) (q:evS mu Γ s ρ G σ K):evS mu Γ s ρ G σ K':=fun _ _ _ _ _ _ _ _ T X A E ω s env Rm O S R=>
 wpAny_mono (q T X A E ω s env Rm O S R) (fun _ _ ⟨fl,ω',σ',ρ',l,O,S,R,hf,k⟩=>⟨fl,ω',σ',ρ',l,O,S,R,hf,h _ _ _ k⟩) fun _ _ x=>x
theorem b45 {e:Expr}{K K':Bool->St->Prop}(h:∀ b σ,K b σ->K' b σ) (q:evT mu Γ e ρ G σ K):evT mu Γ e ρ G σ K':=fun _ _ _ _ _ _ _ _ T X A E ω s env Rm O S R=>
 wpAny_mono (q T X A E ω s env Rm O S R) (fun _ _ ⟨ω',σ',l,S,R,k⟩=>⟨ω',σ',l,S,R,h _ _ k⟩) fun _ _ x=>x
theorem a9z {r:List Stmt}:∀ (b:List Stmt){ρ:Loc}{σ:St}{K:KS},evB mu Γ (b.append r) ρ G σ K->evB mu Γ b ρ G σ fun fl ρ' σ'=>match fl with
 | .nx=>evB mu Γ r ρ' G σ' K
 | fl=>K fl ρ' σ':=by
 intro xs0
 induction xs0 with
 | nil=>
  exact @fun _ _ _ h=>h
 | cons _ b ih=>
  exact @fun _ _ _ h=>b2e (fun fl _ _ k=>match fl,k with
  | .nx,k=>ih k
  | .br,k=>k
  | .ct,k=>k
  | .rt _,k=>k) h
theorem b2n {p:Pos}{r:List Stmt}(h:KF .br ρ σ):evB mu Γ (.Break p::r) ρ G σ KF:=a49 h
theorem b69 {e:Expr}{p:Pos}{r:List Stmt}(h1:J5 e=true) (h:evE mu Γ e ρ G σ fun h σ1=>h=.none/\evB mu Γ r ρ G σ1 KF):evB mu Γ (.Expr e p::r) ρ G σ KF:=a7i h1 h
theorem m5 {x:Str}{q p:Pos}{e:Expr}{r:List Stmt}(h1:J5 e=true) (h2:nmB G x=true) (h:evE mu Γ e ρ G σ fun h σ1=>evB mu Γ r (upd ρ x h) G σ1 KF):evB mu Γ (.Assign [.Name x q] e p::r) ρ G σ KF:=a3f h1 h2 h
theorem b01 {x y:Str}{px py tp vp p:Pos}{k j:Nat}{a b:Expr}{r:List Stmt}(h1:b2h G x y px py a b=true) (h:evE mu Γ a ρ G σ fun h σ1=>evE mu Γ b ρ G σ1 fun k σ₂=>evB mu Γ r (upd (upd ρ y k) x h) G σ₂ KF) :
 evB mu Γ (.Assign [.Tuple [.Name x px,.Name y py] k tp] (.Tuple [a,b] j vp) p::r) ρ G σ KF:=a6q h1 h
theorem a90 {x:Str}{q p:Pos}{op:Operator}{e:Expr}{a:HV}{r:List Stmt}(h1:nmB G x=true) (ha:ρ x=some a) (h:evE mu Γ e ρ G σ fun b σ1=>c0b op a b σ1 fun h σ₂=>evB mu Γ r (upd ρ x h) G σ₂ KF):evB mu Γ (.AugAssign (.Name x q) op e p::r) ρ G σ KF:=b0f h1 ha h
theorem a9r {t:Expr}{b o r:List Stmt}{p:Pos}(h:evT mu Γ t ρ G σ fun c σ1=>if c then evB mu Γ (b.append r) ρ G σ1 KF else evB mu Γ (o.append r) ρ G σ1 KF):evB mu Γ (.If t b o p::r) ρ G σ KF:=
 b4a (b45 (fun c _ k=>by cases c;exact a9z _ k;exact a9z _ k) h)
theorem a84 {e:Expr}{p:Pos}{r:List Stmt}(h:evE mu Γ e ρ G σ fun h σ1=>KF (.rt h) ρ σ1):evB mu Γ (.Return (some e) p::r) ρ G σ KF:=b09 h
theorem b0h {t:Expr}{p:Pos}{r:List Stmt}(h:evT mu Γ t ρ G σ fun c σ1=>c=true/\evB mu Γ r ρ G σ1 KF):evB mu Γ (.Assert t none p::r) ρ G σ KF:=a2z h
theorem a1i {s:Stmt}{b r:List Stmt}(h:evB mu Γ (s::b.append r) ρ G σ KF):evB mu Γ ((s::b).append r) ρ G σ KF:=h
theorem a6w {r:List Stmt}(h:evB mu Γ r ρ G σ KF):evB mu Γ (List.append [] r) ρ G σ KF:=h
theorem a3l {b:List Stmt}{K0:KS}(h:∀ KF:KS,(∀ fl ρ σ,K0 fl ρ σ->KF fl ρ σ)->evB mu Γ b ρ G σ KF):evB mu Γ b ρ G σ K0:=h K0 fun _ _ _ k=>k
theorem c2a {K0 KF:KS}{fl:Fl}(h:∀ fl ρ σ,K0 fl ρ σ->KF fl ρ σ) (k:K0 fl ρ σ):KF fl ρ σ:=h _ _ _ k
theorem M2 {a:Addr}{sp:Spec}{hs:List HV}(e:Γ.f (.ref a)=some sp) (h:sp hs σ K):C5 Γ (.val (.ref a)) hs σ K:=by show (match Γ.f (.ref a) with | some sp=>sp hs σ K | none=>False);refine rr e ?_;exact h
theorem b36 {a:Addr}{sp:Spec}(e:Γ.f (.ref a)=some sp):a8w Γ (.val (.ref a))=true:=by show (Γ.f (.ref a)).isSome=true;refine rr e ?_;rfl
end
end
section
section
variable {prog:Program}{w:World}{A:Around}{E:Value->Shared->Prop}{B0:Heap}{os:OsState}{gs:TQ}{ω:Own}{s:Shared}{σ:St}{K:KV}
theorem c0t {value slice:Expr}{ho hi:HV}{o i:Value}(S:MS B0 os ω gs s) (R:RelS ω σ) (ra:Rd ω ho o) (rb:Rd ω hi i) (H:a5w ho hi σ K):wpAny (model prog w) A (PyProof.Rows.subscriptTail value slice o i) (PostV B0 os gs ω K) E s:=H A E ω s _ _ o i S R ra rb
end
section
variable {mu:Pos->Bool}{Γ:Spx}{ρ:Loc}{G:GC}{σ:St}{K:KV}
theorem V2 {b:Bool}{KB:Bool->Prop}(h:KB b):∃ c,P7 (.bool b) σ=some c/\KB c:=(j1 b rfl h)
theorem c3l {i:List Nat}{KB:Bool->Prop}(h:KB (!i.isEmpty)):∃ c,P7 (.str i) σ=some c/\KB c:=(j1 _ rfl h)
theorem c31 {a:Addr}{i:List HV}{KB:Bool->Prop}(e:σ a=some i) (h:KB (!i.isEmpty)):∃ c,P7 (.obj a) σ=some c/\KB c:=(j1 _ (congrArg (Option.map _) e) h)
theorem a02 {a:Addr}{x:HV}{l:List HV}(e:σ a=some l) (hz:l.length<sizeLine) (h:K .none (σ.put a (l++[x]))):C5 Γ (.bm a) [x] σ K:=(y7 l e hz h)
theorem D0 {a:Addr}{x:HV}{l:List HV}(e:σ a=some l) (hz:l.length<sizeLine) (h:K .none (σ.put a (l++[x]))):a6n (.obj a) (Str.ofString "append") [x] σ K:=by exact(y7 l e hz h)
theorem a2u {l:List Nat}{xs:HV}{ys:List HV}{ts:List (List Nat)}(e:K1 xs σ=some ys) (e2:V0 ys=some ts) (hz:(ts.map (fun t=>t.length+l.length)).sum<=sizeLine) (h:K (.str (l.intercalate ts)) σ):a6n (.str l) (Str.ofString "join") [xs] σ K:=by
 exact(M7 ys ts e e2 hz h)
theorem b21 {a:Addr}{l:List HV}(e:σ a=some l):rcv (Str.ofString "append") (.obj a) σ=true:=by dsimp only[rcv];simp[e]
theorem c0q {l:List Nat}:rcv (Str.ofString "join") (.str l) σ=true:=by dsimp only[rcv];(refine rr (if_neg (by decide)) ?_;exact rr (if_pos rfl) rfl)
theorem oi {i:Int}{P:Int->Prop}(h:P i):∃ j,HV.int i=.int j/\P j:=(j1 i rfl h)
theorem c53 {lo hi:Int}{P:List HV->Prop}(h:P ((List.range (hi-lo).toNat).map fun (k:Nat)=>HV.int (lo+(k:Int)))):∃ xs,I6 (.rng lo hi)=some xs/\P xs:=(j1 _ rfl h)
theorem c0i {l:List HV}{P:List HV->Prop}(h:P l):∃ xs,I6 (.list l)=some xs/\P xs:=(j1 _ rfl h)
theorem b8w {l acc:List Nat}{P:List Nat->Prop}(hz:acc.length+l.length<=sizeLine) (h:P l):∃ m,HV.str l=.str m/\acc.length+m.length<=sizeLine/\P m:=(y7 l rfl hz h)
theorem V1 {c:Prop}[Decidable c] {P Q:Prop}(h1:c->P) (h2:¬c->Q):if c then P else Q:=if h:c then (if_pos h).symm▸h1 h else (if_neg h).symm▸h2 h
theorem c33 {P Q:Prop}(h:P):if true=true then P else Q:=by exact h
theorem c48 {P Q:Prop}(h:Q):if false=true then P else Q:=by exact h
theorem o0 {σ:St}:within σ σ=σ:=by funext a;unfold within;cases σ a<;>rfl
theorem b3i {σ':St}{b:Bool}(h:K (.bool b) (within σ σ')):∃ h h',Fl.rt (.bool b)=.rt h/\frz σ σ' h=some h'/\K h' (within σ σ'):=(j7 _ _ rfl (by exact rfl) h)
theorem b74 {σ':St}{b:List Nat}(h:K (.str b) (within σ σ')):∃ h h',Fl.rt (.str b)=.rt h/\frz σ σ' h=some h'/\K h' (within σ σ'):=(j7 _ _ rfl (by exact rfl) h)
theorem at_nat {α:Type}{l:List α}{k:Nat}:at? l (k:Int)=l[k]?:=by rfl
end
section
variable {mu:Pos->Bool}{Γ:Spx}{ρ:Loc}{G:GC}{σ:St}{K:KV}{KB:Bool->St->Prop}{KL:List HV->St->Prop}{KF:KS}{l r e:Expr}{x y h:HV}{p:Pos}{hs:List HV}{es:List Expr}
structure AtE (ρ:Loc) (G:GC) (e:Expr) (h:HV):Prop where
 go:∀ mu Γ σ (K:KV),K h σ->evE mu Γ e ρ G σ K
structure AtO (ρ:Loc) (G:GC) (o:Option Expr) (i:Option Int):Prop where
 go:∀ mu Γ σ (K:Option Int->St->Prop),K i σ->evO mu Γ o ρ G σ K
structure AtL (ρ:Loc) (G:GC) (es:List Expr) (hs:List HV):Prop where
 go:∀ mu Γ σ (K:List HV->St->Prop),K hs σ->M5 mu Γ es ρ G σ K
noncomputable def atB (e:Expr):Bool:=e.ctorIdx==23||e.ctorIdx==19||e.ctorIdx==2||e.ctorIdx==16
theorem tt:true=true:=rfl
theorem c0j {n:Str}(g:Nat.ble p.line 99999=true) (e:ρ n=some h):AtE ρ G (.Name n p) h:=⟨fun _ _ _ _ k=>X5 e k⟩
theorem b5g {n:Str}(g:Nat.ble p.line 99999=true) (e:ρ n=none) (e2:G.g n=some h):AtE ρ G (.Name n p) h:=⟨fun _ _ _ _ k=>b22 e e2 k⟩
theorem c16 {i:Int}{k:Nat}:AtE ρ G (.Constant (.int i) k p) (.int i):=⟨fun _ _ _ _ k=>b83 k⟩
theorem b9z {n:Str}{k:Nat}(hz:Nat.ble n.cps.size 1000=true):AtE ρ G (.Constant (.str n) k p) (.str (v9 n)):=⟨fun _ _ _ _ k=>b3j hz k⟩
theorem b5k {k:Nat}:AtE ρ G (.Constant .none k p) .none:=⟨fun _ _ _ _ k=>b4j k⟩
theorem b6o {b:Bool}{k:Nat}:AtE ρ G (.Constant (.bool b) k p) (.bool b):=⟨fun _ _ _ _ k=>b2c k⟩
theorem c1i {i j:Int}(g:atB l=true) (g2:atB r=true) (a:AtE ρ G l (.int i)) (b:AtE ρ G r (.int j)):AtE ρ G (.BinOp l .Add r p) (.int (i+j)):=⟨fun _ _ _ _ k=>T9 (a.go _ _ _ _ (b.go _ _ _ _ (b9b k)))⟩
theorem b9d {i j:Int}(g:atB l=true) (g2:atB r=true) (a:AtE ρ G l (.int i)) (b:AtE ρ G r (.int j)):AtE ρ G (.BinOp l .Sub r p) (.int (i-j)):=⟨fun _ _ _ _ k=>T9 (a.go _ _ _ _ (b.go _ _ _ _ (b7q k)))⟩
theorem c3b:AtO ρ G none none:=⟨fun _ _ _ _ k=>k⟩
theorem c2o {i:Int}(g:atB e=true) (a:AtE ρ G e (.int i)):AtO ρ G (some e) (some i):=⟨fun m Γ σ _ k=>a.go m Γ σ _ ⟨_,rfl,k⟩⟩
theorem c5c:AtL ρ G [] []:=⟨fun _ _ _ _ k=>k⟩
theorem c1z (g:atB e=true) (a:AtE ρ G e h) (b:AtL ρ G es hs):AtL ρ G (e::es) (h::hs):=⟨fun _ _ _ _ k=>a.go _ _ _ _ (b.go _ _ _ _ k)⟩
theorem b6x {f:Str}{q:Pos}{n:List Nat}(h5:[e].all n8=true) (g:atB e=true) (e2:G.g f=some (.val (.builtin "len"))) (e1:ρ f=none) (a:AtE ρ G e (.str n)):AtE ρ G (.Call (.Name f q) [e] [] p) (.int n.length):=⟨fun m Γ σ K k=>U3 (mu:=m) (Γ:=Γ) h5 e1 e2 rfl (a.go m Γ σ _ (a46 (Γ:=Γ) k))⟩
theorem b6m {f:Str}{q:Pos}{n:List HV}(h5:[e].all n8=true) (g:atB e=true) (e2:G.g f=some (.val (.builtin "len"))) (e1:ρ f=none) (a:AtE ρ G e (.list n)):AtE ρ G (.Call (.Name f q) [e] [] p) (.int n.length):=⟨fun m Γ σ K k=>U3 (mu:=m) (Γ:=Γ) h5 e1 e2 rfl (a.go m Γ σ _ (a3h (Γ:=Γ) k))⟩
theorem b6j {f:Str}{q:Pos}{n:List UInt8}(h5:[e].all n8=true) (g:atB e=true) (e2:G.g f=some (.val (.builtin "len"))) (e1:ρ f=none) (a:AtE ρ G e (.bytes n)):AtE ρ G (.Call (.Name f q) [e] [] p) (.int n.length):=⟨fun m Γ σ K k=>U3 (mu:=m) (Γ:=Γ) h5 e1 e2 rfl (a.go m Γ σ _ (a13 (Γ:=Γ) k))⟩
theorem c0m {op:Operator}(g:atB l=true) (g2:atB r=true) (a:AtE ρ G l x) (b:AtE ρ G r y) (k:a0p op x y σ K):evE mu Γ (.BinOp l op r p) ρ G σ K:=T9 (a.go _ _ _ _ (b.go _ _ _ _ k))
theorem b9m {op:Operator}(g:atB l=true) (a:AtE ρ G l x) (k:evE mu Γ r ρ G σ fun y σ₂=>a0p op x y σ₂ K):evE mu Γ (.BinOp l op r p) ρ G σ K:=T9 (a.go _ _ _ _ k)
theorem b9q {op:CmpOp}(hm:behindInMarks op r=false) (g:atB l=true) (g2:atB r=true) (a:AtE ρ G l x) (b:AtE ρ G r y) (k:cmpH op x y σ K):evE mu Γ (.Compare l [op] [r] p) ρ G σ K:=b91 hm (a.go _ _ _ _ (b.go _ _ _ _ k))
theorem qa_T {op:CmpOp}(hm:behindInMarks op r=false) (g:atB l=true) (g2:atB r=true) (a:AtE ρ G l x) (b:AtE ρ G r y) (k:cmpH op x y σ fun h σ₃=>∃ c,P7 h σ₃=some c/\KB c σ₃):evT mu Γ (.Compare l [op] [r] p) ρ G σ KB:=a5d hm (a.go _ _ _ _ (b.go _ _ _ _ k))
theorem ql_T {op:CmpOp}(hm:behindInMarks op r=false) (g:atB l=true) (a:AtE ρ G l x) (k:evE mu Γ r ρ G σ fun y σ₂=>cmpH op x y σ₂ fun h σ₃=>∃ c,P7 h σ₃=some c/\KB c σ₃):evT mu Γ (.Compare l [op] [r] p) ρ G σ KB:=a5d hm (a.go _ _ _ _ k)
theorem b9t (hi:c0p r=true) (g:atB l=true) (g2:atB r=true) (a:AtE ρ G l x) (b:AtE ρ G r y) (k:a5w x y σ K):evE mu Γ (.Subscript l r p) ρ G σ K:=b3q hi (a.go _ _ _ _ (b.go _ _ _ _ k))
theorem c1m (hi:c0p r=true) (g:atB l=true) (a:AtE ρ G l x) (k:evE mu Γ r ρ G σ fun y σ₂=>a5w x y σ₂ K):evE mu Γ (.Subscript l r p) ρ G σ K:=b3q hi (a.go _ _ _ _ k)
theorem b39 {lo hi:Option Expr}{i j:Option Int}{q:Pos}(g:atB e=true) (a:AtE ρ G e x) (b:AtO ρ G lo i) (c:AtO ρ G hi j) (k:slH x i j σ K):evE mu Γ (.Subscript e (.Slice lo hi none q) p) ρ G σ K:=a9u (a.go _ _ _ _ (b.go _ _ _ _ (c.go _ _ _ _ k)))
theorem b0b {f:Str}{q:Pos}{v:HV}(h5:es.all n8=true) (e1:ρ f=none) (e2:G.g f=some v) (hc:a8w Γ v=true) (a:AtL ρ G es hs) (k:C5 Γ v hs σ K):evE mu Γ (.Call (.Name f q) es [] p) ρ G σ K:=U3 h5 e1 e2 hc (a.go _ _ _ _ k)
theorem b3u {f:Str}{q:Pos}{v:HV}(h5:es.all n8=true) (e1:ρ f=some v) (hc:a8w Γ v=true) (a:AtL ρ G es hs) (k:C5 Γ v hs σ K):evE mu Γ (.Call (.Name f q) es [] p) ρ G σ K:=a9h h5 e1 hc (a.go _ _ _ _ k)
theorem c0e {n:Nat}(h1:es.length<=1000) (h2:es.all n8=true) (a:AtL ρ G es hs) (k:K (.tup hs) σ):evE mu Γ (.Tuple es n p) ρ G σ K:=a9e h1 h2 (a.go _ _ _ _ k)
theorem b63 (hm:mu p=false) (h1:es.length<=1000) (h2:es.all n8=true) (a:AtL ρ G es hs) (k:K (.list hs) σ):evE mu Γ (.List es p) ρ G σ K:=U8 hm h1 h2 (a.go _ _ _ _ k)
theorem c5g (g:atB e=true) (a:AtE ρ G e h) (k:M5 mu Γ es ρ G σ fun hs σ₂=>KL (h::hs) σ₂):M5 mu Γ (e::es) ρ G σ KL:=a.go _ _ _ _ k
theorem b9n {n:Str}{q:Pos}{b:List Stmt}(h1:J5 e=true) (h2:nmB G n=true) (g:atB e=true) (a:AtE ρ G e h) (k:evB mu Γ b (upd ρ n h) G σ KF):evB mu Γ (.Assign [.Name n q] e p::b) ρ G σ KF:=m5 h1 h2 (a.go _ _ _ _ k)
theorem c1e {b:List Stmt}(g:atB e=true) (a:AtE ρ G e h) (k:KF (.rt h) ρ σ):evB mu Γ (.Return (some e) p::b) ρ G σ KF:=a84 (a.go _ _ _ _ k)
theorem c2p {i j:Int}(h:KB (i==j) σ):cmpH .Eq (.int i) (.int j) σ fun h σ₃=>∃ c,P7 h σ₃=some c/\KB c σ₃:=b8s (V2 h)
theorem c40 {i j:Int}(h:KB (i != j) σ):cmpH .NotEq (.int i) (.int j) σ fun h σ₃=>∃ c,P7 h σ₃=some c/\KB c σ₃:=b8j (V2 h)
theorem d_lt {i j:Int}(h:KB (decide (i<j)) σ):cmpH .Lt (.int i) (.int j) σ fun h σ₃=>∃ c,P7 h σ₃=some c/\KB c σ₃:=c3i (V2 h)
theorem d_gt {i j:Int}(h:KB (decide (j<i)) σ):cmpH .Gt (.int i) (.int j) σ fun h σ₃=>∃ c,P7 h σ₃=some c/\KB c σ₃:=c5i (V2 h)
theorem d_ge {i j:Int}(h:KB (decide (j<=i)) σ):cmpH .GtE (.int i) (.int j) σ fun h σ₃=>∃ c,P7 h σ₃=some c/\KB c σ₃:=c4q (V2 h)
theorem c2w {i j:List Nat}(h:KB (i==j) σ):cmpH .Eq (.str i) (.str j) σ fun h σ₃=>∃ c,P7 h σ₃=some c/\KB c σ₃:=b8l (V2 h)
theorem c1y {i j:List Nat}(h:KB (i != j) σ):cmpH .NotEq (.str i) (.str j) σ fun h σ₃=>∃ c,P7 h σ₃=some c/\KB c σ₃:=b2b (V2 h)
theorem gd_evE (k:evE mu Γ e ρ G σ K):evE mu Γ e ρ G σ K:=k
theorem gd_evB {b:List Stmt}(k:evB mu Γ b ρ G σ KF):evB mu Γ b ρ G σ KF:=k
theorem gd_evS {b:Stmt}(k:evS mu Γ b ρ G σ KF):evS mu Γ b ρ G σ KF:=k
theorem gd_evT (k:evT mu Γ e ρ G σ KB):evT mu Γ e ρ G σ KB:=k
theorem gd_cmpH {op:CmpOp}(k:cmpH op x y σ K):cmpH op x y σ K:=k
end
end
section
noncomputable def specials:List Nat:=[40,41,91,93,123,125,63,42,43,45,124,94,36,92,46,38,126,35,32,9,10,13,11,12]
noncomputable def a5l (c:Nat):List Nat:=if specials.contains c then [92,c] else [c]
noncomputable def prH (star:Addr):Option (List Nat)->HV
 | none=>.val (.ref star)
 | some s=>.str s
noncomputable def a47:Spec:=fun hs σ K=>∃ c,hs=[.str [c]]/\c<256/\K (.str (a5l c)) σ
theorem t9:v9 (Str.ofString "[")=[91]:=by kernel_rfl
theorem Z3 {α:Type}(l:List α) (i j:Nat):slc l (some (i:Int)) (some (j:Int))=(l.take j).drop i:=by
 unfold slc
 simp only[Option.elim]
 (refine rr (clipAt_nat ..) ?_;refine rr (clipAt_nat ..) ?_)
 refine rr List.drop_take ?_
 by_cases h:i<=l.length
 · rw[Nat.min_eq_left h]
   by_cases h2:j<=l.length
   · rw[Nat.min_eq_left h2]
   · rw[show min j l.length=l.length by exact c54 h2]
     rw[List.take_of_length_le (by rw[List.length_drop];exact Nat.le_refl _),List.take_of_length_le (by rw[List.length_drop];exact Nat.sub_le_sub_right (Nat.le_of_not_le h2) _)]
 · rw[show min i l.length=l.length by exact c54 h,List.drop_eq_nil_of_le (Nat.le_refl _),List.drop_eq_nil_of_le (ar5 h)];simp
theorem j5 {σ:St}{a b:Addr}{l:List HV}(h:b≠a):σ.put a l b=σ b:=if_neg h
theorem g0 {σ:St}{a:Addr}{l:List HV}:σ.put a l a=some l:=if_pos rfl
noncomputable def Ag (σ₀ σ:St):Prop:=∀ x,(σ₀ x).isSome=true->σ x=σ₀ x
theorem Ag.within {σ₀ σ:St}(h:Ag σ₀ σ):within σ₀ σ=σ₀:=by
 funext x
 unfold Mine.Internal.within
 induction q:σ₀ x with
 | none=>rfl
 | some l=>exact(if_pos rfl).trans ((h x (by refine rr q ?_;rfl)).trans q)
theorem a1y:v9 (Str.ofString "(?>.*?")=[40,63,62,46,42,63]:=by kernel_rfl
theorem a9y:v9 (Str.ofString ".*")=[46,42]:=by kernel_rfl
theorem b55:v9 (Str.ofString ")")=[41]:=by kernel_rfl
theorem N0:v9 (Str.ofString ".")=[46]:=by kernel_rfl
theorem T5:v9 (Str.ofString "(?s:")=[40,63,115,58]:=by kernel_rfl
theorem a01:v9 (Str.ofString ")\\Z")=[41,92,90]:=by kernel_rfl
noncomputable def sI (n:Nat):List Nat:=(Str.ofString (toString (n:Int))).cps.toList
noncomputable def w0:List Nat:=v9 (Str.ofString "not enough data in stream to read uint1")
noncomputable def w1 (n l:Nat):List Nat:=(((v9 (Str.ofString "expected ")++sI n)++v9 (Str.ofString " bytes in a string1, but only "))++sI l)++v9 (Str.ofString " remain")
theorem a5m (n:Nat) (h:n<=1000):(sI n).length<=10:=by
 have:∀ k:Nat,k<=1000->(Str.ofString (toString (k:Int))).cps.size<=10:=by decide +kernel
 exact this n h
end
section
section
variable {σ:St}{K:KV}
theorem c2h {a b:Bool}(h:K (.bool (a != b)) σ):cmpH .NotEq (.bool a) (.bool b) σ K:=fun _ _ _ _ _ _ A E ω s va vb Rm S R ra rb=>by
 subst ra;subst rb;exact PyProof.Rows.ne_bool (j6 S R w7 h)
theorem b9v {x a b:List Nat}(h:K (.bool ([a,b].contains x)) σ):cmpH .In (.str x) (.tup [.str a,.str b]) σ K:=fun _ _ _ _ _ _ A E ω s va vb Rm S R ra rb=>by
 (refine y5 ra fun _ t z148=>?_;clear ra;refine rr z148 ?_)
 (refine q9 (T1 S rb) fun _ d vs z144 ht r2=>?_;refine rr z144 ?_)
 exact PyProof.Rows.in_tuple_strs ht (a6x (l:=[a,b]) rfl r2) (j6 S R (by exact rr (a0c ..) rfl) h)
theorem c15 {x a b:Int}(h:K (.bool ([a,b].contains x)) σ):cmpH .In (.int x) (.tup [.int a,.int b]) σ K:=fun _ _ _ _ _ _ A E ω s va vb Rm S R ra rb=>by
 (refine o_e ra fun t z148=>?_;clear ra;refine rr z148 ?_)
 (refine q9 (T1 S rb) fun _ d vs z144 ht r2=>?_;refine rr z144 ?_)
 refine PyProof.Rows.in_tuple_ints ht (a3r (ns:=[a,b]) rfl r2) (j6 S R w7 ?_)
 refine rr (show ([a,b].any (·==x))=[a,b].contains x from by
  simp only[List.any_cons,List.any_nil,List.contains_cons,List.contains_nil,Bool.or_false]
  congr 1<;>exact BEq.comm) ?_;exact h
theorem c52 {c:Nat}{l:List Nat}(h:K (.bool (l.contains c)) σ):cmpH .In (.str [c]) (.str l) σ K:=fun _ _ _ _ _ _ A E ω s va vb Rm S R ra rb=>by
 (refine y5 ra fun _ t z124=>?_;clear ra;subst z124);(refine y5 rb fun _ u z120=>?_;clear rb;subst z120)
 refine PyProof.Rows.in_str (j6 S R w7 ?_)
 have e:=StrLaws.found_one ⟨l.toArray⟩ c
 refine rr e ?_;simpa using h
theorem a2j {c:Nat}{l:List Nat}(h:K (.bool (!l.contains c)) σ):cmpH .NotIn (.str [c]) (.str l) σ K:=fun _ _ _ _ _ _ A E ω s va vb Rm S R ra rb=>by
 (refine y5 ra fun _ t z124=>?_;clear ra;subst z124);(refine y5 rb fun _ u z120=>?_;clear rb;subst z120)
 refine PyProof.Rows.notIn_str (j6 S R w7 ?_)
 have e:=StrLaws.found_one ⟨l.toArray⟩ c
 refine rr e ?_;simpa using h
theorem c36 {a b:Nat}(h:K (.bool (decide (b<a))) σ):cmpH .Gt (.str [a]) (.str [b]) σ K:=fun _ _ _ _ _ _ A E ω s va vb Rm S R ra rb=>by
 (refine y5 ra fun _ t z124=>?_;clear ra;subst z124);(refine y5 rb fun _ u z120=>?_;clear rb;subst z120)
 refine P.gt_str (j6 S R w7 ?_)
 refine rr (show (decide ((⟨#[b]⟩:Str).cps.toList<(⟨#[a]⟩:Str).cps.toList))=decide (b<a) from by
  have:([b] < [a]) ↔ b<a:=⟨fun h=>by
   rcases List.cons_lt_cons_iff.mp h with h | ⟨_,h⟩
   · exact h
   · exact absurd h (List.not_lt_nil _),fun h=>List.cons_lt_cons_iff.mpr (.inl h)⟩
  exact decide_eq_decide.mpr this) ?_;exact h
theorem c5d {a:HV}{b:List HV}(h1:J3 8 a=true) (h2:J3 8 (.list b)=true) (hm:∀ y∈pyL b,SeqAt.noMix y (py a)=true) (h:K (.bool (decide (countIn (py a) (pyL b)≠0))) σ):cmpH .In a (.list b) σ K:=fun _ _ _ _ _ _ A E ω s va vb Rm S R ra rb=>by
 obtain⟨as,q1⟩:=K6 S 8 _ _ h1 ra
 obtain⟨bs,q2⟩:=K6 S 8 _ _ h2 rb
 exact PyProof.Rows.in_list_dataH q2 q1 (J7 h2) (J7 h1) (by have:=Rm.units;exact c2s this) hm (j6 S R w7 h)
theorem c5a {Γ:Spx}{i j:Int}(h:K (.int (max i j)) σ):C5 Γ (.val (.builtin "max")) [.int i,.int j] σ K:=show biH "max" [.int i,.int j] σ K from fun _ _ _ _ _ _ A E ω s vs Rm S R r=>by
 (refine d9 r.two fun v u z363 r1 r2=>?_;refine rr z363 ?_)
 obtain⟨t,rfl⟩:=r1;obtain⟨t2,rfl⟩:=r2
 refine max_two_ints Rm.handled fun h' tk hk=>?_
 refine a0n S R ?_ h hk tk
 by_cases c:j > i
 · (refine rr (if_pos c) ?_;refine rr (show max i j=j by exact Int.max_eq_right (Int.le_of_lt c)) ?_);exact⟨_,rfl⟩
 · (refine rr (if_neg c) ?_;refine rr (show max i j=i by exact Int.max_eq_left (Int.not_lt.mp c)) ?_);exact⟨_,rfl⟩
theorem b30 {Γ:Spx}{i:Int}(h0:0<=i) (h1:i<2 ^ 62) (h:K (.rngd i) σ):C5 Γ (.val (.type "range")) [.int i,.int 0,.int (-1)] σ K:=show tyH "range" [.int i,.int 0,.int (-1)] σ K from fun _ _ _ _ _ _ A E ω s vs Rm S R r=>by
 (refine d9 r fun v r1 z611 z612 z613=>?_;clear r;subst z611;obtain⟨t,rfl⟩:=z612;refine d9 z613 fun v2 r2 z614 z615 z616=>?_;refine rr z614 ?_;obtain⟨t2,rfl⟩:=z615;refine d9 z616 fun v3 r3 z617 z618 z619=>?_;refine rr z617 ?_;obtain⟨t3,rfl⟩:=z618;refine rr z619 ?_)
 refine call_range_3 (by decide) (J8 (h:=.rngd i) S R rfl (Y7 ⟨h0,h1⟩ _ ⟨_,_,_,rfl,Own.set_self ..⟩) h _) (.inl (PyProof.noPylong_small (c45)))
theorem b2l {Γ:Spx}{x:HV}{b:Bool}(hx:match x with | .list _=>b=true | .str _=>b=false | _=>False) (h:K (.bool b) σ):C5 Γ (.val (.builtin "isinstance")) [x,.val (.type "list")] σ K:=show biH "isinstance" [x,.val (.type "list")] σ K from fun _ _ _ _ _ _ A E ω s vs Rm S R r=>by
 (refine d9 r.two fun v u z363 r1 r2=>?_;refine rr z363 ?_)
 refine rr r2 ?_
 clear r;induction x using HV.casesOn with
 | list xs=>
  (refine q9 (G7 S r1) fun hz a us z660 z661 _=>?_;refine rr z660 ?_;refine u9 z661 fun o ho hc _=>?_)
  subst hx
  exact PySem.IsiPair.list_list ho hc (j6 S R w7 h)
 | str l=>
  (refine y5 r1 fun hz t z657=>?_;clear r1;refine rr z657 ?_)
  subst hx
  exact PySem.IsiPair.str_list (m9 S R w7 h _)
 | _=>exact hx.elim
section
variable {mu:Pos->Bool}{Γ:Spx}{ρ:Loc}{G:GC}
theorem a83 {o:Expr}{name:Str}{ap p:Pos}{args:List Expr}{id:String}(h1:∀ env x,attributeBase o name env x=x) (slot:Slot "str" name id) (hty:typeOf (.builtin id)=pure (.type "method_descriptor")) (h3:ap.endLine=p.line) (h4:args.length<=20) (h5:args.all n8=true)
 (h:evE mu Γ o ρ G σ fun a σ1=>∃ l,a=.str l/\M5 mu Γ args ρ G σ1 fun hs σ₂=>biH id (.str l::hs) σ₂ K):evE mu Γ (.Call (.Attribute o name ap) args [] p) ρ G σ K:=fun prog w B0 os gs mg mb n T X A E ω s env Rm O S R=>by
 refine wpAny_Call_method (T:="str") (id:=id) (h1 _ _) (M1 args env h5 h4 p) (by refine rr h3 ?_;simp) F.plainAttrs_str slot hty (j4 (h T X A E ω s env Rm O S R) fun a ω₁ σ1 va s₁ l₁ S₁ R₁ r₁ H₁=>?_)
 obtain⟨l,rfl,H₁⟩:=H₁
 have r1':=r₁
 simp only[Rd] at r1'
 (refine y5 r1' fun hz t z67=>?_;clear r1';subst z67)
 refine(A8 (typeIs_str _ _ _) (fun a e=>(by contradiction)) ?_)
 refine rr (j2 p args env h5) ?_
 refine callWith_builtin (d8 args env) (p7 (d8 args env) (D2 (a8j T X _ A E ω₁ s₁ σ1 _ env ρ G Rm (O.mono l₁) S₁ R₁ H₁) fun ys ω₂ σ₂ us s₂ l₂ S₂ R₂ r₂ hn H₂=>?_))
 exact U1 (H₂ A E ω₂ s₂ (_::us) Rm S₂ R₂ (j7 _ _ rfl (r₁.mono l₂) r₂)) (l₁.trans l₂)
end
theorem b0i {c:Nat}(h:K (.bool (Unicode.isAlnum c)) σ):biH "str.isalnum" [.str [c]] σ K:=fun _ _ _ _ _ _ A E ω s vs Rm S R r=>by
 (refine c9 r.one fun v z389 q=>?_;refine rr z389 ?_)
 (refine y5 q fun _ t z396=>?_;clear q;refine rr z396 ?_)
 refine SC.isalnum (j6 S R w7 ?_)
 refine rr (show Txt.isalnum ⟨#[c]⟩=Unicode.isAlnum c from by simp[Txt.isalnum,Str.length]) ?_;exact h
end
end
section
structure Stk (ω:Own) (A:Around) (l:List Env):Prop where
 frames:A.frames=some l
 ok:∀ env∈l,env.scope.kind≠.module/\∃ L m,env.frame=some L/\ω L=some (.ns m)
noncomputable abbrev frs (l:List Env):List Addr:=l.filterMap (·.frame)
theorem Stk.mono {ω ω':Own}{A:Around}{l:List Env}(K:Stk ω A l) (x:LeW ω ω'):Stk ω' A l:=
 ⟨K.frames,fun env h=>by refine G0 (K.ok env h) fun k L m h1 h2=>?_;exact(u5 k L m h1 (x _ _ h2 rfl))⟩
theorem Stk.at {ω:Own}{A:Around}{l:List Env}(K:Stk ω A l){b:Addr}(h:b∈frs l):∃ m,ω b=some (.ns m):=by
 refine c9 (List.mem_filterMap.mp h) fun env h1 h2=>?_
 refine G0 (K.ok env h1) fun _ L m h3 h4=>?_
 rw[h3] at h2;refine Option.some.inj h2▸?_;exact⟨m,h4⟩
section
variable {B0:Heap}{os:OsState}{gs:TQ}{ω:Own}{s:Shared}
theorem X4 {h:Heap}{a:Addr}{m:Str->Option Value}(n:h.Ns a m):∃ o,h.get? a=some o/\∀ vs,o.data≠.fields vs:=by
 refine M8 n fun o es ep h1 h2 _=>?_
 exact(j1 o h1 (fun vs q=>by rw[h2] at q;contradiction))
theorem a2o (S:MS B0 os ω gs s){as:List Addr}:∀ {l:List Env},(∀ env∈l,env.scope.kind≠.module/\∃ L m,env.frame=some L/\ω L=some (.ns m))->(∀ b∈frs l,b∈as)->s.heap.FunFrames (hideAll s.heap as) l:=by
 intro xs0
 induction xs0 with
 | nil=>
  exact @fun _ _=>trivial
 | cons env r ih=>
  exact @fun hk ha=>by
   refine G0 (hk env (.head _)) fun k L m h1 h2=>?_
   refine c9 (X4 (S.hold _ _ h2)) fun o h3 h4=>?_
   refine(A8 k ((M7 L o h1 (hideAll_none _ (ha L (List.mem_filterMap.mpr (j1 env (.head _) h1)))) h3 h4)) (ih (fun e he=>hk e (.tail _ he)) fun b hb=>ha b ?_))
   refine c9 (List.mem_filterMap.mp hb) fun e he hf=>?_
   exact List.mem_filterMap.mpr (j1 e (.tail _ he) hf)
theorem b3x (S:MS B0 os ω gs s){b:Addr}(h:s.heap.get? b=none):B0.get? b=none:=by
 induction q:B0.get? b with
 | none=>rfl
 | some o=>refine o_e (S.old.there b o q) fun o' h'=>?_;rw[h] at h';exact c7 h'
theorem b3o (S:MS B0 os ω gs s){b:Addr}{m:Str->Option Value}(h:ω b=some (.ns m)):B0.get? b=none:=Heap.get?_none_of_le (S.lo _ _ h rfl)
theorem MS.apart (S:MS B0 os ω gs s){as:List Addr}{h':Heap}(hst:(hideAll s.heap as).StaysIn h') (hup:s.heap.UpToSlots h') (has:∀ b∈as,ω b=none\/∃ m,ω b=some (.ns m)) (hlo:∀ b∈as,B0.get? b=none) (t:Nat) :
 MS B0 os ω gs { s with heap:=h',toks:=t }:=by
 have keep:∀ b o,b ∉ as->s.heap.get? b=some o->h'.get? b=some o:=fun b o hb x=>hst b o (hideAll_get _ x hb)
 refine { S with hold:=fun a m e=>?_,old:=?_ }
 · by_cases ha:a∈as
   · rcases has a ha with q | ⟨m',q⟩
     · rw[q] at e;exact c7 e
     · rw[q] at e;(replace e:=Option.some.inj e;subst e)
       exact hup.ns (S.hold _ _ q)
   · exact(S.hold a m e).keep fun ob x=>keep a ob ha x
 · have ne:∀ b o,B0.get? b=some o->b ∉ as:=fun b o e q=>by rw[hlo b q] at e;exact c7 e
   refine⟨fun b o e=>?_,fun b o e=>let ⟨o',ho'⟩:=S.old.there b o e;⟨o',keep b o' (ne b o e) ho'⟩⟩
   rcases S.old.old b o e with x | ⟨t,hc,vs,more,hv,x⟩ | ⟨rfl,hc,⟨o',es,n,ho',r⟩,z⟩
   · exact .inl (keep b _ (ne b o e) x)
   · exact .inr (.inl ⟨t,hc,vs,more,hv,keep b _ (ne b o e) x⟩)
   · exact .inr (.inr (Q5 rfl hc ((I5 o' es n ((keep _ _ (ne _ o e) ho')) r)) (fun key=>by refine rr (OldK.staticOf_congr ((keep _ _ (ne _ o e) ho').trans ho'.symm) key) ?_;exact z key)))
inductive Fly (B0:Heap) (ω:Own) (h:Heap) (e:Addr) (cls:String) (t:Addr) (fl:Value):Prop
 | mk:∀ oe vs T oT ts,(h.get? e=some oe)->((oe.cls=.type cls/\vs[0]? = some (.ref t)))->(oe.data=.fields vs)->(vs[1]? = some (.ref T))->(T≠e)->(h.get? T=some oT)->(oT.data=.fields ts)->(ts[3]? = some fl)->(ω e=none)->(ω T=none)->(B0.get? e=none)->(B0.get? T=none)->Fly B0 ω h e cls t fl
theorem Fly.flying {A:Around}{l:List Env}(S:MS B0 os ω gs s) (K:Stk ω A l){e t:Addr}{cls:String}{fl:Value}(F:Fly B0 ω s.heap e cls t fl) :
 ∃ as,(hideAll s.heap as).StaysIn s.heap/\(hideAll s.heap as).get? e=none/\s.heap.FunFrames (hideAll s.heap as) l/\s.heap.TracedAtW (hideAll s.heap as) e (.type cls) (.ref t) fl/\
  (∀ b∈as,ω b=none\/∃ m,ω b=some (.ns m))/\(∀ b∈as,B0.get? b=none):=by
 obtain⟨oe,vs,T,oT,ts,h1,h2,h3,h4,h5,h6,h7,h8,h9,h10,h11,h12⟩:=F
 refine(N6 (e::T::frs l) (fun b o q=>of_hideAll _ q) (hideAll_none _ (.head _)) (a2o S K.ok fun b hb=>.tail _ (.tail _ hb)) ((D4 oe vs T oT (N6 ts h1 h2 h3 h4 ⟨hideAll_none _ (.tail _ (.head _)),h5,h6,h7,h8⟩))) ⟨fun b hb=>?_,fun b hb=>?_⟩)
 · refine Or.elim (List.mem_cons.mp hb) (fun z291=>?_) fun hb=>?_
   · refine rr z291 ?_;exact .inl h9
   · rcases List.mem_cons.mp hb with rfl | hb
     · exact .inl h10
     · exact .inr (K.at hb)
 · refine Or.elim (List.mem_cons.mp hb) (fun z173=>?_) fun hb=>?_
   · refine rr z173 ?_;exact h11
   · rcases List.mem_cons.mp hb with rfl | hb
     · exact h12
     · refine o_e (K.at hb) fun m hm=>?_
       exact b3o S hm
theorem Fly.back {as:List Addr}{h':Heap}(S:MS B0 os ω gs s) (hst:(hideAll s.heap as).StaysIn h') (hup:s.heap.UpToSlots h') (has:∀ b∈as,ω b=none\/∃ m,ω b=some (.ns m)) (hlo:∀ b∈as,B0.get? b=none)
 {e t:Addr}{cls:String}{fl:Value}(he:(hideAll s.heap as).get? e=none) (hoe:ω e=none) (hBe:B0.get? e=none) (T:h'.TracedAtW (hideAll s.heap as) e (.type cls) (.ref t) fl):Fly B0 ω h' e cls t fl:=by
 (refine J4 T fun oe vs T oT ts z329=>?_;refine E8 z329 fun h1 h2 h3 h4 h5 h6 z330=>?_;refine M4 z330 fun h7 h8 h9=>?_)
 have gone:∀ b o,(hideAll s.heap as).get? b=none->s.heap.get? b=some o->b∈as:=fun b o q x=>by
  apply Classical.byContradiction
  intro hb
  rw[hideAll_get _ x hb] at q;exact B5 q
 have hTB:B0.get? T=none:=by
  induction q:B0.get? T using Option.casesOn with
  | none=>rfl
  | some o=>
    obtain⟨o',ho'⟩:=S.old.there T o q
    rw[hlo T (gone T o' h5 ho')] at q;exact c7 q
 have hTo:ω T=none:=by
  induction q:ω T using Option.casesOn with
  | none=>rfl
  | some m=>
    exfalso
    have hh:=S.hold _ _ q
    induction g:s.heap.get? T using Option.casesOn with
    | none=>
      have:∃ o,s.heap.get? T=some o:=by
       clear q;induction m using OM.casesOn with
       | fz o=>exact⟨o,hh⟩
       | lst vs=>obtain⟨n,ho⟩:=hh;exact⟨_,ho⟩
       | hid vs=>obtain⟨n,ho⟩:=hh;exact⟨_,ho⟩
       | ns m=>refine S0 hh fun o es ep ho _=>?_;exact⟨_,ho⟩
       | cell v=>refine c9 hh fun o ho _=>?_;exact⟨_,ho⟩
       | tab qs ps=>exact⟨_,hh⟩
       | ex o=>exact⟨_,hh⟩
       | it k=>refine c9 (ItK.Holds.obj hh) fun o ho _=>?_;exact⟨_,ho⟩
      obtain⟨o,ho⟩:=this
      rw[g] at ho;exact c7 ho
    | some o=>
      rcases has T (gone T o h5 g) with x | ⟨m',x⟩
      · rw[x] at q;exact c7 q
      · rw[x] at q;refine c9 (X4 (hup.ns (S.hold _ _ x))) fun o2 g2 d2=>?_
        rw[h7] at g2;(replace g2:=Option.some.inj g2;subst g2)
        exact d2 _ h8
 exact⟨oe,vs,T,oT,ts,h1,h2,h3,h4,h6,h7,h8,h9,hoe,hTo,hBe,hTB⟩
theorem Fly.parts {h:Heap}{e t:Addr}{cls:String}{fl:Value}(F:Fly B0 ω h e cls t fl):ω e=none/\B0.get? e=none:=by
 obtain⟨_,_,_,_,_,_,_,_,_,_,_,_,_,h1,_,h2,_⟩:=F
 exact⟨h1,h2⟩
section
variable {M:Model}{A:Around}{E:Value->Shared->Prop}{env:Env}{outer l:List Env}{L e t:Addr}{cls:String}{fl:Value}{Q:Unit->Shared->Prop}
theorem a6h (S:MS B0 os ω gs s) (K:Stk ω A (env::outer)) (hf:env.frame=some L) (F:Fly B0 ω s.heap e cls t .none)
 (H:∀ h',MS B0 os ω gs { s with heap:=h' }->Fly B0 ω h' e cls t .none->Q () { s with heap:=h' }):wpAny M A (leaving env (.ref e)) Q E s:=by
 refine Z7 (F.flying S K) fun as h1 h2 h3 h4 h5 h6=>?_
 exact wpAny_leaves_onW K.frames hf (Q5 h1 h2 h3 h4) fun h' x1 x2=>H h' (S.apart x1.1 x2 h5 h6 s.toks) (Fly.back S x1.1 x2 h5 h6 h2 F.parts.1 F.parts.2 x1.2.2.2.at)
theorem b04 (S:MS B0 os ω gs s) (K:Stk ω A (env::outer)) (hf:env.frame=some L) (F:Fly B0 ω s.heap e cls t .none)
 (H:∀ h',MS B0 os ω gs { s with heap:=h' }->Fly B0 ω h' e cls t (rawInt L)->Q () { s with heap:=h' }):wpAny M A (noteFrame (.ref e) env) Q E s:=by
 refine Z7 (F.flying S K) fun as h1 h2 h3 h4 h5 h6=>?_
 exact wpAny_looks_onW K.frames hf (Q5 h1 h2 h3 h4) fun h' x1 x2=>H h' (S.apart x1.1 x2 h5 h6 s.toks) (Fly.back S x1.1 x2 h5 h6 h2 F.parts.1 F.parts.2 x1.2.2.2)
theorem a7z (S:MS B0 os ω gs s) (K:Stk ω A l) (F:Fly B0 ω s.heap e cls t fl)
 (H:∀ h',MS B0 os ω gs { s with heap:=h' }->Fly B0 ω h' e cls t .none->Q () { s with heap:=h' }):wpAny M A (setFlight (.ref e) none) Q E s:=by
 refine Z7 (F.flying S K) fun as h1 h2 h3 h4 h5 h6=>?_
 exact wpAny_setFlight_noneW h1 h3 h4 fun h' x1 x2 x3 x4=>by
  exact H h' (S.apart x1 (fun b o hb hn=>⟨o.slots,x4 b o hb hn⟩) h5 h6 s.toks) (Fly.back S x1 (fun b o hb hn=>⟨o.slots,x4 b o hb hn⟩) h5 h6 h2 F.parts.1 F.parts.2 x3.at)
theorem a35 (S:MS B0 os ω gs s) (K:Stk ω A l) (hf:env.frame=some L) (F:Fly B0 ω s.heap e cls t (rawInt L))
 (H:∀ h',MS B0 os ω gs { s with heap:=h' }->Fly B0 ω h' e cls t .none->Q () { s with heap:=h' }):wpAny M A (leaving env (.ref e)) Q E s:=by
 refine Z7 (F.flying S K) fun as h1 h2 h3 h4 h5 h6=>?_
 exact wpAny_bind (wpAny_noteFrame_againW hf h4 (a7z S K F H))
theorem b1p (S:MS B0 os ω gs s) (hf:env.frame=some L) (F:Fly B0 ω s.heap e cls t fl)
 (H:∀ h',MS B0 os ω gs { s with heap:=h' }->Fly B0 ω h' e cls t (rawInt L)->E (.ref e) { s with heap:=h' }):cameBackBy M A env E (.ref e) s:=by
 obtain⟨oe,vs,T,oT,ts,h1,h2,h3,h4,h5,h6,h7,h8,h9,h10,h11,h12⟩:=F
 dsimp only[cameBackBy]
 refine wpAny_bind (wpAny_field h1 h3 h4 ?_)
 refine wpAny_bind (wpAny_field h1 h3 h4 ?_)
 (refine rr (if_pos (show (Value.ref T != Value.none)=true from by rfl)) ?_;refine rr hf ?_)
 have other:∀ b,b≠T->(s.heap.update T (Obj.mapFields (·.setIfInBounds 3 ((some L:Option Addr).elim Value.none fun f=>rawInt f)))).get? b=s.heap.get? b:=fun b hb=>Heap.get?_update_other _ _ (Ne.symm hb)
 refine wpAny_setField h6 h7 ((Array.getElem?_eq_some_iff.mp h8).1) (H _ (S.apart (fun b o q=>by
  by_cases hb:b=T
  · clear other h12 h10 h6 h5 h4;subst hb;rw[hideAll_none _ (.head _)] at q;exact c7 q
  · refine rr (other b hb) ?_;exact of_hideAll _ q:(hideAll s.heap [T]).StaysIn (s.heap.update T (Obj.mapFields (·.setIfInBounds 3 ((some L:Option Addr).elim Value.none fun f=>rawInt f))))) (fun b o hb hn=>by
  refine⟨o.slots,?_⟩
  refine rr (other b (fun q=>by clear other h12 h10 h5 h4;subst q;rw[h6] at hb;(replace hb:=Option.some.inj hb;subst hb);exact hn _ h7)) ?_;exact hb) (fun b hb=>by refine rr (List.mem_singleton.mp hb) ?_;exact .inl h10) (fun b hb=>by refine rr (List.mem_singleton.mp hb) ?_;exact h12) s.toks) ?_)
 exact⟨oe,vs,T,_,_,(other e (Ne.symm h5)).trans h1,h2,h3,h4,h5,Heap.get?_update_self _ h6 (Obj.isFreed_of_fields (Obj.data_mapFields h7 _)),Obj.data_mapFields h7 _,by simp[((Array.getElem?_eq_some_iff.mp h8).1)],h9,h10,h11,h12⟩
theorem a2q {h : Heap} {vs : List Value} (S : MS B0 os ω gs { s with heap := h }) (K : Stk ω A (env :: outer)) (hf : env.frame = some L) (hx : Heap.MadeExcOf h s.heap e (.type cls) vs)
    (H : ∀ h' t o n, ω t = none -> o.cls = .type "tuple" -> o.data = .seq vs.toArray n -> MS B0 os (ω.set t (.fz o)) gs { s with heap := h' } -> Fly B0 (ω.set t (.fz o)) h' e cls t .none -> Q () { s with heap := h' }) : wpAny M A (leaving env (.ref e)) Q E s := by
  have hff := a2o S (as := frs (env :: outer)) K.ok fun b hb => hb
  have has : ∀ b ∈ frs (env :: outer), ω b = none ∨ ∃ m, ω b = some (.ns m) := fun b hb => .inr (K.at hb)
  have hlo : ∀ b ∈ frs (env :: outer), B0.get? b = none := fun b hb => by refine o_e (K.at hb) fun m hm => ?_; exact b3o S hm
  refine wpAny_leaves_madeW K.frames hf (fun b o q => of_hideAll _ q : (hideAll h (frs (env :: outer))).StaysIn h) hff hx fun h' t x1 x2 x3 x4 => ?_
  (refine d9 x2 fun o n ht hc hd => ?_; clear x2)
  have hup : h.UpToSlots h' := (Heap.UpToSlots.of_keeps hx.keeps).trans x4
  have S₁ : MS B0 os ω gs { s with heap := h' } := S.apart (s := { s with heap := h }) x1.1 hup has hlo s.toks
  have hto : ω t = none := by
    induction q : ω t using Option.casesOn with
    | none => rfl
    | some m =>
      exfalso
      by_cases hb : t ∈ frs (env :: outer)
      · refine o_e (K.at hb) fun m' hm' => ?_
        refine M8 (S₁.hold _ _ hm') fun o2 es ep g2 d2 _ => ?_
        rw [ht] at g2; (replace g2 := Option.some.inj g2; subst g2)
        rw [hd] at d2; contradiction
      · have : ∃ o, h.get? t = some o := by
          have hh := S.hold _ _ q
          induction m using OM.casesOn with
          | fz o => exact ⟨o, hh⟩
          | lst vs => obtain ⟨n, ho⟩ := hh; exact ⟨_, ho⟩
          | hid vs => obtain ⟨n, ho⟩ := hh; exact ⟨_, ho⟩
          | ns m => refine S0 hh fun o es ep ho _ => ?_; exact ⟨_, ho⟩
          | cell v => refine c9 hh fun o ho _ => ?_; exact ⟨_, ho⟩
          | tab qs ps => exact ⟨_, hh⟩
          | ex o => exact ⟨_, hh⟩
          | it k => refine c9 (ItK.Holds.obj hh) fun o ho _ => ?_; exact ⟨_, ho⟩
        obtain ⟨o2, ho2⟩ := this
        rw [(fun b o hb x => hideAll_get _ x hb) t o2 hb ho2] at x3; contradiction
  have F1 : Fly B0 ω h' e cls t .none := Fly.back (s := { s with heap := h }) S x1.1 hup has hlo x1.2.1 (show ω e = none from by
    induction q : ω e using Option.casesOn with
    | none => rfl
    | some m =>
      exfalso
      have : ∃ o, h.get? e = some o := by
        have hh := S.hold _ _ q
        induction m using OM.casesOn with
        | fz o => exact ⟨o, hh⟩
        | lst vs => obtain ⟨n, ho⟩ := hh; exact ⟨_, ho⟩
        | hid vs => obtain ⟨n, ho⟩ := hh; exact ⟨_, ho⟩
        | ns m => refine S0 hh fun o es ep ho _ => ?_; exact ⟨_, ho⟩
        | cell v => refine c9 hh fun o ho _ => ?_; exact ⟨_, ho⟩
        | tab qs ps => exact ⟨_, hh⟩
        | ex o => exact ⟨_, hh⟩
        | it k => refine c9 (ItK.Holds.obj hh) fun o ho _ => ?_; exact ⟨_, ho⟩
      obtain ⟨o, ho⟩ := this
      rw [hx.new] at ho; exact c7 ho) (b3x S hx.new) x1.2.2.2.at
  have hte : t ≠ e := fun q => by
    obtain ⟨oe, vs, _, _, _, g1, _, g3, _⟩ := F1
    rw [q, g1] at ht; (replace ht := Option.some.inj ht; clear hc; subst ht); rw [hd] at g3; contradiction
  have S₂ : MS B0 os (ω.set t (.fz o)) gs { s with heap := h' } := by
    refine { S₁ with hold := fun b m e => ?_, lo := fun b m e hf => ?_, tabs := S₁.tabs_set (fun o q => by rw [hto] at q; exact c7 q) rfl, tq := S₁.tq_set _ (fun o ps q => by rw [hto] at q; exact c7 q) }
    · unfold Own.set at e
      (revert e; refine ie rfl (fun _ e => ?_) fun _ e => ?_)
      · rename_i q; refine rr q ?_; (replace e := Option.some.inj e; subst e); exact ht
      · exact S₁.hold _ _ e
    · unfold Own.set at e
      (revert e; refine ie rfl (fun _ e => ?_) fun _ e => ?_)
      · (replace e := Option.some.inj e; subst e); exact B2 hf
      · exact S₁.lo _ _ e hf
  refine H h' t o n hto hc hd S₂ ?_
  obtain ⟨oe, vs, T, oT, ts, h1, h2, h3, h4, h5, h6, h7, h8, h9, h10, h11, h12⟩ := F1
  exact ⟨oe, vs, T, oT, ts, h1, h2, h3, h4, h5, h6, h7, h8, by refine rr (Own.set_ne _ _ (Ne.symm hte)) ?_; exact h9, by refine rr (Own.set_ne _ _ (fun q => by cases q; rw [h6] at ht; (replace ht := Option.some.inj ht; clear S₂ hc; subst ht); rw [hd] at h7; contradiction)) ?_; exact h10, h11, h12⟩
end
end
end
section
noncomputable def Keeps (ω ω':Own):Prop:=∀ a m,ω a=some m->(∀ vs,m≠.hid vs)->ω' a=some m
theorem Keeps.refl (ω:Own):Keeps ω ω:=fun _ _ e _=>e
theorem Keeps.trans {ω₁ ω₂ ω₃:Own}(x:Keeps ω₁ ω₂) (y:Keeps ω₂ ω₃):Keeps ω₁ ω₃:=fun a m e h=>y a m (x a m e h) h
theorem Keeps.new {ω:Own}{a:Addr}(m:OM) (h:ω a=none):Keeps ω (ω.set a m):=fun b o e _=>by
 refine rr (Own.set_ne _ _ (fun q=>by subst q;rw[h] at e;exact c7 e)) ?_;exact e
theorem Keeps.f {ω ω':Own}(x:Keeps ω ω'):LeF ω ω':=fun a o e=>x a _ e (fun _ q=>by contradiction)
theorem Keeps.rel {ω ω':Own}(x:Keeps ω ω'){σ:St}(R:RelS ω σ):RelS ω' σ:=fun a xs e=>by
 refine D9 (R a xs e) fun hz vs h1 h2=>?_
 exact(X8 hz vs (x _ _ h1 (fun _ q=>by contradiction)) (h2.monoF x.f))
noncomputable abbrev KG:=HV->Own->St->TQ->Prop
noncomputable abbrev KXG:=String->List Nat->Own->St->TQ->Prop
inductive ArgsAt (ω:Own) (t:Addr) (msg:List Nat):Prop
 | mk:(msg.length<=sizeLine)->∀ o n tk,(ω t=some (.fz o))->(o.cls=.type "tuple")->(o.data=.seq #[.str ⟨msg.toArray⟩ tk] n)->ArgsAt ω t msg
theorem ArgsAt.monoF {ω ω':Own}(x:LeF ω ω'){t:Addr}{msg:List Nat}(A:ArgsAt ω t msg):ArgsAt ω' t msg:=by
 obtain⟨hz,o,n,tk,h1,h2,h3⟩:=A;exact⟨hz,o,n,tk,x _ _ h1,h2,h3⟩
section
variable (B0:Heap) (os:OsState)
inductive J0 (ω:Own) (K:KG) (v:Value) (s':Shared):Prop
 | mk:∀ h ω' σ' gs',(Le ω ω')->(MS B0 os ω' gs' s')->(RelS ω' σ')->(Rd ω' h v)->(K h ω' σ' gs')->J0 ω K v s'
inductive RaisG (ω:Own) (KX:KXG) (e:Value) (s':Shared):Prop
 | mk:∀ a ω' σ' gs' cls msg t,(e=.ref a)->(Le ω ω')->(MS B0 os ω' gs' s')->(RelS ω' σ')->(Fly B0 ω' s'.heap a cls t .none)->(ArgsAt ω' t msg)->(KX cls msg ω' σ' gs')->RaisG ω KX e s'
inductive a6i (env:Env) (ω:Own) (K:KG) (f:Flow) (s':Shared):Prop
 | mk:∀ v h ω' σ' gs',(f=.ret v)->(LeS env.locals ω ω')->(MS B0 os ω' gs' s')->(RelS ω' σ')->(Rd ω' h v)->(K h ω' σ' gs')->a6i env ω K f s'
inductive a2c (env:Env) (ω:Own) (KX:KXG) (e:Value) (s':Shared):Prop
 | mk:∀ a ω' σ' gs' cls msg,(e=.ref a)->(LeS env.locals ω ω')->((∃ m,ω' env.locals=some (.ns m)))->(RelS ω' σ')->(KX cls msg ω' σ' gs')->(((MS B0 os ω' gs' s'/\∃ t fl,(fl=.none\/fl=rawInt env.locals)/\Fly B0 ω' s'.heap a cls t fl/\ArgsAt ω' t msg)\/(∃ h tk,MS B0 os ω' gs' { s' with heap:=h }/\Heap.MadeExcOf h s'.heap a (.type cls) [.str ⟨msg.toArray⟩ tk]/\msg.length<=sizeLine)))->a2c env ω KX e s'
end
noncomputable def a1w (K:KG):Prop:=∀ h ω ω' σ gs,Keeps ω ω'->K h ω σ gs->K h ω' σ gs
noncomputable def K3 (K:KXG):Prop:=∀ c m ω ω' σ gs,Keeps ω ω'->K c m ω σ gs->K c m ω' σ gs
section
variable {B0:Heap}{os:OsState}{s s':Shared}
theorem RaisG.up {ω ω₁:Own}{K:KXG}{v:Value}(p:RaisG B0 os ω₁ K v s) (l:Le ω ω₁):RaisG B0 os ω K v s:=by
 obtain⟨a,ω',σ',gs',c,m,t,e,l',r1,r2,r3,r4,r5⟩:=p;exact⟨a,ω',σ',gs',c,m,t,e,l.trans l',r1,r2,r3,r4,r5⟩
theorem RaisG.thr {env:Env}{ω:Own}{K:KXG}{e:Value}{m₀:Str->Option Value}(p:RaisG B0 os ω K e s) (hL:ω env.locals=some (.ns m₀)):a2c B0 os env ω K e s:=by
 obtain⟨a,ω',σ',gs',c,m,t,e,l',S,R,F,A,k⟩:=p
 exact⟨a,ω',σ',gs',c,m,e,l'.s _,⟨m₀,l' _ _ hL⟩,R,k,.inl (u5 S t .none (.inl rfl) ⟨F,A⟩)⟩
theorem Stk.step {ω ω':Own}{A:Around}{l:List Env}{L:Addr}(K:Stk ω A l) (x:LeS L ω ω'){m:Str->Option Value}(h:ω' L=some (.ns m)):Stk ω' A l:=by
 refine⟨K.frames,fun e he=>?_⟩
 refine G0 (K.ok e he) fun k L' m' h1 h2=>?_
 by_cases q:L'=L
 · exact⟨k,L',m,h1,by refine rr q ?_;exact h⟩
 · exact⟨k,L',m',h1,x _ _ q h2⟩
theorem a0b {M:Model}{A:Around}{env:Env}{outer:List Env}{ω:Own}{KX:KXG}{e:Value}{Q:Unit->Shared->Prop}{E:Value->Shared->Prop}(hX:K3 KX) (K:Stk ω A (env::outer)) (hf:env.frame=some env.locals) (H:a2c B0 os env ω KX e s)
 (hQ:∀ s' a ω' σ' gs' cls msg t,e=.ref a->LeS env.locals ω ω'->MS B0 os ω' gs' s'->RelS ω' σ'->Fly B0 ω' s'.heap a cls t .none->ArgsAt ω' t msg->KX cls msg ω' σ' gs'->Q () s'):wpAny M A (leaving env e) Q E s:=by
 obtain⟨a,ω',σ',gs',cls,msg,rfl,l,⟨m,hm⟩,R,k,H⟩:=H
 have K':=K.step l hm
 rcases H with ⟨S,t,fl,hfl,F,hA⟩ | ⟨h,tk,S,hx,hz⟩
 · rcases hfl with rfl | rfl
   · exact a6h S K' hf F fun h' S' F'=>hQ _ a ω' σ' gs' cls msg t rfl l S' R F' hA k
   · exact a35 S K' hf F fun h' S' F'=>hQ _ a ω' σ' gs' cls msg t rfl l S' R F' hA k
 · refine a2q S K' hf hx fun h' t o n hto hc hd S' F'=>hQ _ a _ σ' gs' cls msg t rfl ?_ S' ((Keeps.new (.fz o) hto).rel R) F' ⟨hz,o,n,tk,Own.set_self ..,hc,hd⟩ (hX _ _ _ _ _ _ (Keeps.new (.fz o) hto) k)
   exact l.trans ((Le.new _ hto).s _)
noncomputable def F3 (σ:St) (ω ω':Own):Own:=fun a=>match ω a with
 | some (.lst vs)=>if (σ a).isSome then ω' a else some (.lst vs)
 | _=>ω' a
variable {ω ω':Own}{σ σ':St}{gs gs':TQ}
set_option tactic.hygienic true in
theorem k7 (l:Le (j3 σ ω) ω'):Keeps ω' (F3 σ ω ω'):=fun a m e h=>by
 unfold F3
 split
 · rename_i vs hw
   refine ie rfl (fun _=>?_) fun _=>?_
   · exact e
   · rename_i hn
     have e1:=E3 (σ:=σ) hw
     rw[if_neg hn] at e1
     have:=l a _ e1
     simp only[e] at this
     (replace this:=Option.some.inj this;clear e;subst this)
     exact absurd rfl (h _)
 · exact e
theorem T0 (l:Le (j3 σ ω) ω'):Le ω (F3 σ ω ω'):=fun a o e=>by
 unfold F3
 refine e▸?_
 induction o using OM.casesOn with
 | lst vs=>
   dsimp only
   refine ie rfl (fun _=>?_) fun _=>?_
   · rename_i hs
     have e1:=E3 (σ:=σ) e
     rw[if_pos hs] at e1
     exact l a _ e1
   · exact⟨vs,rfl⟩
 | _=>exact l a _ (by (refine rr (A9 (by refine rr e ?_;intro us q2;cases q2)) ?_;exact rr e rfl))
set_option tactic.hygienic true in
theorem MS.backS (S:MS B0 os ω gs s) (l:Le (j3 σ ω) ω') (S':MS B0 os ω' gs' s'):MS B0 os (F3 σ ω ω') gs' s':=by
 refine { S' with hold:=fun a o e=>?_,lo:=fun a o e hf=>?_,tabs:=fun P qs ps e=>(S'.tabs P qs ps (by
  unfold F3 at e
  split at e
  · (revert e;refine ie rfl (fun _ e=>?_) fun _ e=>?_)
    · exact e
    · exact absurd e nofun
  · exact e)).monoF (k7 l).f,tq:=fun x hx=>o_e (S'.tq x hx) fun ps e=>⟨ps,k7 l _ _ e nofun⟩ }
 · unfold F3 at e
   split at e
   · rename_i vs hw
     (revert e;refine ie rfl (fun _ e=>?_) fun _ e=>?_)
     · exact S'.hold _ _ e
     · rename_i hn
       (replace e:=Option.some.inj e;subst e)
       have e1:=E3 (σ:=σ) hw
       rw[if_neg hn] at e1
       exact(S'.hold _ _ (l a _ e1):(OM.hid vs).Holds s'.heap a)
   · exact S'.hold _ _ e
 · unfold F3 at e
   split at e
   · rename_i vs hw
     (revert e;refine ie rfl (fun _ e=>?_) fun _ e=>?_)
     · exact S'.lo _ _ e hf
     · exact S.lo _ _ hw rfl
   · exact S'.lo _ _ e hf
set_option tactic.hygienic true in
theorem a4s (l:Le (j3 σ ω) ω'){a:Addr}(h:ω' a=none):F3 σ ω ω' a=none:=by
 unfold F3
 split
 · rename_i vs hw
   refine ie rfl (fun _=>?_) fun _=>?_
   · exact h
   · rename_i hn
     have e1:=E3 (σ:=σ) hw
     rw[if_neg hn] at e1
     have:=l a _ e1
     simp only[h] at this
     exact c7 this
 · exact h
theorem Fly.backF (l:Le (j3 σ ω) ω'){h:Heap}{e t:Addr}{cls:String}{fl:Value}(F:Fly B0 ω' h e cls t fl):Fly B0 (F3 σ ω ω') h e cls t fl:=by
 obtain⟨oe,vs,T,oT,ts,h1,h2,h3,h4,h5,h6,h7,h8,h9,h10,h11,h12⟩:=F
 exact⟨oe,vs,T,oT,ts,h1,h2,h3,h4,h5,h6,h7,h8,a4s l h9,a4s l h10,h11,h12⟩
end
theorem a1n {L:Addr}{ω ω₁ ω₂:Own}(hnew:ω L=none) (other:∀ b m,ω b=some m->(∀ vs,m≠.lst vs)->ω₁ b=some m) (l:LeS L ω₁ ω₂):LeW ω ω₂:=fun b m e h=>by
 have:=l b m (fun q=>by clear l;subst q;rw[hnew] at e;exact c7 e) (other b m e (fun vs q=>by clear e;subst q;exact j0 h))
 clear e;cases m<;>first | exact this | (exact Bool.noConfusion (show false=true from h))
noncomputable def C4 (ρf:Loc):List Str->List HV->Loc
 | x::xs,h::hs=>upd (C4 ρf xs hs) x h
 | _,_=>ρf
theorem a4n (ρf : Loc) : ∀ (ps : List Str) (hs : List HV) (x : Str), C4 ρf ps hs x = match (ps.zip hs).lookup x with
    | some h => some h
    | none => ρf x
  | [], _, x => by rfl
  | _ :: _, [], x => by rfl
  | y :: ps, h :: hs, x => by
    (refine rr List.zip_cons_cons ?_; refine rr List.lookup_cons ?_)
    show upd (C4 ρf ps hs) y h x = _
    unfold upd
    by_cases e : x = y
    · subst e; simp
    · have : (x == y) = false := beq_eq_false_iff_ne.mpr e
      (refine rr this ?_; refine rr (if_neg e) ?_; exact rr (a4n ρf ps hs x) rfl)
structure N9 (fd:FuncData) (ps:List Str) (body:List Stmt):Prop where
 body:fd.body=.stmts body
 glob:fd.globals=mainGlobals
 blt:fd.builtins=builtinsNs
 kind:fd.scope.kind=.function
 co:fd.scope.isCoroutine=false
 gen:fd.scope.isGenerator=false
 nd:ps.Nodup
 cells:∀ x∈fd.scope.names,x.2≠.cell
 kinds:∀ x∈ps,fd.scope.names.lookup x=some .local
 dbg:("__debug__" : Str) ∉ ps/\fd.scope.names.lookup ("__debug__" : Str)≠some .globalImplicit/\("__classdict__" : Str) ∉ ps/\fd.scope.names.lookup ("__debug__" : Str)≠some .free/\fd.scope.names.lookup ("__classdict__" : Str)≠some .free
noncomputable def FreeOk (ω:Own) (sc:Scope) (cl:List (Str×Addr)) (ρf:Loc):Prop:=∀ x h,ρf x=some h->sc.names.lookup x=some .free/\∃ c v,cl.lookup x=some c/\ω c=some (.cell (some v))/\Rd ω h v
theorem FreeOk.none (ω:Own) (sc:Scope) (cl:List (Str×Addr)):FreeOk ω sc cl (fun _=>.none):=fun _ _ e=>by exact c7 e
section
variable {prog:Program}{w:World}{B0:Heap}{os:OsState}{gs:TQ}{mg mb:Str->Option Value}{n:Nat}
theorem X6 {x : Str} {v : Value} : ∀ {cs : List (Str × Value)}, (cs.map (·.1)).Nodup -> (x, v) ∈ cs -> cs.lookup x = some v
  | (y, u) :: cs, hnd, hm => by
    rw [List.map_cons, List.nodup_cons] at hnd
    refine rr List.lookup_cons ?_
    rcases List.mem_cons.mp hm with e | hm2
    · (injection e with e h9; refine rl e ?_; refine rr h9 ?_); simp
    · have : (x == y) = false := by
        rw [beq_eq_false_iff_ne]; intro q
        exact hnd.1 (List.mem_map.mpr (j1 ((x, v)) hm2 q))
      refine rr this ?_
      exact X6 hnd.2 hm2
theorem a82 {x:Str}{v:Value}:∀ {l:List (Str×Value)},(l.map (·.1)).Nodup->l.lookup x=some v->l.reverse.lookup x=some v:=by
 intro l hn h
 exact X6 (show (l.reverse.map (·.1)).Nodup from by refine rr List.map_reverse ?_;exact hn.perm (List.reverse_perm _).symm) (List.mem_reverse.mpr (mem_of_lookup h))
theorem a66:∀ (ps:List Str) (vs:List Value),ps.Nodup->((ps.zip vs).map (·.1)).Nodup
 | [],_,_=>by trivial
 | _::_,[],_=>by simp
 | p::ps,v::vs,h=>by
  refine o_a (List.nodup_cons.mp h) fun h1 h2=>?_
  (refine rr List.zip_cons_cons ?_;refine rr List.map_cons ?_;rw[List.nodup_cons])
  refine⟨fun q=>h1 ?_,a66 ps vs h2⟩
  refine c9 (List.mem_map.mp q) fun y hy e=>?_
  refine o_a (List.of_mem_zip (a:=y.1) (b:=y.2) hy) fun hy1 _=>?_
  simp only[e] at hy1;exact hy1
theorem b4r {ω:Own}{x:Str}{h:HV}:∀ {ps:List Str}{hs:List HV}{vs:List Value},RdL ω hs vs->(ps.zip hs).lookup x=some h->∃ v,(ps.zip vs).lookup x=some v/\Rd ω h v
 | [],_,_,_,e=>by simp only[List.zip_nil_left] at e;exact c7 e
 | _::_,[],_,_,e=>by exact c7 e
 | y::ps,k::ks,vs,r,e=>by
  simp only[RdL] at r
  (refine d9 r fun v q z82 h1 h2=>?_;clear r;refine rr z82 ?_)
  simp only[List.zip_cons_cons,List.lookup_cons] at e ⊢
  split at e
  · (replace e:=Option.some.inj e;subst e);exact(j1 v rfl h1)
  · exact b4r h2 e
set_option tactic.hygienic true in
theorem Z9 {ω:Own}{fd:FuncData}{ps:List Str}{body:List Stmt}{gt ρf:Loc}{L a:Addr}{hs:List HV}{vs:List Value}(D:N9 fd ps body) (hg:I1 mg mb gt) (r:RdL ω hs vs) (hf:FreeOk ω fd.scope fd.closure ρf)
 (hL:ω L=some (.ns fun x=>(ps.zip vs).reverse.lookup x)):EnvOk mg mb (callEnv fd L a) ω (C4 ρf ps hs) (d7 fd.scope gt):=by
 have kd:∀ x,(callEnv fd L a).kindOf x=fd.scope.names.lookup x:=fun _=>rfl
 have un:∀ x h,C4 ρf ps hs x=some h->(x∈ps/\(ps.zip hs).lookup x=some h)\/(ρf x=some h):=fun x h e=>by
  rw[a4n] at e
  split at e
  · rename_i h' q;(replace e:=Option.some.inj e;subst e);exact .inl ⟨(List.of_mem_zip (mem_of_lookup q)).1,q⟩
  · exact .inr e
 refine⟨D.kind,D.glob,D.blt,(j1 _ hL (fun x h e k=>?_)),fun x h e k=>?_,fun x h e=>?_,fun x h e=>?_,fun x h e=>?_,fun x e=>?_,fun x e=>?_,(A8 ?_ ?_ ?_),fun x h e=>?_,by unfold d7;dsimp only;exact if_pos rfl,fun _ _ e=>c7 e⟩
 · refine Or.elim (un x h e) (fun z105=>?_) fun q=>?_
   · refine c9 (b4r r z105.2) fun v h1 h2=>?_
     exact(j1 v (a82 (a66 ps vs D.nd) h1) h2)
   · have:=(hf x h q).1
     rw[kd,this] at k;contradiction
 · rcases un x h e with ⟨hp,q⟩ | q
   · rw[kd,D.kinds x hp] at k;rcases k with k | k<;>contradiction
   · refine q9 (hf x h q) fun _ c v h1 h2 h3=>?_
     exact(j7 c v h1 h2 h3)
 · rcases un x h e with ⟨hp,q⟩ | q
   · exact .inl (D.kinds x hp)
   · exact .inr (.inr (hf x h q).1)
 · unfold d7 at e;dsimp only at e
   (revert e;refine ie rfl (fun _ e=>?_) fun _ e=>?_)
   · rename_i q;exact q
   · exact c7 e
 · unfold d7 at e;dsimp only at e
   (revert e;refine ie rfl (fun _ e=>?_) fun _ e=>?_)
   · exact hg x h e
   · exact c7 e
 · have q:fd.scope.names.lookup x=some .cell:=by simpa [d7] using e
   exact absurd rfl (D.cells _ (mem_of_lookup q))
 · have q:fd.scope.names.lookup x=some .local:=by simpa [d7] using e
   exact q
 · cases q:C4 ρf ps hs ("__debug__" : Str) with
   | none=>rfl
   | some h=>
     rcases un _ h q with ⟨hp,_⟩ | q
     · exact absurd hp D.dbg.1
     · exact absurd (hf _ h q).1 D.dbg.2.2.2.1
 · exact if_neg D.dbg.2.1
 · cases q:C4 ρf ps hs ("__classdict__" : Str) with
   | none=>rfl
   | some h=>
     rcases un _ h q with ⟨hp,_⟩ | q
     · exact absurd hp D.dbg.2.2.1
     · exact absurd (hf _ h q).1 D.dbg.2.2.2.2
 · unfold d7 at e;dsimp only at e
   (revert e;refine ie rfl (fun _ e=>?_) fun _ e=>?_)
   · exact c7 e
   · exact hg x h e
theorem a5v (T:TopB B0 mg mb){fd:FuncData}{ps:List Str}{body:List Stmt}{gt ρf:Loc}{a:Addr}{o:Obj}(D:N9 fd ps body) (hg:I1 mg mb gt){A:Around}{l:List Env}{ω:Own}{s:Shared}{σ:St}{K:KG}{KX:KXG}{hs:List HV}{vs args:List Value}
 (hX:K3 KX) (hK:a1w K) (Rm:Room (n+1) A) (Ks:Stk ω A l) (S:MS B0 os ω gs s) (R:RelS ω σ) (r:RdL ω hs vs) (hlen:hs.length=ps.length) (hbind:BindsTo s fd ⟨args,[]⟩ (ps.zip vs)) (ho:s.heap.get? a=some o) (hd:o.data=.func fd) (hcd:s.heap.CodeRec fd.code fd.qualname) (hfr:FreeOk ω fd.scope fd.closure ρf)
 (H:∀ (env:Env) (A':Around) (ω₁:Own) (s₁:Shared),env.frame=some env.locals->EnvOk mg mb env ω₁ (C4 ρf ps hs) (d7 fd.scope gt)->Room n A'->Stk ω₁ A' (env::l)->MS B0 os ω₁ gs s₁->RelS ω₁ σ->ω env.locals=none->(∀ b m,ω b=some m->(∀ vs,m≠.lst vs)->ω₁ b=some m)->
  wpAny (model prog w) A' (execs body env) (a6i B0 os env ω₁ K) (a2c B0 os env ω₁ KX) s₁) :
 wpAny (model prog w) A (call (.ref a) args []) (J0 B0 os ω K) (RaisG B0 os ω KX) s:=by
 refine wpAny_call (codeAny_call_def Rm.lim ho hd (T.lim S) hcd D.body hbind D.cells ?_ ?_ D.co D.gen D.kind)
 · intro x hx
   exact D.kinds x.1 (List.of_mem_zip (a:=x.1) (b:=x.2) hx).1
 · intro h₀ hns hk
   have S₁:MS B0 os ω gs { s with heap:=h₀,toks:=s.toks+(ps.zip vs).length }:=S.keeps hk _
   have hun:j3 σ ω s.heap.objs.size=none:=by
    rw[hide_none]
    induction q:ω s.heap.objs.size with
    | none=>rfl
    | some m=>exact absurd (S.hold _ _ q).lt (Nat.lt_irrefl _)
   have S₃:=(S₁.hide σ).adopt (a:=s.heap.objs.size) (m:=.ns _) hns S.size (fun o q=>by rw[hun] at q;exact c7 q)
   have l₃:Le (j3 σ ω) ((j3 σ ω).set s.heap.objs.size (.ns fun x=>(ps.zip vs).reverse.lookup x)):=Le.new _ hun
   have R₃:=R.hide.new (m:=.ns fun x=>(ps.zip vs).reverse.lookup x) hun
   have fl:LeF ω ((j3 σ ω).set s.heap.objs.size (.ns fun x=>(ps.zip vs).reverse.lookup x)):=hide_f.trans l₃.f
   have other:∀ b m,ω b=some m->(∀ vs,m≠.lst vs)->((j3 σ ω).set s.heap.objs.size (.ns fun x=>(ps.zip vs).reverse.lookup x)) b=some m:=fun b m e hm=>by
    (refine rr (Own.set_ne _ _ (fun q=>by subst q;have:=hide_none.mp hun;rw[this] at e;exact c7 e)) ?_;refine rr (A9 (fun us q=>by rw[e] at q;(replace q:=Option.some.inj q;clear e;subst q);exact hm us rfl)) ?_;exact rr e rfl)
   have O:=Z9 (L:=s.heap.objs.size) (a:=a) D hg (r.monoF fl) (fun x h e=>by
    refine q9 (hfr x h e) fun k c v h1 h2 h3=>?_
    exact(u5 k c v h1 ⟨other _ _ h2 (fun _ q=>by contradiction),h3.monoF fl⟩)) (Own.set_self ..)
   have Ks':Stk ((j3 σ ω).set s.heap.objs.size (.ns fun x=>(ps.zip vs).reverse.lookup x)) (A.deeper (callEnv fd s.heap.objs.size a)) (callEnv fd s.heap.objs.size a::l):=by
    refine⟨Around.frames_deeper Ks.frames,fun e he=>?_⟩
    rcases List.mem_cons.mp he with rfl | he
    · exact(u5 (by refine rr O.kind ?_;decide) _ _ rfl (Own.set_self ..))
    · refine G0 (Ks.ok e he) fun k L' m' h1 h2=>?_
      exact(u5 k L' m' h1 (other _ _ h2 (fun _ q=>by contradiction)))
   refine wpAny_mono (H (callEnv fd s.heap.objs.size a) _ _ _ rfl O Rm.deeper Ks' S₃ R₃ (hide_none.mp hun) other) (fun f s' q=>?_) fun e s' q=>?_
   · obtain⟨v,h,ω',σ',gs',rfl,l',S',R',rv,k⟩:=q
     have l6:Le (j3 σ ω) ω':=((l₃.s s.heap.objs.size).trans l').le hun
     exact⟨h,F3 σ ω ω',σ',gs',T0 l6,S.backS l6 S',(k7 l6).rel R',rv.monoF (k7 l6).f,hK _ _ _ _ _ (k7 l6) k⟩
   · refine a0b hX Ks' rfl q fun s'' x ω' σ' gs' cls msg t e' l' S' R' F hA k=>?_
     have l6:Le (j3 σ ω) ω':=((l₃.s s.heap.objs.size).trans l').le hun
     exact⟨x,F3 σ ω ω',σ',gs',cls,msg,t,e',T0 l6,S.backS l6 S',(k7 l6).rel R',F.backF l6,hA.monoF (k7 l6).f,hX _ _ _ _ _ _ (k7 l6) k⟩
end
end
section
theorem fn_slot_get:Slot "function" "__getattribute__" "object.__getattribute__" :=
 .of (owner:="object") (n:="__getattribute__") (by kernel_rfl) (by decide +kernel) (by decide +kernel) (by decide +kernel)
  (by first | exact .inl (by decide +kernel) | exact .inr (by decide +kernel)) (by kernel_rfl)
theorem Z8:entryFor table "object.__getattribute__" = some Builtin.«object.__getattribute__»:=entryFor_of_tree (by kernel_rfl)
theorem a0v (a b:Value):argsOk "object.__getattribute__" ⟨[a,b],[]⟩:=by kernel_rfl
theorem X1:typeLookup (.type "function") "__getattr__" = pure none:=by kernel_rfl
theorem Y2:typeLookup (.type "function") "read" = pure none:=by kernel_rfl
theorem a1a:typeLookup (.type "function") "place" = pure none:=by kernel_rfl
section
variable {prog:Program}{w:World}{A:Around}{E:Value->Shared->Prop}{s:Shared}
set_option maxHeartbeats 2000000 in
theorem a3e {a D:Addr} {fd:FuncData} {sl:Array (Option Value)} {m:Str->Option Value} {name:Str} {v:Addr} {b:Bool} {Q:Value->Shared->Prop} (hx:s.heap.get? a=some { cls:=.type "function",dict:=some D,data:=.func fd,slots:=sl })
 (hD:s.heap.Ns D m) (hm:m name=some (.ref v)) (hmiss:typeLookup (.type "function") name=pure none) (h:∀ tk,Q (.ref v) { s with toks:=tk }):wpAny (model prog w) A (getAttr (.ref a) name b) Q E s:=by
 obtain⟨hp,g,d,tk,os⟩:=s
 have hT:∀ tk',(⟨hp,g,d,tk',os⟩:Shared).TypeIs (.ref a) "function" := fun _=>⟨_,hx,rfl⟩
 have f3:=fn_slot_get.lookup
 have f4:=fn_slot_get.bind (.ref a)
 have f5:=X1
 have ns:∀ {tk'} {A:Around} {E} {Q:Option Value->Shared->Prop},Q (some (.ref v)) ⟨hp,g,d,tk',os⟩->wpAny (model prog w) A (nsGet D name) Q E ⟨hp,g,d,tk',os⟩:=fun hq=>wpAny_nsGet hD (hm▸hq)
 unfold getAttr getAttrBy
 repeat (any_goals (first | assumption | exact hT _ | refine ns ?_ | ((with_reducible show wpAny _ _ (call (Value.builtin "object.__getattribute__") _ _) _ _ _);refine wpAny_call_entry fn_slot_get (hT _) Z8 ?kk (a0v _ _)) | wp_step))
 rw[if_neg (by cases b<;>decide)]
 repeat (any_goals (first | assumption | exact hT _ | refine ns ?_ | ((with_reducible show wpAny _ _ (call (Value.builtin "object.__getattribute__") _ _) _ _ _);refine wpAny_call_entry fn_slot_get (hT _) Z8 ?kk (a0v _ _)) | wp_step))
 exact⟨_,rfl,wpAny_pure (h _)⟩
end
end
section
section
variable {prog:Program}{w:World}{A:Around}{E:Value->Shared->Prop}{s:Shared}
theorem a5z {a D:Addr} {fd:FuncData} {sl:Array (Option Value)} {m:Str->Option Value} {name:Str} {v:Addr} {pl:Sem Bool} {Q:Value×List Value->Shared->Prop} (hx:s.heap.get? a=some { cls:=.type "function",dict:=some D,data:=.func fd,slots:=sl })
 (hD:s.heap.Ns D m) (hm:m name=some (.ref v)) (hmiss:typeLookup (.type "function") name=pure none) (h:∀ tk,Q (.ref v,[]) { s with toks:=tk }):wpAny (model prog w) A (getMethod (.ref a) name pl) Q E s:=by
 have hT:s.TypeIs (.ref a) "function" := ⟨_,hx,rfl⟩
 unfold getMethod
 refine wpAny_bind (wpAny_specialOf hT fn_slot_get.lookup ?_)
 refine wpAny_bind (wpAny_specialOf hT X1 ?_)
 refine wpAny_bind (wpAny_specialOf hT hmiss ?_)
 try dsimp only
 exact wpAny_bind (a3e hx hD hm hmiss fun tk=>wpAny_pure (h tk))
noncomputable def NsZ (h:Heap) (a:Addr) (m:Str->Option Value) (k:Nat):Prop:=∃ o es ep,h.get? a=some o/\o.data=.dict es ep/\StrKeys es/\(∀ name,nsFind es name=m name)/\es.size<=k/\o.cls=.type "dict"
theorem NsZ.ns {h:Heap}{a:Addr}{m:Str->Option Value}{k:Nat}(x:NsZ h a m k):h.Ns a m:=by
 (refine E4 x fun o es ep h1 h2 h3 z466=>?_;refine o_a z466 fun h4 _=>?_);exact(Z4 o es ep h1 h2 h3 h4)
theorem b2r {M:Model} {a:Addr} {m:Str->Option Value} {k:Nat} {name:Str} {v:Value} {Q:Unit->Shared->Prop} (hn:NsZ s.heap a m k)
 (hQ:∀ h',NsZ h' a (fun x=>if x=name then some v else m x) (k+1)->Heap.SameBut a s.heap h'->Q () { s with heap:=h',toks:=s.toks+1 }):wpAny M A (nsSet a name v) Q E s:=fun Γ p _=>by
 refine G1 hn fun o es ep ho hd hk hm hz hc=>?_
 show Sem.wp M Γ (nsSet a name v) _ _ p s
 simp -iota only [nsSet,strHash,Sem.wp_bind',Sem.wp_cmd_ask,Sem.wp_pure',Sem.wp_cmd_mkText]
 rw[Sem.wp_loadPart_of M Γ _ p { s with toks:=s.toks+1 } (o:=o) _ ho]
 simp only[hd,aRefKeyMayBeTheName_eq,aRefKeyMayBeTheNameByArray,(show es.any (·.refKey)=false from by
  rw[Array.any_eq_false'];intro e he;refine X9 (hk e he) fun n t h=>?_;simp[DictEntry.refKey,h]),Bool.and_false,Bool.false_eq_true,if_false,Sem.wp_cmd_updatePart]
 refine⟨by refine rr ho ?_;rfl,hQ _ ?_ (Heap.SameBut.update ..)⟩
 obtain⟨c,d,dt,sl⟩:=o
 subst hd
 induction hi:es.findIdx? (·.key.isStr name) with
 | some i=>
   refine(Y1 _ _ ep (Heap.get?_update_self _ ho (by simp only[Obj.putName_eq,Obj.putNameByArray,hi];rfl)) (by simp only[Obj.putName_eq,Obj.putNameByArray,hi];rfl) (hk.modify _ _) (fun x=>?_) (by refine rr Array.size_modify ?_;exact Nat.le_succ_of_le ‹_›) (by simp only[Obj.putName_eq,Obj.putNameByArray,hi];exact hc))
   show _=if x=name then some v else m x
   refine rl (hm ..) ?_;exact findBy_modify (fun n v=>v.isStr n) Value.isStr_inj es name x v i hi
 | none=>
   refine(Y1 _ _ (ep+1) (Heap.get?_update_self _ ho (by simp only[Obj.putName_eq,Obj.putNameByArray,hi];rfl)) (by simp only[Obj.putName_eq,Obj.putNameByArray,hi];rfl) (hk.push _ _ _ _) (fun x=>?_) (by refine rr (Array.size_push ..) ?_;exact Nat.lt_succ_of_le hz) (by simp only[Obj.putName_eq,Obj.putNameByArray,hi];exact hc))
   show _=if x=name then some v else m x
   refine rl (hm ..) ?_
   exact findBy_push (fun n v=>v.isStr n) es name x _ _ v (fun y=>by
    show (name==y)=decide (y=name)
    by_cases h:y=name
    · refine rr h ?_;rfl
    · have:¬ name=y:=fun e=>h e.symm
      simp[h,this]) hi
end
end
section
theorem fn_slot_set:Slot "function" "__setattr__" "object.__setattr__" :=
 .of (owner:="object") (n:="__setattr__") (by kernel_rfl) (by decide +kernel) (by decide +kernel) (by decide +kernel)
  (by first | exact .inl (by decide +kernel) | exact .inr (by decide +kernel)) (by kernel_rfl)
theorem Z6:entryFor table "object.__setattr__" = some Builtin.«object.__setattr__»:=entryFor_of_tree (by kernel_rfl)
theorem a0u (a b c:Value):argsOk "object.__setattr__" ⟨[a,b,c],[]⟩:=by kernel_rfl
theorem a0z:typeHasDict (.type "function")=true:=by decide +kernel
theorem c1g:mroOf (.type "function")=pure [.type "function",.type "object"]:=by kernel_rfl
section
variable {prog:Program}{w:World}{A:Around}{E:Value->Shared->Prop}{s:Shared}
set_option maxHeartbeats 2000000 in
theorem a4e {a:Addr}{Q:Unit->Shared->Prop}(hT:s.TypeIs (.ref a) "function") (h:Q () s):wpAny (model prog w) A (Builtin.ObjectAttr.refuseIfOverridden (.ref a) "__setattr__") Q E s:=by
 have f1:=c1g
 dsimp only[Builtin.ObjectAttr.refuseIfOverridden]
 repeat (any_goals (first | assumption | wp_step))
end
end
section
section
variable {prog:Program}{w:World}{A:Around}{E:Value->Shared->Prop}{s:Shared}
theorem a6s:finalisedInACycleAlone "function" = false:=by decide +kernel
set_option maxHeartbeats 2000000 in
theorem a2g {a:Addr} {fd:FuncData} {sl:Array (Option Value)} {name:Str} {v:Value} {Q:Unit->Shared->Prop} (hx:s.heap.get? a=some { cls:=.type "function",dict:=none,data:=.func fd,slots:=sl })
 (hmiss:typeLookup (.type "function") name=pure none)
 (h:∀ h' tk,h'.get? a=some { cls:=.type "function",dict:=some s.heap.objs.size,data:=.func fd,slots:=sl }->NsZ h' s.heap.objs.size (fun x=>if x=name then some v else none) 1->(∀ b o,b≠a->s.heap.get? b=some o->h'.get? b=some o)->Q () { s with heap:=h',toks:=tk }) :
 wpAny (model prog w) A (setAttr (.ref a) name v) Q E s:=by
 obtain⟨hp,g,d,tk,os⟩:=s
 have hT:∀ tk',(⟨hp,g,d,tk',os⟩:Shared).TypeIs (.ref a) "function" := fun _=>⟨_,hx,rfl⟩
 have f3:=fn_slot_set.lookup
 have f4:=fn_slot_set.bind (.ref a)
 have f5:=a6s
 have f6:=a0z
 have hax:a<hp.objs.size:=Heap.lt_size hx
 have z:NsZ ((hp.push { cls:=.type "dict",data:=.dict #[] }).update a fun o=>{ o with dict:=some hp.objs.size }) hp.objs.size (fun _=>none) 0:=by
  refine⟨_,#[],0,(Heap.get?_update_other _ _ (Nat.ne_of_lt hax)).trans (Heap.get?_push_size _ rfl),rfl,fun e he=>by simp at he,fun _=>rfl,Nat.le_refl _,rfl⟩
 have hx2:((hp.push { cls:=.type "dict",data:=.dict #[] }).update a fun o=>{ o with dict:=some hp.objs.size }).get? a=some { cls:=.type "function",dict:=some hp.objs.size,data:=.func fd,slots:=sl }:=Heap.get?_update_self _ (Heap.get?_push_of_some _ hx) rfl
 unfold setAttr
 repeat (any_goals (first | assumption | exact hT _ | refine a4e (hT _) ?_ | ((with_reducible show wpAny _ _ (call (Value.builtin "object.__setattr__") _ _) _ _ _);refine wpAny_call_entry fn_slot_set (hT _) Z6 ?kk (a0u _ _ _)) | ((with_reducible show wpAny _ _ (nsSet _ _ _) _ _ _);refine b2r z (fun h' hn hs=>?kset)) | wp_step))
 have z2:=hn.ns
 refine G1 (id hn) fun o es ep g1 g2 g3 g4 g5 g6=>?_
 refine wpAny_loadPart (o:=o) g1 ?_
 rw[g2,pastItsLine_dict (by have:=c8;exact c6 g5 (by simp +arith))]
 repeat (any_goals (first | assumption | wp_step))
 refine⟨_,rfl,?_⟩
 repeat (any_goals (first | assumption | wp_step))
 refine h h' _ ((hs.2 a (Nat.ne_of_lt hax)).trans hx2) hn fun b o hb e=>?_
 have hbs:b≠hp.objs.size:=Nat.ne_of_lt (Heap.lt_size e)
 (refine rr (hs.2 b hbs) ?_;refine rr (Heap.get?_update_other _ _ (Ne.symm hb)) ?_)
 exact Heap.get?_push_of_some _ e
end
end
section
section
variable {prog:Program}{w:World}{A:Around}{E:Value->Shared->Prop}{s:Shared}
set_option maxHeartbeats 2000000 in
theorem a38 {a D:Addr} {fd:FuncData} {sl:Array (Option Value)} {name:Str} {v:Value} {m:Str->Option Value} {k:Nat} {Q:Unit->Shared->Prop} (hx:s.heap.get? a=some { cls:=.type "function",dict:=some D,data:=.func fd,slots:=sl })
 (hD:NsZ s.heap D m k) (hk:k<=1000) (hmiss:typeLookup (.type "function") name=pure none)
 (h:∀ h' tk,NsZ h' D (fun x=>if x=name then some v else m x) (k+1)->Heap.SameBut D s.heap h'->Q () { s with heap:=h',toks:=tk }) :
 wpAny (model prog w) A (setAttr (.ref a) name v) Q E s:=by
 obtain⟨hp,g,d,tk,os⟩:=s
 have hT:∀ tk',(⟨hp,g,d,tk',os⟩:Shared).TypeIs (.ref a) "function" := fun _=>⟨_,hx,rfl⟩
 have f3:=fn_slot_set.lookup
 have f4:=fn_slot_set.bind (.ref a)
 have f5:=a6s
 have f6:=a0z
 unfold setAttr
 repeat (any_goals (first | assumption | exact hT _ | refine a4e (hT _) ?_ | ((with_reducible show wpAny _ _ (call (Value.builtin "object.__setattr__") _ _) _ _ _);refine wpAny_call_entry fn_slot_set (hT _) Z6 ?kk (a0u _ _ _)) | ((with_reducible show wpAny _ _ (nsSet _ _ _) _ _ _);refine b2r hD (fun h' hn hs=>?kset)) | wp_step))
 refine G1 (id hn) fun o es ep g1 g2 g3 g4 g5 g6=>?_
 refine wpAny_loadPart (o:=o) g1 ?_
 (refine rr g2 ?_;refine rr (pastItsLine_dict (by have:=c8;exact c6 (ad (ad (lq this.symm) g5) hk) (by simp +arith))) ?_)
 repeat (any_goals (first | assumption | wp_step))
 refine⟨_,rfl,?_⟩
 repeat (any_goals (first | assumption | wp_step))
 exact h h' _ hn hs
end
end
section
open PyProof.Rows
section
variable {prog:Program}{w:World}{A:Around}{E:Value->Shared->Prop}{s:Shared}
set_option maxHeartbeats 2000000 in
theorem b0y {b:Addr} {n m:Int} {t u v:Tok} (hn0:0<=n) (hn1:n<10 ^ 10) (hm0:0<=m) (hm1:m<10 ^ 10):Meets (Builtin.«str.__mod__» ⟨[.str (⟨#[101,120,112,101,99,116,101,100,32,37,100,32,98,121,116,101,115,32,105,110,32,97,32,115,116,114,105,110,103,49,44,32,98,117,116,32,111,110,108,121,32,37,100,32,114,101,109,97,105,110]⟩:Str) t,.ref b],[]⟩) (fun _ R s=>IsTup s.heap b #[.int n u,.int m v]/\∀ t' k,R (.ok (.ret (.str ((((Str.ofString "expected " ++ Str.ofString (toString n))++Str.ofString " bytes in a string1, but only ")++Str.ofString (toString m))++Str.ofString " remain") t'))) { s with toks:=k }):=by
 kpt_run
theorem b71 {b:Addr} {n m:Int} {t u v:Tok} {Q:Value->Shared->Prop} (hn0:0<=n) (hn1:n<10 ^ 10) (hm0:0<=m) (hm1:m<10 ^ 10) (ht:IsTup s.heap b #[.int n u,.int m v])
 (h:∀ t' k,Q (.str ((((Str.ofString "expected " ++ Str.ofString (toString n))++Str.ofString " bytes in a string1, but only ")++Str.ofString (toString m))++Str.ofString " remain") t') { s with toks:=k }) :
 wpAny (model prog w) A (binaryOp .Mod (.str (Str.ofString "expected %d bytes in a string1, but only %d remain") t) (.ref b)) Q E s:=by
 have hT:s.TypeIs (.ref b) "tuple" := by
  refine u9 ht fun o ho hc _=>?_
  exact(j1 o ho hc)
 exact KPt.bin_left (T:="str") (U:="tuple") (op:=.Mod) (by decide) (typeIs_str s _ t) hT F.fills_str_mod KPt.fills_tuple F.slot_str_mod
  (call_meets F.slot_str_mod (typeIs_str s _ t) F.entry_str_mod (F.args_str_mod_2 _ _) (b0y hn0 hn1 hm0 hm1) ⟨ht,fun t' k=>⟨(fun e=>nomatch e),h t' k⟩⟩)
end
end
section
open PyProof.Rows
theorem a2x (b:Array UInt8) (h:b.size<=sizeLine) (f:Nat->Nat×Array Nat×Builtin._codecs.Faults->Sem (ForInStep (Nat×Array Nat×Builtin._codecs.Faults)))
 (hf:∀ x p (out:Array Nat) st,out.size<=sizeLine->p<b.size->f x (p,out,st)=pure (ForInStep.yield (p+1,out++#[(b.getD p 0).toNat],st))) :
 ∀ (m k p:Nat) (out:Array Nat) (st:Builtin._codecs.Faults),p+m=b.size->out.toList=(b.toList.map (·.toNat)).take p->forIn (List.range' k m) (p,out,st) f=pure (b.size,b.map (·.toNat),st)
 | 0,k,p,out,st,hp,ho=>by
  (refine rr (show out=b.map (·.toNat) from by
   rw[List.take_of_length_le (by simp;exact hp▸Nat.le_refl _)] at ho
   apply Array.ext'
   refine rr ho ?_;simp) ?_;exact rr (show p=b.size by assumption) rfl)
 | m+1,k,p,out,st,hp,ho=>by
  have hl:out.size=p:=by
   have:=congrArg List.length ho
   simp at this;exact c3z hp this
  (refine rr List.range'_succ ?_;refine rr (List.forIn_cons ..) ?_;refine rr (hf _ _ _ _ (c6 (ad (ad (lq hp) h) (lq hl)) (by simp +arith)) (by exact b9x hp)) ?_;refine rr (pure_bind ..) ?_)
  refine a2x b h f hf m _ (p+1) _ st (b98 hp) ?_
  simp only[List.take_add_one,Array.toList_append,ho]
  congr 1
  simp[(show p<b.size from by exact b9x hp)]
theorem b10 (id:String) (b:Array UInt8) (h:b.size<=sizeLine):Builtin._codecs.runDecoder id Builtin._codecs.latin1Decoder none true b 0 []=pure (b.map (·.toNat),b.size):=by
 dsimp only[Builtin._codecs.runDecoder]
 simp only[KPc.range_list,Builtin._codecs.latin1Decoder,Builtin._codecs.Found.char]
 rw[a2x b h _ (fun x p out st h1 h2=>?_) b.size 0 0 #[] {} (by simp +arith) (by rfl)]
 · rfl
 · (refine rr (if_neg (by lia)) ?_;exact rr (if_neg (by lia)) rfl)
section
variable {prog:Program}{w:World}{A:Around}{E:Value->Shared->Prop}{s:Shared}{b:Array UInt8}{t u:Tok}
theorem a8d {id:String}:Builtin._codecs.decodeRoad id b (Str.ofString "latin-1") none []=(Builtin._codecs.runDecoder id Builtin._codecs.latin1Decoder none true b 0 [] >>= fun r=>mkStr ⟨r.1⟩):=by kernel_rfl
theorem a7r (hz:b.size<=sizeLine) {t1 t2:Tok} {d:Str} :
 Meets (Builtin.«_codecs.decode.text» ⟨[.bytes b t,.str (Str.ofString "latin-1") t1,.none,.str d t2],[]⟩) (fun _ R s=>R (.ok (.ret (.str ⟨b.map (·.toNat)⟩ s.toks))) { s with toks:=s.toks+1 }):=by
 refine .of_wp fun prog w A R s h=>?_
 show wpAny _ _ (Builtin.Bytes.bytesLike _ (.bytes b t) >>= fun r=>_) _ _ s
 refine wpAny_bind (wpAny_of_eq KBd.like_eq ?_)
 refine wpAny_bind (wpAny_of_eq KBd.held_eq ?_)
 (refine rr a8d ?_;refine rr (b10 _ b hz) ?_)
 refine wpAny_bind (wpAny_bind (wpAny_pure ?_))
 exact wpAny_mkStr (wpAny_pure ⟨_,rfl,h⟩) (by simpa [Str.length] using hz)
theorem a6z {c:UInt8}{cs:List UInt8}:Builtin.«bytes.decode» ⟨[.bytes (c::cs).toArray t,.str (Str.ofString "latin-1") u],[]⟩=(mkStr (Str.ofString "utf-8") >>= fun _=>mkStr (Str.ofString "latin-1") >>= fun e=>mkStr (Str.ofString "bytes.decode") >>= fun d=>
 call (.builtin "_codecs.decode.text") [.bytes (c::cs).toArray t,e,.none,d] >>= fun v=>ret v):=by kernel_rfl
theorem a8p:Builtin.«bytes.decode» ⟨[.bytes #[] t,.str (Str.ofString "latin-1") u],[]⟩=(rule "bytes.decode.empty" >>= fun _=>retStr Str.empty):=by kernel_rfl
theorem a7b {l:List UInt8} (hz:l.length<=sizeLine):Meets (Builtin.«bytes.decode» ⟨[.bytes l.toArray t,.str (Str.ofString "latin-1") u],[]⟩) (fun _ R s=>∀ t' k,R (.ok (.ret (.str ⟨(l.map (·.toNat)).toArray⟩ t'))) { s with toks:=k }):=by
 refine .of_wp fun prog w A R s h=>?_
 induction l using List.casesOn with
 | nil=>
  refine rr a8p ?_
  refine wpAny_bind (wpAny_rule ?_)
  exact wpAny_bind (wpAny_mkStr (wpAny_pure (j1 _ rfl (h _ _))) (by decide))
 | cons c cs=>
  refine rr a6z ?_
  refine wpAny_bind (wpAny_mkStr ?_ (by decide))
  refine wpAny_bind (wpAny_mkStr ?_ (by decide))
  refine wpAny_bind (wpAny_mkStr ?_ (by decide))
  refine wpAny_bind (call_function_meets KBd.kind_text KBd.plain_text KBd.entry_text (KBd.args_text _ _ _ _) (a7r (by exact hz)) (wpAny_pure (j1 _ rfl ?_)))
  refine rr List.map_toArray ?_
  exact h _ _
theorem a60 {l:List UInt8} {Q:Value->Shared->Prop} (hz:l.length<=sizeLine) (h:∀ t' k,Q (.str ⟨(l.map (·.toNat)).toArray⟩ t') { s with toks:=k }) :
 wpAny (model prog w) A (call (.builtin "bytes.decode") [.bytes l.toArray t,.str (Str.ofString "latin-1") u]) Q E s:=
 call_meets FB.slot_bytes_decode (typeIs_bytes _ _ _) FB.entry_bytes_decode (by kernel_rfl) (a7b hz) h
end
end
section
theorem a8a {pos:Pos}{a b:Int}{c:Value}(l:List Value) (h:TriplesOk l):codeAmong pos (l++[rawInt a,rawInt b,c])=match codeAmong pos l with
 | some x=>some x
 | none=>if a=pos.line/\b=pos.col then some c else none:=by
 fun_induction TriplesOk l with
 | case1=>
   dsimp only[List.nil_append,codeAmong,rawInt]
   by_cases h1:a=pos.line/\b=pos.col
   · simp
   · refine rr (if_neg h1) ?_
     have:(a==(pos.line:Int)&&b==(pos.col:Int))=false:=by
      rw[Bool.and_eq_false_iff]
      by_cases ha:a=pos.line
      · right;simp;exact fun q=>h1 ⟨ha,q⟩
      · left;simpa using ha
     refine rr this ?_;rfl
 | case2 i t j u c' rest ih=>
   dsimp only[List.cons_append,codeAmong]
   split
   · rfl
   · exact ih h
 | case3=>exact h.elim
theorem a5i {a b:Int}{c:Value}(l:List Value) (h:TriplesOk l):TriplesOk (l++[rawInt a,rawInt b,c]):=by
 fun_induction TriplesOk l with
 | case1=>assumption
 | case2 i t j u c' rest ih=>exact ih h
 | case3=>exact h.elim
noncomputable def TabI (ω:Own) (P:Addr) (qs:List (Pos×Str)):Prop:=∃ ps,ω P=some (.tab qs ps)
noncomputable def G2 (qs:List (Pos×Str)):Prop:=∀ q∈qs,∀ r∈qs,q.1.line=r.1.line->q.1.col=r.1.col->q.2=r.2
structure a53 (B0:Heap) (mg:Str->Option Value):Prop where
 bmain:∃ bm ob,mg "__builtins__" = some (.ref bm)/\bm≠builtinsNs/\B0.get? bm=some ob/\ob.cls=.type "module" /\ ob.dict=some builtinsNs/\ob.data=.plain
theorem TopB.m {B0:Heap}{mg mb:Str->Option Value}(T:TopB B0 mg mb):a53 B0 mg:=⟨T.bmain⟩
section
variable {B0:Heap}{os:OsState}{gs:TQ}{ω:Own}{s:Shared}{mg mb:Str->Option Value}
theorem P6 (S:MS B0 os ω gs s){c P:Addr}(C:CodeHd B0 c P):CodeHd s.heap c P:=by
 (refine J4 C fun o vs file tf flags z262=>?_;refine I7 z262 fun tg inF text tt z263=>?_;refine M4 z263 fun e hc r=>?_)
 exact(D4 o vs file tf (D4 flags tg inF text (y7 tt (S.top e (by refine rr hc ?_;decide)) hc r)))
theorem MS.tq_table (S:MS B0 os ω gs s){P c':Addr}{qs:List (Pos×Str)}{ps more:Array Value}{oc:Obj}(eP:ω P=some (.tab qs ps)) (hcn:ω c'=none):∀ x∈gs,Z0 ((ω.set P (.tab qs (ps++more))).set c' (.fz oc)) x:=fun x hx=>by
 refine o_e (S.tq x hx) fun ps1 e=>?_
 have hne:x.1≠c':=fun q=>by rw[q,hcn] at e;exact c7 e
 by_cases q:x.1=P
 · rw[q,eP] at e
   exact⟨ps++more,by (rw[Own.set_ne _ _ hne];rw[q];rw[Own.set_self];exact rr (show qs=x.2 from by injection Option.some.inj e) rfl)⟩
 · exact⟨ps1,by rw[Own.set_ne _ _ hne,Own.set_ne _ _ q];exact e⟩
theorem MS.table (S : MS B0 os ω gs s) {c P : Addr} {qs : List (Pos × Str)} {ps0 ps more : Array Value} {h' : Heap} (C : CodeHd B0 c P) (t₀ : B0.get? P = some (tabObj ps0)) (eP : ω P = some (.tab qs ps)) (hx : Heap.ExtBut P s.heap h') (hP : h'.get? P = some (tabObj (ps ++ more))) (hs : P ≠ cStatics) {oc : Obj} {c' : Addr} (hcn : ω c' = none) (hoc : h'.get? c' = some oc) (hg : TabGood (ω.set c' (.fz oc)) qs (ps ++ more)) (t : Nat) :
    MS B0 os ((ω.set P (.tab qs (ps ++ more))).set c' (.fz oc)) gs { s with heap := h', toks := t } := by
  have C' := P6 S C
  have C2 : CodeHd h' c P := by
    (refine J4 C' fun o vs file tf flags z432 => ?_; refine I7 z432 fun tg inF text tt z433 => ?_; refine o_a z433 fun e r => ?_)
    exact (D4 o vs file tf (D4 flags tg inF text (j1 tt (hx _ _ (show c ≠ P from by (refine J4 C fun _ _ _ _ _ z436 => ?_; refine N2 z436 fun _ _ _ _ _ _ _ _ _ z437 => ?_; refine Q8 z437 fun _ _ _ _ h => ?_); exact h) e) r)))
  refine { S with hold := fun b m e => ?_, old := S.old.step_table (C.tab t₀) (C'.tab (S.hold _ _ eP)) (C2.tab hP) hx hs, lo := fun b m e hf => ?_, tabs := fun P' qs' ps' e => ?_, tq := S.tq_table eP hcn }
  · unfold Own.set at e
    (revert e; refine ie rfl (fun _ e => ?_) fun _ e => ?_)
    · rename_i q; refine rr q ?_; (replace e := Option.some.inj e; subst e); exact hoc
    · (revert e; refine ie rfl (fun _ e => ?_) fun _ e => ?_)
      · rename_i q; refine q ▸ ?_; (replace e := Option.some.inj e; subst e); exact hP
      · rename_i q
        exact (S.hold b m e).keep fun ob x => hx b ob q x
  · unfold Own.set at e
    (revert e; refine ie rfl (fun _ e => ?_) fun _ e => ?_)
    · (injection e with e; subst e); exact B2 hf
    · (revert e; refine ie rfl (fun _ e => ?_) fun _ e => ?_)
      · (injection e with e; subst e); exact B2 hf
      · exact S.lo b m e hf
  · have f : LeF (ω.set c' (.fz oc)) ((ω.set P (.tab qs (ps ++ more))).set c' (.fz oc)) := fun b o eb => by
      by_cases q : b = c'
      · cases q; rw [Own.set_self] at eb ⊢; exact eb
      · rw [Own.set_ne _ _ q] at eb ⊢
        have hbP : b ≠ P := fun z => by rw [z, eP] at eb; exact absurd eb nofun
        refine rr (Own.set_ne _ _ hbP) ?_; exact eb
    unfold Own.set at e
    (revert e; refine ie rfl (fun _ e => ?_) fun _ e => ?_)
    · cases e
    · (revert e; refine ie rfl (fun _ e => ?_) fun _ e => ?_)
      · cases e; exact hg.monoF f
      · exact ((S.tabs P' qs' ps' e).monoF (LeF.set' _ (fun o q => by rw [hcn] at q; exact c7 q))).monoF f
theorem Le.tab {ω:Own}{a:Addr}{qs:List (Pos×Str)}{ps more:Array Value}(h:ω a=some (.tab qs ps)):Le ω (ω.set a (.tab qs (ps++more))):=fun b ob e=>by
 by_cases q:b=a
 · subst q;rw[h] at e;(replace e:=Option.some.inj e;subst e);simp only[Own.set_self];exact⟨more,rfl⟩
 · rw[Own.set_ne _ _ q,e];exact LeO.refl _
theorem a29 (T:TopB B0 mg mb) (TM:a53 B0 mg) (S:MS B0 os ω gs s){P:Addr}{ps:Array Value}(eP:s.heap.get? P=some (tabObj ps)):s.heap.BuiltinsAt mg P/\mainGlobals≠P:=by
 (refine H9 TM.bmain fun bm ob b1 b2 b3 b4 z481=>?_;refine o_a z481 fun b5 b6=>?_)
 have hgs:=T.g.now S
 have hgP:mainGlobals≠P:=fun q=>by
  refine M8 hgs fun o es ep e hd _=>?_
  rw[q,eP] at e;(replace e:=Option.some.inj e;subst e);contradiction
 have e3:s.heap.get? bm=some ob:=S.top b3 (by refine rr b4 ?_;decide)
 exact⟨(I0 bm ob b1 b2 ((fun q=>by
  refine M8 hgs fun o es ep e hd _=>?_
  rw[q,e] at e3;(replace e3:=Option.some.inj e3;clear b5 z481 b4 b3;subst e3);rw[hd] at b6;contradiction)) ((fun q=>by
  rw[q,eP] at e3;(replace e3:=Option.some.inj e3;clear z481 b4 b3;clear b6;subst e3);contradiction)) (Q5 e3 b4 b5 b6)),hgP⟩
structure NewFn (B0:Heap) (os:OsState) (gs:TQ) (ω:Own) (P:Addr) (qs:List (Pos×Str)) (ω':Own) (s':Shared) (f:Addr) (fo:Obj):Prop where
 le:Le ω ω'
 other:∀ a m,ω a=some m->a≠P->ω' a=some m
 ms:MS B0 os ω' gs s'
 tab:TabI ω' P qs
 new:ω f=none
 at':ω' f=some (.ex fo)
theorem NewFn.rel {P:Addr}{qs:List (Pos×Str)}{ω':Own}{s':Shared}{f:Addr}{fo:Obj}(N:NewFn B0 os gs ω P qs ω' s' f fo) (hP:∀ vs,ω P≠some (.lst vs)){σ:St}(R:RelS ω σ):RelS ω' σ:=
 R.keep N.le fun a vs e=>N.other a _ e fun q=>by clear N;subst q;exact hP vs e
theorem a6o {ω ω':Own}{qs:List (Pos×Str)}{ps:Array Value}{pos:Pos}{c:Value}{qual:Str}(hq:G2 qs) (hin:(pos,qual)∈qs) (l:LeF ω ω') (h:TabGood ω qs ps) (hc:CodeOk ω' c qual):TabGood ω' qs (ps++#[rawInt pos.line,rawInt pos.col,c]):=by
 have e:(ps++#[rawInt pos.line,rawInt pos.col,c]).toList=ps.toList++[rawInt pos.line,rawInt pos.col,c]:=by simp
 refine⟨by refine rr e ?_;exact a5i _ h.1,fun q hq'=>?_⟩
 (refine rr e ?_;refine rr (a8a _ h.1) ?_)
 rcases h.2 q hq' with x | ⟨cv,x,y⟩
 · refine rr x ?_
   dsimp only
   by_cases hp:(pos.line:Int)=q.1.line/\(pos.col:Int)=q.1.col
   · refine rr (if_pos hp) ?_
     have:=hq _ hin q hq' (by exact Nat.le_antisymm (c6 (lq (Int.ofNat.inj hp.1:_=_)) (by simp +arith)) (c6 (lq (Int.ofNat.inj hp.1:_=_).symm) (by simp +arith))) (by exact Nat.le_antisymm (c6 (lq (Int.ofNat.inj hp.2:_=_)) (by simp +arith)) (c6 (lq (Int.ofNat.inj hp.2:_=_).symm) (by simp +arith)))
     exact .inr ⟨c,rfl,by refine rl this ?_;exact hc⟩
   · refine rr (if_neg hp) ?_;exact .inl rfl
 · refine rr x ?_;exact .inr ⟨cv,rfl,y.monoF l⟩
variable {M:Model}{A:Around}{E:Value->Shared->Prop}{Q:Value->Shared->Prop}{env:Env}{c P:Addr}{ps0:Array Value}{pos:Pos}{firstLine:Nat}{clos:List (Str×Addr)}{name qual:Str}{params:Arguments}{scope:Scope}{qs:List (Pos×Str)}
theorem b2y (S:MS B0 os ω gs s) (C:CodeHd B0 c P) (t₀:B0.get? P=some (tabObj ps0)) (hs:P≠cStatics) (hq:G2 qs) (hin:(pos,qual)∈qs){ps:Array Value}(eP:ω P=some (.tab qs ps)){c':Addr}{h':Heap}{tk:Nat}(hx:Heap.ExtBut P s.heap h') (hge:s.heap.objs.size<=c') (hlt:c'<h'.objs.size) (hrec:h'.CodeRec (.ref c') qual)
 (htb:h'.get? P=some (tabObj (ps++#[rawInt pos.line,rawInt pos.col,.ref c']))) (fo:Obj) (hfo:fo.isFreed=false) :
 ∃ ω',NewFn B0 os gs ω P qs ω' { s with heap:=h'.push fo,toks:=tk } h'.objs.size fo/\CodeOk ω' (.ref c') qual:=by
 refine y1 hrec fun c₂ oc vs t e2 hoc hd hv=>?_
 (injection e2 with e2;subst e2)
 have hcn:ω c'=none:=by
  induction q:ω c' using Option.casesOn with
  | none=>rfl
  | some m=>exact absurd (S.hold _ _ q).lt (Nat.not_lt.mpr hge)
 have hcP:c'≠P:=fun q=>by clear htb hx t₀ C;clear hs;subst q;rw[hcn] at eP;exact c7 eP
 have hgood:TabGood (ω.set c' (.fz oc)) qs (ps++#[rawInt pos.line,rawInt pos.col,.ref c']):=a6o hq hin (LeF.set' _ (fun o q=>by rw[hcn] at q;exact c7 q)) (S.tabs P qs ps eP) (C6 c' oc vs t rfl (Own.set_self ..) hd hv)
 have S₃:=(S.table C t₀ eP hx htb hs hcn hoc hgood tk).push fo (m:=.ex fo) (Heap.get?_push_size _ hfo)
 have hfn:ω h'.objs.size=none:=by
  induction q:ω h'.objs.size using Option.casesOn with
  | none=>rfl
  | some m=>exact absurd (S.hold _ _ q).lt (Nat.not_lt.mpr (Nat.le_of_lt (Nat.lt_of_le_of_lt hge hlt)))
 refine(j1 _ ⟨(((Le.tab eP).trans (Le.new (.fz oc) (show (ω.set P (.tab qs (ps++#[rawInt pos.line,rawInt pos.col,.ref c']))) c'=none from by refine rr (Own.set_ne _ _ hcP) ?_;exact hcn))).trans (Le.new (.ex fo) (S.table C t₀ eP hx htb hs hcn hoc hgood tk).unused)),fun a m e hp=>?_,S₃,⟨ps++#[rawInt pos.line,rawInt pos.col,.ref c'],?_⟩,hfn,Own.set_self ..⟩ ((C6 c' oc vs t rfl (by refine rr (Own.set_ne _ _ (Nat.ne_of_lt hlt)) ?_;exact Own.set_self ..) hd hv)))
 · (refine rr (Own.set_ne _ _ (fun q=>by rw[q,hfn] at e;exact c7 e)) ?_;refine rr (Own.set_ne _ _ (fun q=>by rw[q,hcn] at e;exact c7 e)) ?_;refine rr (Own.set_ne _ _ hp) ?_);exact e
 · (refine rr (Own.set_ne _ _ (fun q=>by rw[q,hfn] at eP;exact c7 eP:P≠h'.objs.size)) ?_;refine rr (Own.set_ne _ _ (Ne.symm hcP)) ?_);exact Own.set_self ..
theorem b3a (S:MS B0 os ω gs s){ps:Array Value}(eP:ω P=some (.tab qs ps)){h':Heap}{tk:Nat}(hk:∀ b o,s.heap.get? b=some o->h'.get? b=some o) (hsz:s.heap.objs.size<=h'.objs.size) (fo:Obj) (hfo:fo.isFreed=false) :
 ∃ ω',NewFn B0 os gs ω P qs ω' { s with heap:=h'.push fo,toks:=tk } h'.objs.size fo/\LeF ω ω':=by
 have S₂:=(S.keeps hk tk).push fo (m:=.ex fo) (Heap.get?_push_size _ hfo)
 have hun:=(S.keeps hk tk).unused
 have hfn:ω h'.objs.size=none:=hun
 refine(j1 _ ⟨(Le.new (OM.ex fo) hun),fun a m e hp=>?_,S₂,⟨ps,?_⟩,hfn,Own.set_self ..⟩ ((Le.new (OM.ex fo) hun).f))
 · refine rr (Own.set_ne _ _ (fun q=>by simp only[q,hfn] at e;exact c7 e)) ?_;exact e
 · refine rr (Own.set_ne _ _ (fun q=>by simp only[q,hfn] at eP;exact c7 eP)) ?_;exact eP
theorem c19 {body:List Stmt}(T:TopB B0 mg mb) (TM:a53 B0 mg) (S:MS B0 os ω gs s) (C:CodeHd B0 c P) (t₀:B0.get? P=some (tabObj ps0)) (hs:P≠cStatics) (hq:G2 qs) (hin:(pos,qual)∈qs) (I:TabI ω P qs)
 (hcl:closureFor scope env=pure clos) (hge0:env.globals=mainGlobals) (hcode:env.code=.ref c)
 (H:∀ f ctv doc pm cv ω' s',NewFn B0 os gs ω P qs ω' s' f { cls:=.type "function",data:=.func (fnX name qual params body scope clos .none .none doc pm none cv ctv) }->CodeOk ω' cv qual->Q (.ref f) s') :
 wpAny M A (makeFunction name qual params (.stmts body) scope env [] [] [] pos firstLine) Q E s:=by
 refine o_e I fun ps eP=>?_
 refine o_a (S.tabs _ _ _ eP) fun ht hI=>?_
 have hp:=S.hold _ _ eP
 refine o_a (a29 T TM S hp) fun hb hg=>?_
 rcases hI _ hin with hnf | ⟨cv,hf,hcv⟩
 · refine makeFunction_K hcl hge0 (T.g.now S) hcode (P6 S C) hp ht hnf hg hb fun c' ctv doc h' tk hx hge hlt hrec htb=>?_
   refine c9 (b2y (tk:=tk) S C t₀ hs hq hin eP hx hge hlt hrec htb (fnMade name qual params body scope clos doc ((mg "__name__").getD .none) c' ctv) rfl) fun ω' N hc=>?_
   exact H _ _ _ _ _ ω' _ N hc
 · refine makeFunction_hit hcl hge0 (T.g.now S) hcode (P6 S C) hp ht hf hb fun ctv doc h' tk hk hsz=>?_
   refine c9 (b3a (tk:=tk) (qs:=qs) S eP hk hsz { cls:=.type "function",data:=.func (fnX name qual params body scope clos .none .none doc ((mg "__name__").getD .none) none cv ctv) } rfl) fun ω' N l=>?_
   exact H _ _ _ _ _ ω' _ N (hcv.monoF l)
theorem a59 {body:Expr}(T:TopB B0 mg mb) (TM:a53 B0 mg) (S:MS B0 os ω gs s) (C:CodeHd B0 c P) (t₀:B0.get? P=some (tabObj ps0)) (hs:P≠cStatics) (hq:G2 qs) (hin:(pos,qual)∈qs) (I:TabI ω P qs)
 (hcl:closureFor scope env=pure clos) (hge0:env.globals=mainGlobals) (hcode:env.code=.ref c)
 (H:∀ f ctv pm cv ω' s',NewFn B0 os gs ω P qs ω' s' f { cls:=.type "function",data:=.func (kla_fn name qual params body scope clos pm cv ctv) }->CodeOk ω' cv qual->Q (.ref f) s') :
 wpAny M A (makeFunction name qual params (.expr body) scope env [] [] [] pos firstLine) Q E s:=by
 refine o_e I fun ps eP=>?_
 refine o_a (S.tabs _ _ _ eP) fun ht hI=>?_
 have hp:=S.hold _ _ eP
 refine o_a (a29 T TM S hp) fun hb hg=>?_
 rcases hI _ hin with hnf | ⟨cv,hf,hcv⟩
 · refine kla_makeFunction hcl hge0 (T.g.now S) hcode (P6 S C) hp ht hnf hg hb fun c' ctv h' tk hx hge hlt hrec htb=>?_
   refine c9 (b2y (tk:=tk) S C t₀ hs hq hin eP hx hge hlt hrec htb (kla_obj name qual params body scope clos ((mg "__name__").getD .none) c' ctv) rfl) fun ω' N hc=>?_
   exact H _ _ _ _ ω' _ N hc
 · refine kla_makeFunctionHit hcl hge0 (T.g.now S) hcode (P6 S C) hp ht hf hb fun ctv h' tk hk hsz=>?_
   refine c9 (b3a (tk:=tk) (qs:=qs) S eP hk hsz { cls:=.type "function",data:=.func (kla_fn name qual params body scope clos ((mg "__name__").getD .none) cv ctv) } rfl) fun ω' N l=>?_
   exact H _ _ _ _ ω' _ N (hcv.monoF l)
end
end
section
noncomputable def CellsOk (env:Env) (ω:Own):Prop:=(∀ x c,env.cells.lookup x=some c->∃ v,ω c=some (.cell v))/\∀ x y c,env.cells.lookup x=some c->env.cells.lookup y=some c->x=y
theorem CellsOk.monoW {env:Env}{ω ω':Own}(x:LeW ω ω') (h:CellsOk env ω):CellsOk env ω':=
 ⟨fun y c e=>by refine o_e (h.1 y c e) fun v h1=>?_;exact⟨v,x _ _ h1 rfl⟩,h.2⟩
theorem LeS.w {L:Addr}{ω ω':Own}(x:LeS L ω ω'){a:Addr}{m:OM}(h:ω a=some m) (hs:m.stay=true) (hn:∀ n,m≠.ns n){n₀:Str->Option Value}(hL:ω L=some (.ns n₀)):ω' a=some m:=by
 have:=x a m (fun q=>by clear x;subst q;rw[hL] at h;(replace h:=Option.some.inj h;clear hs;subst h);exact hn _ rfl) h
 clear hn h;cases m<;>first | exact this | (exact Bool.noConfusion (show false=true from hs))
theorem CellsOk.step {env:Env}{ω ω':Own}(x:LeS env.locals ω ω'){n₀:Str->Option Value}(hL:ω env.locals=some (.ns n₀)) (h:CellsOk env ω):CellsOk env ω':=
 ⟨fun y c e=>by refine o_e (h.1 y c e) fun v h1=>?_;exact⟨v,x.w h1 rfl (fun _ q=>by contradiction) hL⟩,h.2⟩
section
variable {prog:Program}{w:World}{B0:Heap}{os:OsState}{gs:TQ}{mg mb:Str->Option Value}{n:Nat}
theorem a3w {M:Model}{A:Around}{env:Env}{outer:List Env}{ω:Own}{KX:KXG}{e:Value}{Q:Unit->Shared->Prop}{E:Value->Shared->Prop}{s:Shared}(hX:K3 KX) (hfr:A.frames=some (env::outer)) (hk:env.scope.kind≠.module) (K:∀ e∈outer,e.scope.kind≠.module/\∃ L m,e.frame=some L/\ω L=some (.ns m)) (hf:env.frame=some env.locals) (H:a2c B0 os env ω KX e s)
 (hQ:∀ s' a ω' σ' gs' cls msg t,e=.ref a->LeS env.locals ω ω'->MS B0 os ω' gs' s'->RelS ω' σ'->Fly B0 ω' s'.heap a cls t .none->ArgsAt ω' t msg->KX cls msg ω' σ' gs'->Q () s'):wpAny M A (leaving env e) Q E s:=by
 obtain⟨a,ω',σ',gs',cls,msg,rfl,l,⟨m,hm⟩,R,k,H⟩:=H
 have K':Stk ω' A (env::outer):=by
  refine⟨hfr,fun e he=>?_⟩
  rcases List.mem_cons.mp he with rfl | he
  · exact(u5 hk _ m hf hm)
  · refine G0 (K e he) fun k L' m' h1 h2=>?_
    by_cases q:L'=env.locals
    · exact⟨k,L',m,h1,by refine rr q ?_;exact hm⟩
    · exact⟨k,L',m',h1,l _ _ q h2⟩
 rcases H with ⟨S,t,fl,hfl,F,hA⟩ | ⟨h,tk,S,hx,hz⟩
 · rcases hfl with rfl | rfl
   · exact a6h S K' hf F fun h' S' F'=>hQ _ a ω' σ' gs' cls msg t rfl l S' R F' hA k
   · exact a35 S K' hf F fun h' S' F'=>hQ _ a ω' σ' gs' cls msg t rfl l S' R F' hA k
 · refine a2q S K' hf hx fun h' t o n hto hc hd S' F'=>hQ _ a _ σ' gs' cls msg t rfl ?_ S' ((Keeps.new (.fz o) hto).rel R) F' ⟨hz,o,n,tk,Own.set_self ..,hc,hd⟩ (hX _ _ _ _ _ _ (Keeps.new (.fz o) hto) k)
   exact l.trans ((Le.new _ hto).s _)
theorem a7w (T:TopB B0 mg mb){fd:FuncData}{ps:List Str}{body:List Stmt}{gt:Loc}{a:Addr}(D:b0a fd ps body) (F:FnAt B0 a fd) (hg:I1 mg mb gt){A:Around}{l:List Env}{ω:Own}{s:Shared}{σ:St}{K:KG}{KX:KXG}{hs:List HV}{vs:List Value}
 (hX:K3 KX) (hK:a1w K) (Rm:Room (n+1) A) (Ks:Stk ω A l) (S:MS B0 os ω gs s) (R:RelS ω σ) (r:RdL ω hs vs) (hlen:hs.length=ps.length)
 (H:∀ (env:Env) (A':Around) (ωb ω₁:Own) (s₁:Shared),env.frame=some env.locals->env.scope=fd.scope->env.code=fd.code->env.qual=fd.qualname++".<locals>." -> EnvOk mg mb env ω₁ (fun x=>(ps.zip hs).lookup x) (d7 fd.scope gt)->CellsOk env ω₁->Room n A'->Stk ω₁ A' (env::l)->MS B0 os ω₁ gs s₁->RelS ω₁ σ->LeS env.locals ωb ω₁->
  ωb env.locals=none->(∀ x c,env.cells.lookup x=some c->ωb c=none/\c≠env.locals)->(∀ b m,ω b=some m->(∀ vs,m≠.lst vs)->ωb b=some m)->(∀ b m,ω b=some m->(∀ vs,m≠.lst vs)->ω₁ b=some m)->
  wpAny (model prog w) A' (execs body env) (a6i B0 os env ωb K) (a2c B0 os env ωb KX) s₁) :
 wpAny (model prog w) A (call (.ref a) vs []) (J0 B0 os ω K) (RaisG B0 os ω KX) s:=by
 refine u9 F.at' fun o ho hcls hdata=>?_
 (refine y1 F.code fun c oc cvs t hcode hoc hccls z561=>?_;refine o_a z561 fun hcd hq=>?_)
 have hvs:=r.length
 refine wpAny_call (codeAny_call_cells Rm.lim (S.top ho hcls) hdata (T.lim S) (C6 c oc cvs t hcode (S.top hoc hccls) hcd hq) D.body (D.bind vs (c4k hvs hlen)) D.clo ?_ ?_ D.co D.gen D.kind)
 · intro x hx
   refine o_a (List.of_mem_zip hx) fun h1 _=>?_
   rcases D.kinds x.1 h1 with q | q
   · exact .inl q
   · exact .inr ⟨q,J9 _ _ _ (.inl (D3 q))⟩
 · intro s₁ C
   have hsz:=S.size
   refine X9 C.toInCall.same fun h' tk hsame=>?_
   have hun:∀ b,s.heap.objs.size<=b->j3 σ ω b=none:=fun b hb=>by
    rw[hide_none]
    induction q:ω b with
    | none=>rfl
    | some m=>exact absurd (S.hold _ _ q).lt (Nat.not_lt.mpr hb)
   have S₃:=((show MS B0 os ω gs s₁ from by
    refine rr hsame ?_
    have:=S.keeps (h':=h') (fun b ob e=>by have:=C.toInCall.keep b ob e;rw[hsame] at this;exact this) tk
    exact this).hide σ).adopt (a:=s.heap.objs.size) (m:=.ns _) C.toInCall.ns hsz (fun o q=>by rw[hun _ (Nat.le_refl _)] at q;contradiction)
   have S₄:=S₃.cells (cm:=bindC (callEnvC fd s.heap.objs.size a).kindOf (ps.zip vs) fun _=>none) C.cell (fun m c hm=>Nat.le_trans hsz (Nat.le_of_lt (C.above m c hm))) (fun m c hm o q=>by
    have:s.heap.objs.size<c:=C.above m c hm
    rw[Own.set_ne _ _ (Nat.ne_of_gt this),hun c (Nat.le_of_lt this)] at q;contradiction)
   have hcl:∀ m c,(m,c)∈(callEnvC fd s.heap.objs.size a).cells->s.heap.objs.size<c:=fun m c hm=>C.above m c hm
   have l₄:Le (j3 σ ω) (F5 ((j3 σ ω).set s.heap.objs.size (.ns (bindL (callEnvC fd s.heap.objs.size a).kindOf (ps.zip vs) fun _=>none))) (callEnvC fd s.heap.objs.size a).cells (bindC (callEnvC fd s.heap.objs.size a).kindOf (ps.zip vs) fun _=>none)):=fun b ob e=>by
    have hb:b<s.heap.objs.size:=by
     apply Nat.lt_of_not_le
     intro q
     rw[hun b q] at e;contradiction
    (refine rr (D7 (fun m q=>Nat.lt_irrefl _ (Nat.lt_trans hb (hcl m b q)))) ?_;refine rr (Own.set_ne _ _ (Nat.ne_of_lt hb)) ?_;refine rr e ?_)
    exact LeO.refl _
   have same4:∀ b m,j3 σ ω b=some m->(F5 ((j3 σ ω).set s.heap.objs.size (.ns (bindL (callEnvC fd s.heap.objs.size a).kindOf (ps.zip vs) fun _=>none))) (callEnvC fd s.heap.objs.size a).cells (bindC (callEnvC fd s.heap.objs.size a).kindOf (ps.zip vs) fun _=>none)) b=some m:=fun b ob e=>by
    have hb:b<s.heap.objs.size:=by
     apply Nat.lt_of_not_le
     intro q
     rw[hun b q] at e;contradiction
    (refine rr (D7 (fun m q=>Nat.lt_irrefl _ (Nat.lt_trans hb (hcl m b q)))) ?_;refine rr (Own.set_ne _ _ (Nat.ne_of_lt hb)) ?_;exact rr e rfl)
   have hL:F5 ((j3 σ ω).set s.heap.objs.size (.ns (bindL (callEnvC fd s.heap.objs.size a).kindOf (ps.zip vs) fun _=>none))) (callEnvC fd s.heap.objs.size a).cells (bindC (callEnvC fd s.heap.objs.size a).kindOf (ps.zip vs) fun _=>none) s.heap.objs.size=some (.ns (bindL (callEnvC fd s.heap.objs.size a).kindOf (ps.zip vs) fun _=>none)):=by
    refine rr (D7 (fun m q=>Nat.lt_irrefl _ (hcl m _ q))) ?_;exact Own.set_self ..
   have hce:∀ x c,(callEnvC fd s.heap.objs.size a).cells.lookup x=some c->F5 ((j3 σ ω).set s.heap.objs.size (.ns (bindL (callEnvC fd s.heap.objs.size a).kindOf (ps.zip vs) fun _=>none))) (callEnvC fd s.heap.objs.size a).cells (bindC (callEnvC fd s.heap.objs.size a).kindOf (ps.zip vs) fun _=>none) c=some (.cell (bindC (callEnvC fd s.heap.objs.size a).kindOf (ps.zip vs) (fun _=>none) x)):=
    fun x c e=>a6m C.apart e
   have hap:∀ x y c,(callEnvC fd s.heap.objs.size a).cells.lookup x=some c->(callEnvC fd s.heap.objs.size a).cells.lookup y=some c->x=y:=fun x y c h1 h2=>name_of_addr C.apart (mem_of_lookup h1) (mem_of_lookup h2)
   revert S₄ l₄ hL hce same4
   generalize F5 ((j3 σ ω).set s.heap.objs.size (.ns (bindL (callEnvC fd s.heap.objs.size a).kindOf (ps.zip vs) fun _=>none))) (callEnvC fd s.heap.objs.size a).cells (bindC (callEnvC fd s.heap.objs.size a).kindOf (ps.zip vs) fun _=>none)=ω₄
   intro S₄ l₄ same4 hL hce
   have O:=a9x (a:=a) D hg ((r.monoF hide_f).monoF l₄.f) hL hce
   have hother:∀ b m,ω b=some m->(∀ vs,m≠.lst vs)->j3 σ ω b=some m:=fun b m e hm=>by
    (refine rr (A9 (fun us q=>by rw[e] at q;(replace q:=Option.some.inj q;clear e;subst q);exact hm us rfl)) ?_;exact rr e rfl)
   have Ks':Stk ω₄ (A.deeper (callEnvC fd s.heap.objs.size a)) (callEnvC fd s.heap.objs.size a::l):=by
    refine⟨Around.frames_deeper Ks.frames,fun e he=>?_⟩
    rcases List.mem_cons.mp he with rfl | he
    · exact(u5 (by rw[O.kind];decide) _ _ rfl hL)
    · refine G0 (Ks.ok e he) fun k L' m' h1 h2=>?_
      exact(u5 k L' m' h1 (same4 _ _ (hother _ _ h2 (fun _ q=>by contradiction))))
   refine wpAny_mono (H (callEnvC fd s.heap.objs.size a) _ (j3 σ ω) ω₄ s₁ rfl rfl rfl rfl O ⟨fun x c e=>⟨_,hce x c e⟩,hap⟩ Rm.deeper Ks' S₄ (R.hide.keepF l₄.f fun b us e=>same4 b _ e) (l₄.s _) (hun _ (Nat.le_refl _)) (fun x c e=>by
    have:=hcl x c (mem_of_lookup e)
    exact⟨hun c (Nat.le_of_lt this),Nat.ne_of_gt this⟩:∀ x c,(callEnvC fd s.heap.objs.size a).cells.lookup x=some c->j3 σ ω c=none/\c≠s.heap.objs.size) hother fun b m e h=>same4 b m (hother b m e h)) (fun f s' q=>?_) fun e s' q=>?_
   · obtain⟨v,h,ω',σ',gs',rfl,l',S',R',rv,k⟩:=q
     have l6:Le (j3 σ ω) ω':=LeS.le l' (hun _ (Nat.le_refl _))
     exact⟨h,F3 σ ω ω',σ',gs',T0 l6,S.backS l6 S',(k7 l6).rel R',rv.monoF (k7 l6).f,hK _ _ _ _ _ (k7 l6) k⟩
   · refine a3w hX (ω:=j3 σ ω) (env:=callEnvC fd s.heap.objs.size a) (outer:=l) (Around.frames_deeper Ks.frames) (by rw[O.kind];decide) (fun e he=>?_) rfl q fun s'' x ω' σ' gs' cls msg t e' l' S' R' F hA k=>?_
     · refine G0 (Ks.ok e he) fun k L' m' h1 h2=>?_
       exact(u5 k L' m' h1 (hother _ _ h2 (fun _ q=>by contradiction)))
     · have l6:Le (j3 σ ω) ω':=LeS.le l' (hun _ (Nat.le_refl _))
       exact⟨x,F3 σ ω ω',σ',gs',cls,msg,t,e',T0 l6,S.backS l6 S',(k7 l6).rel R',F.backF l6,hA.monoF (k7 l6).f,hX _ _ _ _ _ _ (k7 l6) k⟩
end
end
section
section
variable {prog:Program}{w:World}{B0:Heap}{os:OsState}{gs:TQ}{mg mb:Str->Option Value}{mu:Pos->Bool}{Γ:Spx}{n:Nat}
theorem a94 {A:Around}{E:Value->Shared->Prop}{Q:Flow->Shared->Prop}{st:Stmt}{rest:List Stmt}{env:Env}{ω:Own}{s:Shared}{σ:St}{ρ:Loc}{G:GC}{N:Loc->St->Prop}(T:TopB B0 mg mb) (X:u6 prog w B0 os gs Γ n) (Rm:Room n A) (O:EnvOk mg mb env ω ρ G) (S:MS B0 os ω gs s) (R:RelS ω σ)
 (h:evS mu Γ st ρ G σ fun fl ρ' σ'=>fl=.nx/\N ρ' σ')
 (H:∀ ω' s' ρ' σ',LeS env.locals ω ω'->EnvOk mg mb env ω' ρ' G->MS B0 os ω' gs s'->RelS ω' σ'->N ρ' σ'->wpAny (model prog w) A (execs rest env) Q E s'):wpAny (model prog w) A (execs (st::rest) env) Q E s:=by
 refine wpAny_execs_cons (wpAny_mono (okS T X st A E ω s σ _ env ρ G Rm O S R h) (fun f s' q=>?_) fun _ _ x=>x)
 obtain⟨fl,ω',σ',ρ',l,O',S',R',hf,rfl,hn⟩:=q
 cases hf
 exact H ω' s' ρ' σ' l O' S' R' hn
theorem c4i {A:Around}{E:Value->Shared->Prop}{Q:Flow->Shared->Prop}{e:Expr}{p:Pos}{rest:List Stmt}{env:Env}{ω:Own}{s:Shared}{σ:St}{ρ:Loc}{G:GC}{N:HV->St->Prop}(T:TopB B0 mg mb) (X:u6 prog w B0 os gs Γ n) (Rm:Room n A) (O:EnvOk mg mb env ω ρ G) (S:MS B0 os ω gs s) (R:RelS ω σ)
 (h:evE mu Γ e ρ G σ N)
 (H:∀ ω' s' v h σ',Le ω ω'->MS B0 os ω' gs s'->RelS ω' σ'->Rd ω' h v->N h σ'->Q (.ret v) s'):wpAny (model prog w) A (execs (.Return (some e) p::rest) env) Q E s:=by
 refine wpAny_execs_cons (wpAny_Return_some (j4 (okE T X e A E ω s σ N env ρ G Rm O S R h) fun h ω' σ' v s' l S' R' r k=>?_))
 exact H ω' s' v h σ' l S' R' r k
theorem b1v {α:Type}{M:Model}{A:Around}{X:Sem α}{Q0:α->Shared->Prop}{E:Value->Shared->Prop}{s:Shared}(h:∀ Q:α->Shared->Prop,(∀ f s,Q0 f s->Q f s)->wpAny M A X Q E s):wpAny M A X Q0 E s:=h Q0 fun _ _ h=>h
theorem t6 {M:Model}{A:Around}{E:Value->Shared->Prop}{s:Shared}{env:Env}{Q:Flow->Shared->Prop}{st:Stmt}{rest:List Stmt}(h:∀ Q₁:Flow->Shared->Prop,(∀ s',wpAny M A (execs rest env) Q E s'->Q₁ .next s')->wpAny M A (exec st env) Q₁ E s):wpAny M A (execs (st::rest) env) Q E s:=wpAny_execs_cons (h _ fun _ h=>h)
theorem Y6 {α:Type}{M:Model}{A:Around}{X:Sem α}{Q0:α->Shared->Prop}{E0:Value->Shared->Prop}{s:Shared}
 (h:∀ (Q:α->Shared->Prop) (E:Value->Shared->Prop),(∀ f s,Q0 f s->Q f s)->(∀ e s,E0 e s->E e s)->wpAny M A X Q E s):wpAny M A X Q0 E0 s:=h Q0 E0 (fun _ _ h=>h) fun _ _ h=>h
section
variable {A:Around}{E:Value->Shared->Prop}{env:Env}{ω:Own}{s:Shared}{σ t:St}{ρ:Loc}{G:GC}
theorem b9f {Q:Flow->Shared->Prop}{st:Stmt}{rest:List Stmt}{r:Loc}(T:TopB B0 mg mb) (X:u6 prog w B0 os gs Γ n) (Rm:Room n A) (O:EnvOk mg mb env ω ρ G) (S:MS B0 os ω gs s) (R:RelS ω σ)
 (h:∀ K:KS,K .nx r t->evS mu Γ st ρ G σ K) (H:∀ ω' s',LeS env.locals ω ω'->EnvOk mg mb env ω' r G->MS B0 os ω' gs s'->RelS ω' t->wpAny (model prog w) A (execs rest env) Q E s') :
 wpAny (model prog w) A (execs (st::rest) env) Q E s:=
 a94 (N:=fun ρ' σ'=>ρ'=r/\σ'=t) T X Rm O S R (h _ (A8 rfl rfl rfl)) fun ω' s' _ _ l O' S' R' q=>H ω' s' l (q.1▸O') S' (q.2▸R')
theorem a43 {Q:Value->Shared->Prop}{e:Expr}{x:HV}(T:TopB B0 mg mb) (X:u6 prog w B0 os gs Γ n) (Rm:Room n A) (O:EnvOk mg mb env ω ρ G) (S:MS B0 os ω gs s) (R:RelS ω σ)
 (h:∀ K:KV,K x t->evE mu Γ e ρ G σ K) (H:∀ ω' v s',Le ω ω'->MS B0 os ω' gs s'->RelS ω' t->Rd ω' x v->Q v s'):wpAny (model prog w) A (eval e env) Q E s:=
 j4 (okE T X e A E ω s σ _ env ρ G Rm O S R (h (fun h σ'=>h=x/\σ'=t) ⟨rfl,rfl⟩)) fun _ ω' _ v s' l S' R' r q=>H ω' v s' l S' (q.2▸R') (q.1▸r)
theorem c2y {Q:Bool->Shared->Prop}{e:Expr}{x:Bool}(T:TopB B0 mg mb) (X:u6 prog w B0 os gs Γ n) (Rm:Room n A) (O:EnvOk mg mb env ω ρ G) (S:MS B0 os ω gs s) (R:RelS ω σ)
 (h:∀ K:Bool->St->Prop,K x t->evT mu Γ e ρ G σ K) (H:∀ ω' s',Le ω ω'->MS B0 os ω' gs s'->RelS ω' t->Q x s'):wpAny (model prog w) A (isTrue e env (eval e env)) Q E s:=
 P1 (okT T X e A E ω s σ _ env ρ G Rm O S R (h (fun h σ'=>h=x/\σ'=t) ⟨rfl,rfl⟩)) fun _ ω' _ s' l S' R' q=>q.1▸H ω' s' l S' (q.2▸R')
end
noncomputable abbrev sp0 (gs:TQ):Spx:=⟨fun _=>none,gs,fun _=>True,0⟩
theorem j8:u6 prog w B0 os gs (sp0 gs) n:=⟨⟨rfl,trivial,Nat.zero_le _⟩,fun v sp e=>by exact c7 e⟩
theorem G6 {A:Around}{E:Value->Shared->Prop}{ω:Own}{s:Shared}{σ:St}{env:Env}{ρ:Loc}{G:GC}{x:Str}{c:Addr}{h:HV}{v:Value}{Q:Unit->Shared->Prop}(O:EnvOk mg mb env ω ρ G) (CO:CellsOk env ω) (S:MS B0 os ω gs s) (R:RelS ω σ)
 (hk:env.kindOf x=some .cell) (hc:env.cells.lookup x=some c) (hd:x≠("__debug__" : Str)/\x≠("__classdict__" : Str)) (r:Rd ω h v)
 (H:∀ s' v0,ω c=some (.cell v0)->LeF ω (ω.set c (.cell (some v)))->EnvOk mg mb env (ω.set c (.cell (some v))) (upd ρ x h) G->CellsOk env (ω.set c (.cell (some v)))->MS B0 os (ω.set c (.cell (some v))) gs s'->RelS (ω.set c (.cell (some v))) σ->Q () s'):wpAny (model prog w) A (storeName env x v) Q E s:=by
 refine o_e (CO.1 x c hc) fun v0 h0=>?_
 have f:LeF ω (ω.set c (.cell (some v))):=LeF.set _ h0 (fun _ q=>by contradiction)
 have un:∀ y h',upd ρ x h y=some h'->(y=x/\h'=h)\/(y≠x/\ρ y=some h'):=fun y h' e=>by
  unfold upd at e
  (revert e;refine ie rfl (fun _ e=>?_) fun _ e=>?_)
  · rename_i q;refine Option.some.inj e▸?_;exact .inl ⟨q,rfl⟩
  · rename_i q;exact .inr ⟨q,e⟩
 refine wpAny_storeName_cell O.kind hk hc (S.hold _ _ h0) fun h' hv hs=>?_
 refine c9 O.loc fun m₀ h1 h2=>?_
 refine H _ v0 h0 f { O with loc:=(j1 m₀ (by refine rr (Own.set_ne _ _ (fun q=>by rw[q,h0] at h1;exact absurd h1 nofun)) ?_;exact h1) (fun y h' e k=>?_)),cel:=fun y h' e k=>?_,dom:=fun y h' e=>?_,dbg:=?_ } ⟨fun y d e=>?_,CO.2⟩ (S.same h0 rfl hs (m:=.cell (some v)) hv s.toks) (R.set _ h0 (fun _ q=>by contradiction) (fun _ q=>by contradiction))
 · refine Or.elim (un y h' e) (fun z259=>?_) fun z260=>?_
   · (refine o_a z259 fun z271 z272=>?_;clear z259;subst z271;clear r H un e;subst z272);have k:=hk▸k;contradiction
   · refine c9 (h2 y h' z260.2 k) fun u h3 h4=>?_
     exact(j1 u h3 (h4.monoF f))
 · refine Or.elim (un y h' e) (fun z137=>?_) fun z138=>?_
   · (refine o_a z137 fun z141 z142=>?_;clear z137;subst z141;clear e un H;subst z142);exact(j7 c v hc (Own.set_self ..) (r.monoF f))
   · refine d9 (O.cel y h' z138.2 k) fun d u h3 h4 h5=>?_
     refine(j7 d u h3 ?_ (h5.monoF f))
     refine rr (Own.set_ne _ _ (fun z=>z138.1 (by cases z;exact CO.2 _ _ _ h3 hc))) ?_;exact h4
 · refine Or.elim (un y h' e) (fun z255=>?_) fun z256=>?_
   · (refine o_a z255 fun z261 z262=>?_;refine rr z261 ?_;clear r H un e z255;subst z262);exact .inr (.inl hk)
   · exact O.dom y h' z256.2
 · refine(A8 ?_ O.dbg.2.1 ?_)
   · unfold upd;refine rr (if_neg (fun q=>hd.1 q.symm)) ?_;exact O.dbg.1
   · unfold upd;refine rr (if_neg (fun q=>hd.2 q.symm)) ?_;exact O.dbg.2.2
 · by_cases q:d=c
   · refine rr q ?_;exact⟨_,Own.set_self ..⟩
   · refine o_e (CO.1 y d e) fun u h3=>?_
     exact⟨u,by refine rr (Own.set_ne _ _ q) ?_;exact h3⟩
theorem a41 {A:Around} {E:Value->Shared->Prop} {s:Shared} {l:Addr} {items:Array Value} {n:Nat} {k:Int} {t:Tok} {v:Value} {Q:Unit->Shared->Prop} (ho:s.heap.get? l=some { cls:=.type "list",data:=.seq items n })
 (h0:0<=k) (hfit:k<2 ^ 63) (hn:k<items.size)
 (hQ:∀ h' n',h'.get? l=some { cls:=.type "list",data:=.seq (items.setIfInBounds k.toNat v) n' }->Heap.SameBut l s.heap h'->Q () { s with heap:=h' }) :
 wpAny (model prog w) A (setItem (.ref l) (.int k t) v) Q E s:=by
 have hl:s.heap.IsList l items:=⟨_,ho,rfl,n,rfl⟩
 unfold setItem
 try with_reducible refine wpAny_holding ?_
 first | refine wpAny_bind (wpAny_pure ?_) | skip
 refine wpAny_bind (wpAny_sequenceKey hl.typeIs (by decide) ?_)
 refine wpAny_bind (wpAny_callSpecial?_slot (name:=Str.ofString "__setitem__") hl.typeIs slot_list_setitem
  (wpAny_call_entry slot_list_setitem hl.typeIs entry_list_setitem ?_ (args_list_setitem _ _ _)))
 show wpAny _ _ (Builtin.List.listSubscript? (.int k t) >>= _) _ _ s
 refine wpAny_bind (wpAny_listSubscript_int (fitsIndex_of h0 hfit) ?_)
 clear hfit
 obtain⟨j,rfl⟩:=Int.eq_ofNat_of_zero_le h0
 refine wpAny_bind (wpAny_bind (wpAny_seqItemAt ho rfl (wpAny_pure ?_)))
 refine rr (Array.getElem?_eq_getElem (show j<items.size from (Int.ofNat_lt.mp hn))) ?_
 have hfin:∃ n',(s.heap.update l (Obj.mapSeq (·.setIfInBounds j v))).get? l=some { cls:=.type "list",data:=.seq (items.setIfInBounds j v) n' }:=by
  refine rr (Heap.get?_update_self (Obj.mapSeq (·.setIfInBounds j v)) ho rfl) ?_
  exact⟨_,rfl⟩
 obtain⟨n',hfin⟩:=hfin
 refine wpAny_bind (wpAny_setSeqItemAt ho rfl ?_)
 first
  | exact wpAny_bind (wpAny_pure (wpAny_pure ⟨.none,rfl,wpAny_pure (hQ _ _ hfin (Heap.SameBut.update ..))⟩))
  | exact wpAny_pure ⟨.none,rfl,wpAny_pure (hQ _ _ hfin (Heap.SameBut.update ..))⟩
theorem RdL.set {ω:Own}:∀ {xs:List HV}{vs:List Value}{j:Nat}{h:HV}{v:Value},RdL ω xs vs->Rd ω h v->RdL ω (xs.set j h) (vs.set j v)
 | [],vs,j,h,v,r,_=>by simp only[RdL] at r;subst r;exact rfl
 | x::xs,vs,0,h,v,r,q=>by
  simp only[RdL] at r
  (refine d9 r fun y l z310 h1 h2=>?_;clear r;subst z310)
  exact(j7 v l rfl q h2)
 | x::xs,vs,j+1,h,v,r,q=>by
  simp only[RdL] at r
  (refine d9 r fun y l z304 h1 h2=>?_;clear r;subst z304)
  exact(j7 y _ rfl h1 (RdL.set h2 q))
theorem a67 {A:Around}{E:Value->Shared->Prop}{ω:Own}{s:Shared}{σ:St}{a:Addr}{l:List HV}{i:Int}{u:Tok}{h:HV}{v:Value}{Q:Unit->Shared->Prop}(S:MS B0 os ω gs s) (R:RelS ω σ) (e:σ a=some l) (hi:0<=i) (hl:i.toNat<l.length) (r:Rd ω h v)
 (H:∀ ω' s',Le ω ω'->MS B0 os ω' gs s'->RelS ω' (σ.put a (l.set i.toNat h))->Q () s'):wpAny (model prog w) A (setItem (.ref a) (.int i u) v) Q E s:=by
 refine D9 (R a l e) fun hz vs h1 r2=>?_
 refine o_e (S.hold _ _ h1) fun n ho=>?_
 refine a41 ho hi (show _<((2 ^ 63:Nat):Int) from Int.lt_of_le_of_lt (Int.self_le_toNat _) (Int.ofNat_lt.mpr (Nat.lt_of_lt_of_le hl (Nat.le_trans hz (Nat.le_trans (lq c8) (by decide)))))) (by refine rr List.size_toArray ?_;exact Int.lt_of_le_of_lt (Int.self_le_toNat _) (Int.ofNat_lt.mpr (Nat.lt_of_lt_of_le hl (lq r2.length.symm)))) fun h' n' hg hs=>?_
 rw[(show vs.toArray.setIfInBounds i.toNat v=(vs.set i.toNat v).toArray from by simp)] at hg
 exact H _ _ (Le.lst h1) (S.same h1 rfl hs (m:=.lst (vs.set i.toNat v)) ⟨n',hg⟩ s.toks) (R.put h1 (by refine rr List.length_set ?_;exact hz) (r2.set r))
end
end
section
section
variable {prog:Program}{w:World}{A:Around}{E:Value->Shared->Prop}{B0:Heap}{os:OsState}{gs:TQ}{ω:Own}{s:Shared}{σ:St}{K:KV}
theorem b44 (n:Nat) (h:3<=n):Builtin.Slice.sliceAdjust none (some 3) 1 (n:Int)=(0,3):=by
 unfold Builtin.Slice.sliceAdjust
 have h1:¬ ((1:Int)<0):=c58
 have h2:¬ ((3:Int)<0):=c35
 dsimp only[h1,h2,if_false]
 congr 1
 exact Int.min_eq_left (Int.ofNat_le.mpr h)
theorem b1h {sl:Addr}{n:Nat}{u:Tok}{Q:Int×Int×Nat->Shared->Prop}(hs:s.heap.IsSliceOf sl .none (.int 3 u) .none) (hn:3<=n) (h:Q (0,1,3) s) :
 wpAny (model prog w) A (Builtin.Slice.sliceApplied (.ref sl) (pure (n:Int))) Q E s:=by
 refine u9 (id hs) fun os hos hcs hds=>?_
 refine wpAny_bind (wpAny_bind (wpAny_field hos hds (x:=.none) rfl (wpAny_bind (wpAny_field hos hds (x:=.int 3 u) rfl (wpAny_bind (wpAny_field hos hds (x:=.none) rfl (wpAny_pure ?_)))))))
 refine wpAny_bind (PyProof.Rows.slicePart_none ?_)
 refine wpAny_bind (PyProof.Rows.slicePart_none (wpAny_bind (PyProof.Rows.slicePart_int (wpAny_bind (wpAny_pure ?_)))))
 refine rr (b44 n hn) ?_
 exact wpAny_pure h
theorem c0w {a b c d e:HV}(h:K (.tup [a,b,c]) σ):slH (.tup [a,b,c,d,e]) none (some 3) σ K:=fun prog w B0 os gs A E ω s value p el eh vo vl vh S R ra pl ph=>by
 obtain⟨ops,hops⟩:=J2 (.Slice el eh none p) vo (.ref s.heap.objs.size)
 refine a63 S R fun ω' l' S' R' hsl=>?_
 have ra':=ra.mono l'
 (refine q9 (T1 S' ra') fun hz t vs z75 ht z76=>?_;clear ra' ra;subst z75;refine d9 z76 fun v1 r1 z77 h1 z78=>?_;subst z77;refine d9 z78 fun v2 r2 z79 h2 z80=>?_;subst z79;refine d9 z80 fun v3 r3 z81 h3 z82=>?_;subst z81;refine d9 z82 fun v4 r4 z83 h4 z84=>?_;subst z83;refine d9 z84 fun v5 r5 z85 h5 z86=>?_;subst z85;clear z76 z78 z80 z82 z84;subst z86)
 obtain rfl:vl=.none:=by cases pl<;>rfl
 obtain⟨u,rfl⟩:∃ u,vh=.int 3 u:=by cases ph;exact⟨_,rfl⟩
 refine PyProof.Rows.tail_any ht.typeIs PyProof.Rows.slot_tuple_getitem.lookup ?_ hops
 have hTs:(⟨_,s.gens,s.drawn,s.toks,s.os⟩:Shared).TypeIs (.ref s.heap.objs.size) "slice" := let ⟨os,hos,hcs,hds⟩:=hsl;⟨os,hos,hcs⟩
 unfold getItem
 try with_reducible refine wpAny_holding ?_
 first | refine wpAny_bind (wpAny_pure ?_) | skip
 refine wpAny_bind (wpAny_sequenceKey ht.typeIs (by decide) ?_)
 refine wpAny_bind (wpAny_callSpecial?_slot (name:=Str.ofString "__getitem__") ht.typeIs PyProof.Rows.slot_tuple_getitem
  (wpAny_call_entry PyProof.Rows.slot_tuple_getitem ht.typeIs PyProof.Rows.entry_tuple_getitem ?_ (PyProof.Rows.args_tuple_getitem _ _)))
 show wpAny _ _ (Builtin.Tuple.tupleItemsOf (.ref t) >>= _) _ _ _
 refine wpAny_bind (PyProof.Rows.tupleItemsOf_ ht ?_)
 refine wpAny_bind (wpAny_typeOf hTs ?_)
 refine wpAny_bind (b1h (n:=5) hsl (by decide) ?_)
 show wpAny _ _ (if ((0:Int)==0&&(1:Int)==1&&(3:Nat)==5)=true then _ else _) _ _ _
 have P:=a6l (n:=0) (xs:=[a,b,c]) (vs:=[v1,v2,v3]) (K:=K) S' R' (by exact(by decide:3<=16777216)) ⟨_,_,rfl,h1,_,_,rfl,h2,_,_,rfl,h3,rfl⟩ h s.toks
 exact wpAny_bind (m:=Builtin.Tuple.tupleExact _) (wpAny_newObj_type (wpAny_pure ⟨_,rfl,wpAny_pure P⟩) (show (3:Nat)<=sizeLine from by simp only[c8];decide))
theorem a6t {h:HV}{v:Value}{xs:List HV}(S:MS B0 os ω gs s) (R:RelS ω σ) (r:Rd ω h v) (e:K1 h σ=some xs):xs.length<=sizeLine/\∃ a vs,v=.ref a/\s.heap.IsList a vs.toArray/\RdL ω xs vs:=by
 induction h using HV.casesOn with
 | list ys=>(replace e:=Option.some.inj e;subst e);exact G7 S r
 | obj a=>refine W9 (Y3 S R r e) fun h1 h2 vs _ h3 h4=>?_;exact(u5 h2 a vs h1 ⟨h3,h4⟩)
 | _=>exact c7 e
theorem a0m {ha hb:HV} {x y:List HV} {va vb:Value} {Q:Value->Shared->Prop} (ea:K1 ha σ=some x) (eb:K1 hb σ=some y) (hz:x.length+y.length<=sizeLine) (S:MS B0 os ω gs s) (R:RelS ω σ) (ra:Rd ω ha va) (rb:Rd ω hb vb)
 (H:∀ vs n t,RdL ω (x++y) vs->Q (.ref s.heap.objs.size) { s with heap:=s.heap.push { cls:=.type "list",data:=.seq vs.toArray n },toks:=t }):wpAny (model prog w) A (binaryOp .Add va vb) Q E s:=by
 (refine q9 (a6t S R ra ea) fun _ a vs z136 hl r1=>?_;refine rr z136 ?_)
 (refine q9 (a6t S R rb eb) fun _ b ws z133 hm r2=>?_;refine rr z133 ?_)
 obtain⟨⟨cls,dd,data,sl⟩,ho,hc,n,hd⟩:=id hl
 obtain⟨⟨cls2,dd2,data2,sl2⟩,ho2,hc2,n2,hd2⟩:=id hm
 simp only at hc hd hc2 hd2
 subst hc hd hc2 hd2
 refine PySem.concat_meets (j1 _ ho rfl) (j1 _ ho2 rfl) noFill_list_add seq_list_add PySem.F.slot_list_add PySem.F.entry_list_add (PySem.F.args_list_add_2 _ _) (PyProof.Rows.list_addW a b vs.toArray ws.toArray n n2 dd dd2 sl sl2 (by have:=r1.length;have:=r2.length;exact b7u hz (by assumption) this)) (A8 ho ho2 ?_)
 refine rr (show vs.toArray++ws.toArray=(vs++ws).toArray from by simp) ?_
 exact H _ _ _ (r1.append r2)
theorem a4y {ha hb:HV}{x y:List HV}(ea:K1 ha σ=some x) (eb:K1 hb σ=some y) (hz:x.length+y.length<=sizeLine) (h:K (.list (x++y)) σ):a0p .Add ha hb σ K:=fun _ _ _ _ _ A E ω s va vb S R ra rb=>
 a0m ea eb hz S R ra rb fun vs n t r=>F6 S R (by simpa using hz) r h _
theorem b53 {ha hb:HV} {x y:List HV} (ea:K1 ha σ=some x) (eb:K1 hb σ=some y) (hz:x.length+y.length<=sizeLine) (h:∀ c,σ c=none->K (.obj c) (σ.put c (x++y))):a0p .Add ha hb σ K:=fun _ _ _ _ _ A E ω s va vb S R ra rb=>
 a0m ea eb hz S R ra rb fun vs n t r=>by
  have S₁:=(S.push { cls:=.type "list",data:=.seq vs.toArray n } (m:=.lst vs) ⟨n,Heap.get?_push_size _ rfl⟩).toks t
  have hn:σ s.heap.objs.size=none:=by
   induction q:σ s.heap.objs.size with
   | none=>rfl
   | some l=>refine D9 (R _ _ q) fun _ us e _=>?_;rw[S.unused] at e;exact c7 e
  exact⟨.obj s.heap.objs.size,_,_,(Le.new (OM.lst vs) S.unused),S₁,R.putNew S.unused (by simpa using hz) r,rfl,h _ hn⟩
section
variable {mu:Pos->Bool}{Γ:Spx}{ρ:Loc}{G:GC}{KF:KS}{KB:Bool->St->Prop}
theorem b5a {l r₁ r₂:Expr}{o₁ o₂:CmpOp}{p:Pos}(hm:lastMarks [o₁,o₂] [r₁,r₂]=false) (h:evE mu Γ l ρ G σ fun a σ1=>evE mu Γ r₁ ρ G σ1 fun b σ₂=>cmpH o₁ a b σ₂ fun c σ₃=>∃ t,P7 c σ₃=some t/\if t then evE mu Γ r₂ ρ G σ₃ fun d σ₄=>cmpH o₂ b d σ₄ K else K c σ₃) :
 evE mu Γ (.Compare l [o₁,o₂] [r₁,r₂] p) ρ G σ K:=fun prog w B0 os gs mg mb n T X A E ω s env Rm O S R=>by
 refine PyProof.Rows.Compare_chain (j4 (h T X A E ω s env Rm O S R) fun a ω₁ σ1 va s₁ l₁ S₁ R₁ r₁ H₁=>?_) hm
 refine PyProof.Rows.chain_link (j4 (H₁ T X A E ω₁ s₁ env Rm (O.mono l₁) S₁ R₁) fun b ω₂ σ₂ vb s₂ l₂ S₂ R₂ r₂ H₂=>?_)
 refine j4 (H₂ A E ω₂ s₂ va vb Rm S₂ R₂ (r₁.mono l₂) r₂) fun c ω₃ σ₃ vc s₃ l₃ S₃ R₃ r₃ H3=>?_
 refine c9 H3 fun t ht H3=>?_
 refine a5f S₃ R₃ r₃ ht fun tk=>?_
 clear ht;induction t with
 | false=>exact⟨c,ω₃,σ₃,(l₁.trans l₂).trans l₃,S₃.toks _,R₃,r₃,H3⟩
 | true=>
  refine PyProof.Rows.chain_last (j4 (H3 T X A E ω₃ _ env Rm (O.mono ((l₁.trans l₂).trans l₃)) (S₃.toks tk) R₃) fun d ω₄ σ₄ vd s₄ l₄ S₄ R₄ r₄ H4=>?_)
  exact U1 (H4 A E ω₄ s₄ vb vd Rm S₄ R₄ ((r₂.mono l₃).mono l₄) r₄) (((l₁.trans l₂).trans l₃).trans l₄)
theorem a0g {b:Bool}{k:Nat}{p:Pos}(h:KB b σ):evT mu Γ (.Constant (.bool b) k p) ρ G σ KB:=fun prog w B0 os gs mg mb n T X A E ω s env Rm O S R=>
 wpAny_isTrue_value (wpAny_Constant_bool (wpAny_truthy_bool ⟨ω,σ,.refl _,S,R,h⟩)) (by rfl)
theorem a6v {e o i:Expr}{q p:Pos}(h1:J5 e=true) (h:evE mu Γ e ρ G σ fun hv σ1=>evE mu Γ o ρ G σ1 fun ho σ₂=>evE mu Γ i ρ G σ₂ fun hi σ₃=>∃ a l k,ho=.obj a/\hi=.int k/\σ₃ a=some l/\0<=k/\k.toNat<l.length/\KF .nx ρ (σ₃.put a (l.set k.toNat hv))) :
 evS mu Γ (.Assign [.Subscript o i q] e p) ρ G σ KF:=fun prog w B0 os gs mg mb n T X A E ω s env Rm O S R=>by
 refine wpAny_Assign_Subscript (j4 (h T X A E ω s env Rm O S R) fun hv ω₁ σ1 v s₁ l₁ S₁ R₁ r₁ H₁=>?_) (k9 h1)
 refine j4 (H₁ T X A E ω₁ s₁ env Rm (O.mono l₁) S₁ R₁) fun ho ω₂ σ₂ ov s₂ l₂ S₂ R₂ r₂ H₂=>?_
 refine j4 (H₂ T X A E ω₂ s₂ env Rm (O.mono (l₁.trans l₂)) S₂ R₂) fun hi ω₃ σ₃ iv s₃ l₃ S₃ R₃ r₃ H3=>?_
 (refine G1 H3 fun a l k z151 z152 h4 h5 h6 h7=>?_;clear H3;clear H₂;subst z151;subst z152)
 obtain rfl:=r₂
 (refine o_e r₃ fun u z162=>?_;clear r₃;subst z162)
 refine a67 S₃ R₃ h4 h5 h6 ((r₁.mono l₂).mono l₃) fun ω₄ s₄ l₄ S₄ R₄=>?_
 exact⟨.nx,ω₄,_,ρ,(((l₁.trans l₂).trans l₃).trans l₄).s _,O.mono (((l₁.trans l₂).trans l₃).trans l₄),S₄,R₄,.nx,h7⟩
theorem RdL.erase {ω:Own}:∀ {xs:List HV}{vs:List Value}{k:Nat},RdL ω xs vs->RdL ω (xs.eraseIdx k) (vs.eraseIdx k)
 | [],vs,k,r=>by subst r;exact rfl
 | x::xs,vs,0,r=>by (refine d9 r fun v q z172 _ h=>?_;clear r;subst z172);exact h
 | x::xs,vs,k+1,r=>by (refine d9 r fun v q z166 h1 h=>?_;clear r;subst z166);exact(j7 v _ rfl h1 (RdL.erase h))
theorem b66 {o i:Expr}{q p:Pos}(h:evE mu Γ o ρ G σ fun ho σ₂=>evE mu Γ i ρ G σ₂ fun hi σ₃=>∃ a l k,ho=.obj a/\hi=.int (k:Nat)/\σ₃ a=some l/\k<l.length/\l.length<1000/\KF .nx ρ (σ₃.put a (l.eraseIdx k))) :
 evS mu Γ (.Delete [.Subscript o i q] p) ρ G σ KF:=fun prog w B0 os gs mg mb n T X A E ω s env Rm O S R=>by
 refine wpAny_Delete (wpAny_deleteEach_cons (wpAny_delete_Subscript (j4 (h T X A E ω s env Rm O S R) fun ho ω₂ σ₂ ov s₂ l₂ S₂ R₂ r₂ H₂=>?_)))
 refine j4 (H₂ T X A E ω₂ s₂ env Rm (O.mono l₂) S₂ R₂) fun hi ω₃ σ₃ iv s₃ l₃ S₃ R₃ r₃ H3=>?_
 (refine G1 H3 fun a l k z183 z184 h4 h5 h6 h7=>?_;clear H3;clear H₂;subst z183;subst z184)
 obtain rfl:=r₂
 (refine o_e r₃ fun u z206=>?_;clear r₃;subst z206)
 refine D9 (R₃ a l h4) fun hz vs e1 r4=>?_
 obtain⟨m,ho⟩:=S₃.hold _ _ e1
 have hlen:=r4.length
 refine P.delItem_list (n:=m) (k:=k) ho (by unfold Builtin.List.listFitsIndex;simp;exact Int.ofNat_lt.mpr ((c6 (ad h6 h5) (by simp +arith)):_<9223372036854775808)) (by refine rr List.size_toArray ?_;unfold seqIndex?;simp[Int.not_lt.mpr (Int.natCast_nonneg k),hlen,h5]) (wpAny_deleteEach_nil ?_) (by rw[List.size_toArray,hlen];exact hz)
 have S₄:=S₃.same (m:=.lst (vs.eraseIdx k)) e1 rfl (Heap.SameBut.update ..) ⟨_,by
  have:=IsL.update (n:=m) ho (fun xs=>xs.eraseIdxIfInBounds k)
  rw[(show vs.toArray.eraseIdxIfInBounds k=(vs.eraseIdx k).toArray from by simp)] at this
  exact this⟩ s₃.toks
 have R₄:=R₃.put (xs:=l.eraseIdx k) e1 (Nat.le_trans (List.length_eraseIdx_le ..) hz) (r4.erase (k:=k))
 exact⟨.nx,_,_,ρ,((l₂.trans l₃).trans (Le.lst e1)).s _,O.mono ((l₂.trans l₃).trans (Le.lst e1)),S₄,R₄,.nx,h7⟩
end
end
end
section
noncomputable def noS:Stmt:=.Pass ⟨0,0,0,0⟩
noncomputable def b1m (s:Stmt):List Stmt:=(stI s).2.1
section
variable {mu:Pos->Bool}{Γ:Spx}{ρ:Loc}{G:GC}{KF:KS}{σ:St}
theorem I2 {M:Model}{A:Around}{E:Value->Shared->Prop}{s:Shared}{env:Env}{x:Str}{p:Pos}{v:Value}{Q:Unit->Shared->Prop}(h:wpAny M A (storeName env x v) Q E s):wpAny M A (assign (.Name x p) env v) Q E s:=by
 exact wpAny_bind (wpAny_standAt (wpAny_bindName h))
theorem a9w {x y:Str}{px py tp p:Pos}{k:Nat}{e:Expr}(hx:nmB G x=true) (hy:nmB G y=true) (hs:J5 e=true) (hw:∀ env,swappedStores [.Tuple [.Name x px,.Name y py] k tp] e env=pure none)
 (h:evE mu Γ e ρ G σ fun hv σ1=>∃ a b,hv=.tup [a,b]/\KF .nx (upd (upd ρ x a) y b) σ1):evS mu Γ (.Assign [.Tuple [.Name x px,.Name y py] k tp] e p) ρ G σ KF:=fun prog w B0 os gs mg mb n T X A E ω s env Rm O S R=>by
 refine PyProof.Rows.Assign_Tuple (j4 (h T X A E ω s env Rm O S R) fun hv ω₁ σ1 v s₁ l₁ S₁ R₁ r₁ H₁=>?_) (by unfold swapsWithSole;exact k9 hs) (hw env)
 obtain⟨a,b,rfl,H₁⟩:=H₁
 (refine q9 (T1 S₁ r₁) fun hz t vs z267 ht z268=>?_;refine rr z267 ?_;refine d9 z268 fun v1 r1 z269 h1 z270=>?_;subst z269;refine d9 z270 fun v2 r2 z271 h2 z272=>?_;subst z271;clear z268 z270;subst z272)
 refine PyProof.Rows.assign_Tuple_tuple Rm.handled ht rfl rfl fun h' hx'=>?_
 have S₂:=S₁.keeps (h':=h') (fun b o e=>hx' b o (Nat.ne_of_lt (Heap.lt_size e)) e) s₁.toks
 refine PyProof.Rows.assignInOrder_cons (I2 (o9 (O.mono l₁) S₂ R₁ hx h1 fun ω₅ s₅ l₅ f₅ O5 S₅ R₅=>?_))
 refine PyProof.Rows.assignInOrder_cons (I2 (o9 O5 S₅ R₅ hy (h2.monoF f₅) fun ω6 s₆ l₆ f₆ O6 S6 R6=>?_))
 exact PyProof.Rows.assignInOrder_nil ⟨.nx,ω6,σ1,_,((l₁.s _).trans l₅).trans l₆,O6,S6,R6,.nx,H₁⟩
theorem a9v {x y z:Str}{px py pz tp p:Pos}{k:Nat}{e:Expr}(hx:nmB G x=true) (hy:nmB G y=true) (hz:nmB G z=true) (hs:J5 e=true) (hw:∀ env,swappedStores [.Tuple [.Name x px,.Name y py,.Name z pz] k tp] e env=pure none)
 (h:evE mu Γ e ρ G σ fun hv σ1=>∃ a b c,hv=.tup [a,b,c]/\KF .nx (upd (upd (upd ρ x a) y b) z c) σ1):evS mu Γ (.Assign [.Tuple [.Name x px,.Name y py,.Name z pz] k tp] e p) ρ G σ KF:=fun prog w B0 os gs mg mb n T X A E ω s env Rm O S R=>by
 refine PyProof.Rows.Assign_Tuple (j4 (h T X A E ω s env Rm O S R) fun hv ω₁ σ1 v s₁ l₁ S₁ R₁ r₁ H₁=>?_) (by unfold swapsWithSole;exact k9 hs) (hw env)
 obtain⟨a,b,c,rfl,H₁⟩:=H₁
 (refine q9 (T1 S₁ r₁) fun hz t vs z288 ht z289=>?_;refine rr z288 ?_;refine d9 z289 fun v1 r1 z290 h1 z291=>?_;subst z290;refine d9 z291 fun v2 r2 z292 h2 z293=>?_;subst z292;refine d9 z293 fun v3 r3 z294 h3 z295=>?_;subst z294;clear z289 z291 z293;subst z295)
 refine PyProof.Rows.assign_Tuple_tuple Rm.handled ht rfl rfl fun h' hx'=>?_
 have S₂:=S₁.keeps (h':=h') (fun b o e=>hx' b o (Nat.ne_of_lt (Heap.lt_size e)) e) s₁.toks
 refine PyProof.Rows.assignInOrder_cons (I2 (o9 (O.mono l₁) S₂ R₁ hx h1 fun ω₅ s₅ l₅ f₅ O5 S₅ R₅=>?_))
 refine PyProof.Rows.assignInOrder_cons (I2 (o9 O5 S₅ R₅ hy (h2.monoF f₅) fun ω6 s₆ l₆ f₆ O6 S6 R6=>?_))
 refine PyProof.Rows.assignInOrder_cons (I2 (o9 O6 S6 R6 (by assumption) ((h3.monoF f₅).monoF f₆) fun ω7 s7 l7 f₇ O7 S7 R7=>?_))
 exact PyProof.Rows.assignInOrder_nil ⟨.nx,ω7,σ1,_,(((l₁.s _).trans l₅).trans l₆).trans l7,O7,S7,R7,.nx,H₁⟩
theorem a3n {t:Expr}{vs:List Expr}{k:Nat}{p:Pos}(h:vs.all (foldedForSure 8)=true) (env:Env):swappedStores [t] (.Tuple vs k p) env=pure none:=by
 unfold swappedStores
 cases t<;>dsimp only<;>(try rfl)<;>(repeat' (split<;>try rfl))<;>(rename_i q;exact absurd h q)
theorem a4m {t:Expr}{f:Expr}{a:List Expr}{ks:List Keyword}{p:Pos}(env:Env):swappedStores [t] (.Call f a ks p) env=pure none:=by
 cases t<;>rfl
end
section
variable {mu:Pos->Bool}{Γ:Spx}{ρ:Loc}{G:GC}{σ:St}{K:KV}
theorem b2s {lo:Int}{P:List HV->Prop}(h:P ((List.range lo.toNat).map fun (k:Nat)=>HV.int (lo-(k:Int)))):∃ xs,I6 (.rngd lo)=some xs/\P xs:=(j1 _ rfl h)
theorem c4f {l:List UInt8}{P:List HV->Prop}(h:P (l.map fun c=>HV.int c.toNat)):∃ xs,I6 (.bytes l)=some xs/\P xs:=(j1 _ rfl h)
theorem U9 {e:Expr}{K K':KV}(h:∀ a σ,K a σ->K' a σ) (q:evE mu Γ e ρ G σ K):evE mu Γ e ρ G σ K':=fun prog w B0 os gs mg mb n T X A E ω s env Rm O S R=>
 wpAny_mono (q T X A E ω s env Rm O S R) (fun v s' p=>let ⟨a,ω',σ',l,S',R',r,k⟩:=p;⟨a,ω',σ',l,S',R',r,h _ _ k⟩) fun _ _ x=>x
theorem a1f {e:Expr}{x:HV}{σ':St}(q:evE mu Γ e ρ G σ fun h s=>h=x/\s=σ') (k:K x σ'):evE mu Γ e ρ G σ K:=U9 (fun a s q=>by obtain⟨rfl,rfl⟩:=q;exact k) q
theorem b0r {o:Expr}{ap p:Pos}(h1:T4 o=true) (h3:ap.endLine=p.line) (h:evE mu Γ o ρ G σ fun a σ1=>∃ c,a=.str [c]/\K (.bool (Unicode.isAlnum c)) σ1):evE mu Γ (.Call (.Attribute o (Str.ofString "isalnum") ap) [] [] p) ρ G σ K:=
 a83 (id:="str.isalnum") (fun _ _=>u8 h1) F.slot_str_isalnum F.type_str_isalnum h3 (by decide) rfl (U9 (fun a σ1 q=>by
  (refine c9 q fun c z336 h=>?_;clear q;refine rr z336 ?_)
  exact(j1 ([c]) rfl (V9 (b0i h)))) h)
end
mutual
theorem a9d {σ σ':St}:∀ (n:Nat) (h:HV),J3 n h=true->frz σ σ' h=some h
 | _,.none,_ | _,.bool _,_ | _,.int _,_ | _,.str _,_ | _,.bytes _,_ | _,.val _,_ | _,.rng _ _,_ | _,.rngd _,_ | _,.mt _,_ | _,.bm _,_=>rfl
 | n+1,.list xs,d=>by show (a42 σ σ' xs).map _=_;refine rr (a34 n xs (List.all_eq_true.mp d)) ?_;rfl
 | n+1,.tup xs,d=>by show (a42 σ σ' xs).map _=_;refine rr (a34 n xs (List.all_eq_true.mp d)) ?_;rfl
 | 0,.list _,d=>by exact j0 ((show false=true from d))
 | 0,.tup _,d=>by exact j0 ((show false=true from d))
 | n,.obj _,d=>by cases n<;>exact j0 d
theorem a34 {σ σ':St}:∀ (n:Nat) (xs:List HV),(∀ x∈xs,J3 n x=true)->a42 σ σ' xs=some xs
 | _,[],_=>rfl
 | n,x::xs,d=>by show (frz σ σ' x).bind _=_;(refine rr (a9d n x (d x (.head _))) ?_;refine rr (a34 n xs fun y hy=>d y (.tail _ hy)) ?_);rfl
end
theorem W4 {σ σ':St}{K:KV}{b:HV}(n:Nat) (d:J3 n b=true) (h:K b (within σ σ')):∃ h h',Fl.rt b=.rt h/\frz σ σ' h=some h'/\K h' (within σ σ'):=(j7 _ _ rfl (a9d n b d) h)
end
theorem nrfl : (none : Option HV) = none := rfl
theorem c3k : HV.none = HV.none := rfl
/-! the syntax of a step, built by hand -/
def syN (k : Lean.Name) (a : Array Lean.Syntax) : Lean.Syntax := .node .none k a
def syA (s : String) : Lean.Syntax := .atom .none s
def syT (s : String) (a : Array Lean.Syntax) : Lean.Syntax := syN (.str `Lean.Parser.Tactic s) a
def syK (k : String) (s : String) (a : List Lean.Syntax) : Lean.Syntax := syT k (syA s :: a).toArray
def syS (t : Lean.Syntax) : Lean.Syntax := syT "tacticSeq" #[syT "tacticSeq1Indented" #[syN `null #[t]]]
def syB (t : Lean.Syntax) : Lean.Syntax := syN `Lean.Parser.Term.byTactic #[syA "by", syS t]
def syP (f : String) (as : List Lean.Syntax) : Lean.Syntax := if as.isEmpty then Lean.mkIdent f.toName else syN `Lean.Parser.Term.app #[Lean.mkIdent f.toName, syN `null as.toArray]
def syD (k : List Lean.Syntax) : Lean.Syntax := syK "decide" "decide" [syT "optConfig" #[syN `null k.toArray]]
def syU (t : Lean.Syntax) : Lean.Syntax := syB (syK "withUnfoldingAll" "with_unfolding_all" [syS t])
def syW (s : String) : Lean.Syntax := syB (syN `PyProof.Rows.tacticWalk_at_ #[syA "walk_at", syN `str #[syA s.quote]])
def syQ (t : List Lean.Syntax) : Lean.Syntax := syT "tacticSeq" #[syT "tacticSeq1Indented" #[syN `null ((t.intersperse (syA ";")).toArray)]]
def syF (t : Lean.Syntax) : Lean.Syntax := syK "failIfSuccess" "fail_if_success" [syS t]
def syG (h : String) : Lean.Syntax := syF (syF (syK "refine" "refine" [syP ("gd_" ++ h) [syN `Lean.Parser.Term.syntheticHole #[syA "?", syA "_"]]]))
def syM (t : List Lean.Syntax) : Lean.Syntax := syK "first" "first" [syN `null ((t.map fun t => syN `group #[syA "|", t]).toArray)]
def evArg (c : Char) : Lean.Syntax :=
  let z := syB (syD [syT "configItem" #[syT "posConfigItem" #[syA "+", syP "kernel" []]]])
  let a := syB (syK "assumption" "assumption" [])
  let r := syP "rfl" []
  (("rkntTOgd?zeacpjoLR".toList.zip [syU (syK "tacticRfl" "rfl" []), syB (syN `tacticKernel_rfl #[syA "kernel_rfl"]), syW "nm", syW "at", syW "as", syW "ao", syU (syK "exact" "exact" [syP "tt" []]), syU (syD []), syN `Lean.Parser.Term.syntheticHole #[syA "?", syA "_"], z, syP "d6" [z], a, syP "b36" [a], syP "b21" [a], syP "c0q" [], syP "c3k" [], syP "Or.inl" [r], syP "Or.inr" [r]]).lookup c).getD r
/-! r: by rfl, k: by the kernel, z: decided by the kernel, e: two names differ, n: a name, d: decide, a: a fact at hand -/
def evOne (q w : String) : Lean.Syntax :=
  let cs := w.splitOn ":"
  syS (syK "refine" "refine" [syP (cs.getD 0 "") (((cs.getD 1 "") ++ q).toList.map evArg)])
def evGrp (q w : String) : Lean.Syntax :=
  let cs := w.splitOn "="
  let f := syM (((cs.getD 1 "").splitOn " ").map (evOne q))
  if cs.getD 0 "" == "" then syS f else syQ [syG (cs.getD 0 ""), f]
local macro_rules | `(tactic| walk_at $key:str) => do
  let k := key.getString
  let (q, w) <- match k with
    | "nm" => pure ("", "=i5 i8:en b6k nrfl b3y:zn b1r:z b1j:zn b1i:zzn a8r:zn a9l:zn")
    | "at" => pure ("", "=c0j:gn b5g:gnn c16 b9z:k c1i:ggtt b9d:ggtt b6m:rgnnt b6j:rgnnt b6x:rgnnt b6o b5k")
    | "as" => pure ("", "=c1z:gtT c5c")
    | "ao" => pure ("", "=c2o:gt c3b")
    | "ev" => pure ("?", "evE=c0m:ggtt b9m:gt b9q:rggtt b9t:rggtt c1m:rgt b39:gtOO b0b:rnnrT b0b:rnncT b3u:rnrT c0e:drT b63:rdrT X5:n b83 b3j:k b2c b4j b22:nn T9 b91:r U3:rnnr U3:rnnc a9h:rnr a9u b3q:r b3h:rLrdr b3h:rRrdr q_un q_if c3v q_or a9e:dr U8:rdr a3v:rdr b92:kr c1r:kr c1a:rl b33 b5a:r b0r:rr;evB=b9n:rkgt c1e:gt a1i a6w q_B0 m5:rk a9r b69:r a90:kn a84 b01:k b2n b0h q_B;evT=qa_T:rggtt ql_T:rgt a5d:r b7k b25 b51:n b1x a0g;cmpH=c2p c40 d_lt d_gt d_ge c2w c1y b8s b8j c3i c_le c5i c4q b8l b2b b4x Q7 W2:l a6b:l c2h b9v c15 c52 a2j c36;evS=b35 a49 a7i:r a3f:rk a6q:k b0f:kn b4a b1o b6h:kr b09 a2z;=c5g:gt a7m V9 q_o0 q_o b2x b7d b62 c07 q_j0 q_jv b9b b7q c4c V2 c3l c31:a b5d b32 b1f a46 a3h a13 b0l:a c41 c1t c2t c08 oi c53 And.intro:j And.intro:p c33 c48 And.intro:o b3i b74 c2a:a b2s c4f c0i")
    | _ => Lean.Macro.throwUnsupported
  let ts := (w.splitOn ";").map (evGrp q)
  return syK "withReducible" "with_reducible" [syS (syM ((if k == "nm" then [syS (syK "assumption" "assumption" [])] else []) ++ ts))]
section
noncomputable abbrev A7:=Option (List Nat)
noncomputable def l0:List A7->List (List Nat)
 | some s::r=>s::l0 r
 | _=>[]
noncomputable def n9:List A7->List A7
 | some _::r=>n9 r
 | l=>l
noncomputable def c28:Expr×List Stmt:=N8 (kid (stm 12) 3)
theorem a1r (star:Addr) (pre:List A7) (x:A7) (r:List A7):at? ((pre++x::r).map (prH star)) (pre.length:Int)=some (prH star x):=by refine rr at_nat ?_;simp
theorem a8v {Γ:Spx}{gt:Loc}{ar star:Addr}{P:List A7}(hP:P.length<=100) :
 ∀ (r pre:List A7) (acc:List (List Nat)) (ρ:Loc) (σ:St) (n:Nat) (KF:KS),P=pre++r->ρ (Str.ofString "inp")=some (.list (P.map (prH star)))->ρ (Str.ofString "i")=some (.int (pre.length:Nat))->ρ (Str.ofString "n")=some (.int (P.length:Nat))->
  ρ (Str.ofString "STAR")=some (.val (.ref star))->ρ (Str.ofString "add")=some (.bm ar)->σ ar=some (acc.map HV.str)->r.length<n->acc.length+r.length<=1000->
  (∀ ρ' σ',ρ' (Str.ofString "i")=some (.int ((pre.length+(l0 r).length:Nat):Int))->σ' ar=some ((acc++l0 r).map HV.str)->(∀ x,x≠ar->σ' x=σ x)->(∀ x,x≠Str.ofString "i" -> ρ' x=ρ x)->KF .nx ρ' σ')->
  whL (fun ρ σ K=>evT (fun _=>true) Γ c28.1 ρ (d7 (b0 (stm 12)) gt) σ K) (fun ρ σ K=>evB (fun _=>true) Γ c28.2 ρ (d7 (b0 (stm 12)) gt) σ K) n ρ σ KF:=by
 have ln:=c8
 intro r
 induction r with
 | nil=>
   intro pre acc ρ σ n KF hu e1 e2 e3 e4 e5 hl hn hz hK
   obtain⟨n,rfl⟩:∃ m,n=m+1:=⟨n-1,ar8 hn⟩
   refine V3 ?_
   conv=>arg 3;whnf
   conv=>arg 5;arg 1;whnf
   repeat' walk_at "ev"
   have hpl:pre.length=P.length:=by refine rr hu ?_;simp
   refine k6 (by refine rr hpl ?_;simp) ?_
   repeat' walk_at "ev"
   exact hK ρ σ (by simpa [l0] using e2) (by simpa [l0] using hl) (fun _ _=>rfl) fun _ _=>rfl
 | cons x r ih=>
   intro pre acc ρ σ n KF hu e1 e2 e3 e4 e5 hl hn hz hK
   simp only[List.length_cons] at hn hz
   obtain⟨n,rfl⟩:∃ m,n=m+1:=⟨n-1,ar7 hn⟩
   have hlen:P.length=pre.length+(r.length+1):=by refine rr hu ?_;simp
   have hat:at? (P.map (prH star)) (pre.length:Int)=some (prH star x):=by refine rr hu ?_;exact a1r star pre x r
   refine V3 ?_
   conv=>arg 3;whnf
   conv=>arg 5;arg 1;whnf
   repeat' walk_at "ev"
   refine o7 (by simp;exact c12 hlen) ?_
   repeat' walk_at "ev"
   refine y2 (by exact a6a hlen hP) hat ?_
   repeat' walk_at "ev"
   induction x with
   | none=>
     refine W2 rfl ?_
     repeat' walk_at "ev"
     exact hK ρ σ (by simpa [l0] using e2) (by simpa [l0] using hl) (fun _ _=>rfl) fun _ _=>rfl
   | some s=>
     refine Q7 ?_
     repeat' walk_at "ev"
     conv=>arg 3;whnf
     conv=>arg 5;arg 1;whnf
     repeat' walk_at "ev"
     refine y2 (by exact a6a hlen hP) hat ?_
     repeat' walk_at "ev"
     refine a02 hl (by simp;exact c2q hz ln) ?_
     repeat' walk_at "ev"
     refine ih (pre++[some s]) (acc++[s]) _ _ n KF (by refine rr hu ?_;simp) ?_ ?_ ?_ ?_ ?_ ?_ (ar0 hn) (by simp;exact ar4 hz) fun ρ' σ' q1 q2 q3 q4=>hK ρ' σ' ?_ ?_ ?_ ?_
     · walk_at "nm"
     · have e:(((pre++[some s]).length:Nat):Int)=(pre.length:Int)+1:=by (refine rr List.length_append ?_;refine rr List.length_singleton ?_);exact ar2
       refine rr e ?_;walk_at "nm"
     · walk_at "nm"
     · walk_at "nm"
     · walk_at "nm"
     · refine rr g0 ?_;simp[prH]
     · refine rr q1 ?_;simp[l0];exact c3p
     · refine rr q2 ?_;simp[l0]
     · intro y hy;(refine rr (q3 y hy) ?_;exact rr (j5 hy) rfl)
     · intro y hy;(refine rr (q4 y hy) ?_;exact rr (i8 hy rfl) rfl)
end
section
noncomputable def c2v:Expr×List Stmt:=N8 (kid (kid (stm 12) 4) 5)
theorem a7s {Γ:Spx}{gt:Loc}{ar star:Addr}{P:List A7}(hP:P.length<=100) :
 ∀ (r pre:List A7) (acc:List (List Nat)) (ρ:Loc) (σ:St) (n:Nat) (KF:KS),P=pre++r->ρ (Str.ofString "inp")=some (.list (P.map (prH star)))->ρ (Str.ofString "i")=some (.int (pre.length:Nat))->ρ (Str.ofString "n")=some (.int (P.length:Nat))->
  ρ (Str.ofString "STAR")=some (.val (.ref star))->ρ (Str.ofString "fixed")=some (.obj ar)->σ ar=some (acc.map HV.str)->r.length<n->acc.length+r.length<=1000->
  (∀ ρ' σ',ρ' (Str.ofString "i")=some (.int ((pre.length+(l0 r).length:Nat):Int))->σ' ar=some ((acc++l0 r).map HV.str)->(∀ x,x≠ar->σ' x=σ x)->(∀ x,x≠Str.ofString "i" -> ρ' x=ρ x)->KF .nx ρ' σ')->
  whL (fun ρ σ K=>evT (fun _=>true) Γ c2v.1 ρ (d7 (b0 (stm 12)) gt) σ K) (fun ρ σ K=>evB (fun _=>true) Γ c2v.2 ρ (d7 (b0 (stm 12)) gt) σ K) n ρ σ KF:=by
 have ln:=c8
 intro r
 induction r with
 | nil=>
   intro pre acc ρ σ n KF hu e1 e2 e3 e4 e5 hl hn hz hK
   obtain⟨n,rfl⟩:∃ m,n=m+1:=⟨n-1,ar8 hn⟩
   refine V3 ?_
   conv=>arg 3;whnf
   conv=>arg 5;arg 1;whnf
   repeat' walk_at "ev"
   have hpl:pre.length=P.length:=by refine rr hu ?_;simp
   refine k6 (by refine rr hpl ?_;simp) ?_
   repeat' walk_at "ev"
   exact hK ρ σ (by simpa [l0] using e2) (by simpa [l0] using hl) (fun _ _=>rfl) fun _ _=>rfl
 | cons x r ih=>
   intro pre acc ρ σ n KF hu e1 e2 e3 e4 e5 hl hn hz hK
   simp only[List.length_cons] at hn hz
   obtain⟨n,rfl⟩:∃ m,n=m+1:=⟨n-1,ar7 hn⟩
   have hlen:P.length=pre.length+(r.length+1):=by refine rr hu ?_;simp
   have hat:at? (P.map (prH star)) (pre.length:Int)=some (prH star x):=by refine rr hu ?_;exact a1r star pre x r
   refine V3 ?_
   conv=>arg 3;whnf
   conv=>arg 5;arg 1;whnf
   repeat' walk_at "ev"
   refine o7 (by simp;exact c12 hlen) ?_
   repeat' walk_at "ev"
   refine y2 (by exact a6a hlen hP) hat ?_
   repeat' walk_at "ev"
   induction x with
   | none=>
     refine W2 rfl ?_
     repeat' walk_at "ev"
     exact hK ρ σ (by simpa [l0] using e2) (by simpa [l0] using hl) (fun _ _=>rfl) fun _ _=>rfl
   | some s=>
     refine Q7 ?_
     repeat' walk_at "ev"
     conv=>arg 3;whnf
     conv=>arg 5;arg 1;whnf
     repeat' walk_at "ev"
     refine y2 (by exact a6a hlen hP) hat ?_
     repeat' walk_at "ev"
     refine D0 hl (by simp;exact c2q hz ln) ?_
     repeat' walk_at "ev"
     refine ih (pre++[some s]) (acc++[s]) _ _ n KF (by refine rr hu ?_;simp) ?_ ?_ ?_ ?_ ?_ ?_ (ar0 hn) (by simp;exact ar4 hz) fun ρ' σ' q1 q2 q3 q4=>hK ρ' σ' ?_ ?_ ?_ ?_
     · walk_at "nm"
     · have e:(((pre++[some s]).length:Nat):Int)=(pre.length:Int)+1:=by (refine rr List.length_append ?_;refine rr List.length_singleton ?_);exact ar2
       refine rr e ?_;walk_at "nm"
     · walk_at "nm"
     · walk_at "nm"
     · walk_at "nm"
     · refine rr g0 ?_;simp[prH]
     · refine rr q1 ?_;simp[l0];exact c3p
     · refine rr q2 ?_;simp[l0]
     · intro y hy;(refine rr (q3 y hy) ?_;exact rr (j5 hy) rfl)
     · intro y hy;(refine rr (q4 y hy) ?_;exact rr (i8 hy rfl) rfl)
end
section
theorem a0r:∀ r:List A7,r=(l0 r).map some++n9 r
 | []=>rfl
 | none::_=>rfl
 | some s::r=>by simp only[l0,n9,List.map_cons,List.cons_append];exact rl (a0r r) rfl
theorem a0o:∀ r:List A7,n9 r=[]\/∃ q,n9 r=none::q
 | []=>.inl rfl
 | none::q=>.inr ⟨q,rfl⟩
 | some _::r=>a0o r
noncomputable def jnF:Nat->List A7->List (List Nat)
 | 0,_=>[]
 | n+1,none::r=>if r=[] then [[46,42]] else if n9 r=[] then [[46,42],(l0 r).flatten] else (([40,63,62,46,42,63]++(l0 r).flatten)++[41])::jnF n (n9 r)
 | _+1,_=>[]
noncomputable def G9 (P:List A7):List Nat:=([40,63,115,58]++(l0 P++jnF P.length (n9 P)).flatten)++[41,92,90]
noncomputable def E9:List A7->Bool
 | none::none::_=>false
 | _::r=>E9 r
 | []=>true
noncomputable def c39:Expr×List Stmt:=N8 (kid (stm 12) 4)
end
section
theorem U2:∀ r:List A7,(l0 r).length+(n9 r).length=r.length
 | []=>rfl
 | none::r=>by simp[l0,n9]
 | some s::r=>by have:=U2 r;simp only[l0,n9,List.length_cons];exact Nat.le_antisymm (c6 (lq this) (by simp +arith)) (c6 (lq this.symm) (by simp +arith))
theorem a07:∀ (r:List A7) (s:List Nat),s∈l0 r->some s∈r
 | [],s,h=>by simp[l0] at h
 | none::r,s,h=>by simp[l0] at h
 | some t::r,s,h=>by
  rw[l0,List.mem_cons] at h
  rcases h with rfl | h
  · exact .head _
  · exact .tail _ (a07 r s h)
theorem a2p:∀ (r:List A7) (x:A7),x∈n9 r->x∈r
 | [],s,h=>by simp[n9] at h
 | none::r,s,h=>by exact h
 | some t::r,s,h=>by
  simp only[n9] at h
  exact .tail _ (a2p r s h)
theorem Y9:∀ r:List A7,E9 r=true->E9 (n9 r)=true
 | [],h=>h
 | none::r,h=>h
 | some t::r,h=>by
  exact Y9 r (by exact h)
theorem V5 {B:Nat}:∀ (l:List (List Nat)),(∀ s∈l,s.length<=B)->l.flatten.length<=B*l.length:=by
 intro xs0
 induction xs0 with
 | nil=>
  exact @fun _=>by simp
 | cons x l ih=>
  exact @fun h=>by
   have h1:=h x (.head _)
   have h2:=ih fun s hs=>h s (.tail _ hs)
   simp only[List.flatten_cons,List.length_append,List.length_cons,Nat.mul_succ]
   exact c6 (ad h1 h2) (by simp +arith)
theorem G3:∀ l:List (List Nat),V0 (l.map HV.str)=some l:=by
 intro xs0
 induction xs0 with
 | nil=>
  exact rfl
 | cons x l ih=>
  exact by simp[V0,ih]
theorem F8:∀ l:List (List Nat),List.intercalate [] l=l.flatten
 | []=>rfl
 | [x]=>by rfl
 | x::y::r=>by
  simp only[(show List.intercalate [] (x::y::r)=x++List.intercalate [] (y::r) from by rfl),(F8 (y::r))];rfl
theorem a9n {B:Nat}:∀ l:List (List Nat),(∀ s∈l,s.length<=B)->(l.map fun t=>t.length+([]:List Nat).length).sum<=B*l.length:=by
 intro xs0
 induction xs0 with
 | nil=>
  exact @fun _=>by simp
 | cons x l ih=>
  exact @fun h=>by
   have h1:=h x (.head _)
   have h2:=ih fun s hs=>h s (.tail _ hs)
   simp only[List.map_cons,List.sum_cons,List.length_cons,List.length_nil,Nat.mul_succ] at h2 ⊢
   exact c6 (ad h1 h2) (by simp +arith)
theorem o8:v9 (Str.ofString "")=[]:=by kernel_rfl
theorem a7x:∀ (n m:Nat) (r:List A7),r.length<=n->r.length<=m->jnF n r=jnF m r
 | 0,0,_,_,_=>rfl
 | 0,m+1,r,h,_=>by
  have:r=[]:=List.eq_nil_of_length_eq_zero (by exact c37 h)
  refine rr this ?_;rfl
 | n+1,0,r,_,h=>by
  have:r=[]:=List.eq_nil_of_length_eq_zero (by exact c37 h)
  refine rr this ?_;rfl
 | n+1,m+1,[],_,_=>rfl
 | n+1,m+1,some s::r,_,_=>rfl
 | n+1,m+1,none::r,h1,h2=>by
  have:=U2 r
  simp only[List.length_cons] at h1 h2
  dsimp only[jnF]
  exact rr (a7x n m (n9 r) (by exact c4a h1 this) (by exact c4a h2 this)) rfl
theorem a8k {Γ:Spx}{gt:Loc}{ar star:Addr}{P:List A7}(hP:P.length<=100) (hB:∀ s,some s∈P->s.length<=100) :
 ∀ (n:Nat) (r pre:List A7) (acc:List (List Nat)) (ρ:Loc) (σ:St) (KF:KS),P=pre++r->(r=[]\/∃ q,r=none::q)->E9 r=true->ρ (Str.ofString "inp")=some (.list (P.map (prH star)))->ρ (Str.ofString "i")=some (.int (pre.length:Nat))->ρ (Str.ofString "n")=some (.int (P.length:Nat))->
  ρ (Str.ofString "STAR")=some (.val (.ref star))->ρ (Str.ofString "add")=some (.bm ar)->ρ (Str.ofString "res")=some (.obj ar)->σ ar=some (acc.map HV.str)->r.length<n->acc.length+2*r.length<=1000->
  (∀ ρ' σ',ρ' (Str.ofString "i")=some (.int (P.length:Nat))->ρ' (Str.ofString "n")=some (.int (P.length:Nat))->ρ' (Str.ofString "res")=some (.obj ar)->σ' ar=some ((acc++jnF r.length r).map HV.str)->(∀ x,(σ x).isSome=true->x≠ar->σ' x=σ x)->KF .nx ρ' σ')->
  whL (fun ρ σ K=>evT (fun _=>true) Γ c39.1 ρ (d7 (b0 (stm 12)) gt) σ K) (fun ρ σ K=>evB (fun _=>true) Γ c39.2 ρ (d7 (b0 (stm 12)) gt) σ K) n ρ σ KF:=by
 have ln:=c8
 intro n
 induction n with
 | zero=>intro r pre acc ρ σ KF _ _ _ _ _ _ _ _ _ _ hn;exact absurd hn (Nat.not_lt_zero _)
 | succ n ih=>
   intro r pre acc ρ σ KF hu hh hap e1 e2 e3 e4 e5 e6 hl hn hz hK
   rcases hh with rfl | ⟨q,rfl⟩
   · refine V3 ?_
     conv=>arg 3;whnf
     conv=>arg 5;arg 1;whnf
     repeat' walk_at "ev"
     have hpl:pre.length=P.length:=by refine rr hu ?_;simp
     rw[if_neg (by refine rr hpl ?_;simp)]
     repeat' walk_at "ev"
     exact hK ρ σ (by refine rl hpl ?_;exact e2) e3 e6 (by simpa [jnF] using hl) (fun _ _ _=>rfl)
   · simp only[List.length_cons] at hn hz
     have hlen:P.length=pre.length+(q.length+1):=by refine rr hu ?_;simp
     have hat:at? (P.map (prH star)) (pre.length:Int)=some (prH star none):=by refine rr hu ?_;exact a1r star pre none q
     have hpe:(((pre++[none]:List A7).length:Nat):Int)=(pre.length:Int)+1:=by (refine rr List.length_append ?_;refine rr List.length_singleton ?_);exact rfl
     refine V3 ?_
     conv=>arg 3;whnf
     conv=>arg 5;arg 1;whnf
     repeat' walk_at "ev"
     refine o7 (by simp;exact c12 hlen) ?_
     refine a3l fun KF' hKF'=>?_
     conv=>arg 3;whnf
     conv=>arg 5;arg 1;whnf
     repeat' walk_at "ev"
     refine y2 (a6a hlen hP) hat ?_
     repeat' walk_at "ev"
     refine a6b rfl ?_
     repeat' walk_at "ev"
     refine And.intro rfl ?_
     repeat' walk_at "ev"
     induction q using List.casesOn with
     | nil=>
       refine o7 (by simp;simp at hlen;exact by simp_all) ?_
       repeat' walk_at "ev"
       refine a02 hl (by simp;exact c6 (ad hz (lq ln.symm)) (by simp +arith)) ?_
       repeat' walk_at "ev"
       refine hK _ _ ?_ ?_ ?_ ?_ ?_
       · have e:((P.length:Nat):Int)=(pre.length:Int)+1:=by simp at hlen;exact congrArg Nat.cast hlen
         refine rr e ?_;walk_at "nm"
       · walk_at "nm"
       · walk_at "nm"
       · refine rr g0 ?_;simp[jnF,a9y]
       · intro x _ hx;rw[j5 hx]
     | cons x q=>
       obtain⟨s,rfl⟩:∃ s,x=some s:=by
        cases x with
        | none=>simp[E9] at hap
        | some s=>exact⟨s,rfl⟩
       simp only[List.length_cons] at hn hz hlen
       refine k6 (by simp;exact c4l hlen) ?_
       repeat' walk_at "ev"
       have hat2:at? (P.map (prH star)) ((pre.length:Int)+1)=some (prH star (some s)):=by
        have e:P=(pre++[none])++some s::q:=by refine rr hu ?_;simp
        (refine rl hpe ?_;refine rr e ?_);exact a1r star (pre++[none]) (some s) q
       refine y2 (c3g hlen hP) hat2 ?_
       repeat' walk_at "ev"
       refine Q7 ?_
       repeat' walk_at "ev"
       refine And.intro rfl ?_
       repeat' walk_at "ev"
       intro af haf
       have hne:af≠ar:=fun q=>by subst q;rw[haf] at hl;exact c7 hl
       have hne':ar≠af:=fun q=>hne q.symm
       repeat' walk_at "ev"
       have hrl:=U2 q
       have hlen2:((pre++[none]:List A7).length+(l0 (some s::q)).length:Nat)+(n9 q).length=P.length:=by simp only[List.length_append,l0,List.length_cons,List.length_nil];lia
       have hu2:P=((pre++[none])++(l0 (some s::q)).map some)++n9 q:=by
        refine rr hu ?_
        have:=a0r (some s::q)
        simp only[n9] at this
        rw[List.append_assoc,← this];simp
       have hbs:∀ t∈l0 (some s::q),t.length<=100:=fun t ht=>hB t (by refine rr hu ?_;have:=a07 _ _ ht;simp only[List.mem_append,List.mem_cons] at this ⊢;exact .inr (.inr this))
       have hfl:=V5 _ hbs
       have hsl:=a9n _ hbs
       have hsn:(l0 (some s::q)).length<=100:=(c6 (ad (lq hlen2) hP) (by simp +arith))
       have hfb:(l0 (some s::q)).flatten.length<=100*100:=Nat.le_trans hfl (Nat.mul_le_mul_left _ hsn)
       have hsb:((l0 (some s::q)).map fun t=>t.length+([]:List Nat).length).sum<=100*100:=Nat.le_trans hsl (Nat.mul_le_mul_left _ hsn)
       refine⟨q.length+2,?_⟩
       refine a7s (ar:=af) (star:=star) hP (some s::q) (pre++[none]) [] _ _ _ _ (by refine rr hu ?_;simp) ?_ ?_ ?_ ?_ ?_ ?_ (by simp) (by simp;exact c6 hz (by simp +arith)) fun ρ' σ' q1 q2 q3 q4=>?_
       · walk_at "nm"
       · refine rr hpe ?_;walk_at "nm"
       · walk_at "nm"
       · walk_at "nm"
       · walk_at "nm"
       · refine rr g0 ?_;rfl
       have r1:ρ' (Str.ofString "inp")=some (.list (P.map (prH star))):=by refine rr (q4 _ (d6 (by decide +kernel))) ?_;walk_at "nm"
       have r3:ρ' (Str.ofString "n")=some (.int (P.length:Nat)):=by refine rr (q4 _ (d6 (by decide +kernel))) ?_;walk_at "nm"
       have r4:ρ' (Str.ofString "STAR")=some (.val (.ref star)):=by refine rr (q4 _ (d6 (by decide +kernel))) ?_;walk_at "nm"
       have r5:ρ' (Str.ofString "add")=some (.bm ar):=by refine rr (q4 _ (d6 (by decide +kernel))) ?_;walk_at "nm"
       have r6:ρ' (Str.ofString "res")=some (.obj ar):=by refine rr (q4 _ (d6 (by decide +kernel))) ?_;walk_at "nm"
       have r7:ρ' (Str.ofString "fixed")=some (.obj af):=by refine rr (q4 _ (d6 (by decide +kernel))) ?_;walk_at "nm"
       have r8:σ' ar=some (acc.map HV.str):=by (refine rr (q3 _ hne') ?_;refine rr (j5 hne') ?_);exact hl
       rw[List.nil_append] at q2
       dsimp only
       repeat' walk_at "ev"
       refine a2u (ys:=(l0 (some s::q)).map HV.str) (ts:=l0 (some s::q)) q2 (G3 _) (by refine rr o8 ?_;exact Nat.le_trans hsb (c29 ln)) ?_
       rw[o8,F8]
       repeat' walk_at "ev"
       by_cases hend:n9 q=[]
       · have hpn:(((pre++[none]:List A7).length+(l0 (some s::q)).length:Nat):Int)=(P.length:Int):=by rw[hend] at hlen2;simp at hlen2 ⊢;exact congrArg Int.ofNat (Nat.le_antisymm (c6 (lq hlen2) (by simp +arith)) (c6 (lq hlen2.symm) (by simp +arith)):((_+1) + _)=_)
         rw[if_pos (by refine rr hpn ?_;simp)]
         repeat' walk_at "ev"
         refine a02 r8 (by simp;exact c4u hz ln) ?_
         repeat' walk_at "ev"
         refine a02 (l:=(acc++[[46,42]]).map HV.str) (by (refine rr g0 ?_;refine rr a9y ?_);simp) (by simp;exact c6 (ad hz (lq ln.symm)) (by simp +arith)) ?_
         repeat' walk_at "ev"
         obtain⟨n,rfl⟩:∃ m,n=m+1:=⟨n-1,((Nat.sub_add_cancel (c6 hn (by simp +arith))).symm)⟩
         refine ih [] P (acc++[[46,42],(l0 (some s::q)).flatten]) _ _ KF (by simp) (.inl rfl) rfl ?_ ?_ ?_ ?_ ?_ ?_ ?_ (by simp) ?_ fun ρ9 σ9 p1 p2 p3 p4 p5=>hK ρ9 σ9 p1 p2 p3 ?_ ?_
         · walk_at "nm"
         · rw[hpn] at q1;walk_at "nm"
         · walk_at "nm"
         · walk_at "nm"
         · walk_at "nm"
         · walk_at "nm"
         · refine rr g0 ?_;simp
         · simp;exact c6 hz (by simp +arith)
         · refine rr p4 ?_;simp[jnF,hend,n9]
         · intro x hx hxa
           have hxf:x≠af:=fun q=>by subst q;rw[haf] at hx;exact j0 hx
           have hx':σ' x=σ x:=by rw[q3 x hxf,j5 hxf]
           rw[p5 x (by (refine rr (j5 hxa) ?_;refine rr (j5 hxa) ?_;refine rr hx' ?_);exact hx) hxa,j5 hxa,j5 hxa,hx']
       · have hpos:0<(n9 q).length:=List.length_pos_iff.mpr hend
         refine k6 (by simp only[beq_iff_eq];exact c43 hlen2 hpos) ?_
         repeat' walk_at "ev"
         refine a3z (by refine rr a1y ?_;simp only[List.length_append,List.length_cons,List.length_nil];exact c5t ln) ?_
         repeat' walk_at "ev"
         refine b8w (by refine rr a1y ?_;simp only[List.length_append,List.length_cons,List.length_nil];exact c6 (ad (Nat.le_trans hfl (Nat.mul_le_mul_left 100 (show _<=100 from c6 (ad (lq hlen2) hP) (by simp +arith)))) (lq ln.symm)) (by simp +arith)) ?_
         refine a3z (by (refine rr a1y ?_;refine rr b55 ?_);simp only[List.length_append,List.length_cons,List.length_nil];exact c6 (ad (Nat.le_trans hfl (Nat.mul_le_mul_left 100 (show _<=100 from c6 (ad (lq hlen2) hP) (by simp +arith)))) (lq ln.symm)) (by simp +arith)) ?_
         repeat' walk_at "ev"
         refine a02 r8 (by simp;exact c4u hz ln) ?_
         repeat' walk_at "ev"
         have hcat:(List.nil++(l0 (some s::q)).map some).length=0+(l0 (some s::q)).length:=by simp
         refine ih (n9 q) ((pre++[none])++(l0 (some s::q)).map some) (acc++[([40,63,62,46,42,63]++(l0 (some s::q)).flatten)++[41]]) _ _ KF hu2 ?_ (Y9 q (by simpa [E9] using hap)) ?_ ?_ ?_ ?_ ?_ ?_ ?_ (c6 (ad hn (lq hrl)) (by simp +arith)) ?_ fun ρ9 σ9 p1 p2 p3 p4 p5=>hK ρ9 σ9 p1 p2 p3 ?_ ?_
         · exact(a0o q).imp id id
         · walk_at "nm"
         · have e:((((pre++[none])++(l0 (some s::q)).map some:List A7).length:Nat):Int)=(((pre++[none]:List A7).length+(l0 (some s::q)).length:Nat):Int):=by rw[List.length_append,List.length_map]
           refine rr e ?_;walk_at "nm"
         · walk_at "nm"
         · walk_at "nm"
         · walk_at "nm"
         · walk_at "nm"
         · (refine rr g0 ?_;refine rr a1y ?_;refine rr b55 ?_);simp
         · simp;exact c6 (ad (ad hz (lq hrl)) (lq hrl)) (by simp +arith)
         · refine rr p4 ?_
           have e:jnF (none::some s::q).length (none::some s::q)=(([40,63,62,46,42,63]++(l0 (some s::q)).flatten)++[41])::jnF (n9 q).length (n9 q):=by
            simp only[List.length_cons,jnF,n9,hend,if_false,reduceCtorEq]
            rw[a7x (q.length+1) (n9 q).length (n9 q) (c6 (ad (ad (lq hlen2) (lq (Int.ofNat.inj hpe:_=(_+1)).symm)) (lq hlen)) (by simp +arith)) (Nat.le_refl _)]
           refine rr e ?_;simp
         · intro x hx hxa
           have hxf:x≠af:=fun q=>by subst q;rw[haf] at hx;exact j0 hx
           have hx':σ' x=σ x:=by rw[q3 x hxf,j5 hxf]
           rw[p5 x (by rw[j5 hxa,hx'];exact hx) hxa,j5 hxa,hx']
end
section
noncomputable def a2w:Spec:=fun hs σ K=>∃ P star,hs=[.list (P.map (prH star)),.val (.ref star)]/\P.length<=100/\(∀ s,some s∈P->s.length<=100)/\E9 P=true/\K (.str (G9 P)) σ
theorem a7l {B:Nat}:∀ (n:Nat) (r:List A7),(∀ s,some s∈r->s.length<=B)->(jnF n r).flatten.length<=B*r.length+7*r.length
 | 0,r,_=>by simp[jnF]
 | n+1,[],_=>by simp[jnF]
 | n+1,some s::r,_=>by simp[jnF]
 | n+1,none::r,h=>by
   have h1:=V5 (B:=B) (l0 r) fun s hs=>h s (.tail _ (a07 r s hs))
   have h2:=a7l (B:=B) n (n9 r) fun s hs=>h s (.tail _ (a2p r _ hs))
   have h3:=U2 r
   have h4:B*(l0 r).length+B*(n9 r).length=B*r.length:=by (refine rl (Nat.mul_add ..) ?_;exact rr h3 rfl)
   simp only[jnF,List.length_cons]
   by_cases e1:r=[]
   · refine rr (if_pos e1) ?_;simp only[List.flatten_cons,List.flatten_nil,List.length_append,List.length_cons,List.length_nil];exact Nat.le_add_left _ _
   · refine rr (if_neg e1) ?_
     by_cases e2:n9 r=[]
     · rw[if_pos e2];simp only[List.flatten_cons,List.flatten_nil,List.length_append,List.length_cons,List.length_nil];rw[Nat.mul_succ B];exact c6 (ad h1 (lq h4)) (by simp +arith)
     · rw[if_neg e2]
       simp only[List.flatten_cons,List.length_append,List.length_cons,List.length_nil]
       rw[Nat.mul_succ B]
       exact c6 (ad h1 (ad h2 (ad (lq h4) (Nat.mul_le_mul_left 7 (lq h3))))) (by simp +arith)
theorem a0d:∀ l:List (List Nat),(l.map fun t=>t.length+([]:List Nat).length).sum=l.flatten.length:=by
 intro xs0
 induction xs0 with
 | nil=>
  exact rfl
 | cons x l ih=>
  exact by
   simp only[List.map_cons,List.sum_cons,List.flatten_cons,List.length_append,List.length_nil] at ih ⊢
   exact congrArg (HAdd.hAdd (_+0)) ih
theorem b17 {Γ:Spx}{gt:Loc}(g2:gt (Str.ofString "len")=some (.val (.builtin "len")))
 {hs:List HV}{σ:St}{K:KV}(H:a2w hs σ K):B6 (fun _=>true) Γ (b0 (stm 12)) gt [Str.ofString "inp",Str.ofString "STAR"] (n7 (stm 12)) hs σ K:=by
 (refine H9 H fun P star z623 hP hB hap hK=>?_;clear H;subst z623)
 have ln:=c8
 refine p6 rfl fun KF hKF=>?_
 conv=>arg 3;whnf
 conv=>arg 5;arg 1;whnf
 simp only[D6,D5]
 repeat' walk_at "ev"
 intro ar har
 repeat' walk_at "ev"
 refine⟨ar,rfl,by rw[g0];rfl,?_⟩
 repeat' walk_at "ev"
 refine⟨P.length+1,?_⟩
 refine a8v (ar:=ar) (star:=star) hP P [] [] _ _ _ _ rfl ?_ ?_ ?_ ?_ ?_ ?_ (Nat.lt_succ_self _) (by simp;exact Nat.le_trans hP (Nat.le_add_left 100 900)) fun ρ' σ' q1 q2 q3 q4=>?_
 · walk_at "nm"
 · show _=some (HV.int 0)
   walk_at "nm"
 · have e:((P.length:Nat):Int)=(((P.map (prH star)).length:Nat):Int):=by rw[List.length_map]
   rw[e];walk_at "nm"
 · walk_at "nm"
 · walk_at "nm"
 · rw[g0];rfl
 have hrl:=U2 P
 have r1:ρ' (Str.ofString "inp")=some (.list (P.map (prH star))):=by rw[q4 _ (d6 (by decide +kernel))];walk_at "nm"
 have r3:ρ' (Str.ofString "n")=some (.int (P.length:Nat)):=by
  have e:((P.length:Nat):Int)=(((P.map (prH star)).length:Nat):Int):=by rw[List.length_map]
  rw[q4 _ (d6 (by decide +kernel)),e];walk_at "nm"
 have r4:ρ' (Str.ofString "STAR")=some (.val (.ref star)):=by rw[q4 _ (d6 (by decide +kernel))];walk_at "nm"
 have r5:ρ' (Str.ofString "add")=some (.bm ar):=by rw[q4 _ (d6 (by decide +kernel))];walk_at "nm"
 have r6:ρ' (Str.ofString "res")=some (.obj ar):=by rw[q4 _ (d6 (by decide +kernel))];walk_at "nm"
 dsimp only
 repeat' walk_at "ev"
 refine⟨(n9 P).length+1,?_⟩
 rw[List.nil_append] at q2
 refine a8k (ar:=ar) (star:=star) hP hB ((n9 P).length+1) (n9 P) ((l0 P).map some) (l0 P) _ _ _ (a0r P) (a0o P) (Y9 P hap) r1 ?_ r3 r4 r5 r6 q2 (Nat.lt_succ_self _) (c6 (ad (ad (ad (lq hrl) (lq hrl)) hP) hP) (by simp +arith)) fun ρ9 σ9 p1 p2 p3 p4 p5=>?_
 · rw[q1];simp
 dsimp only
 repeat' walk_at "ev"
 refine And.intro (by simp) ?_
 repeat' walk_at "ev"
 have hbs:∀ t∈l0 P,t.length<=100:=fun t ht=>hB t (a07 _ _ ht)
 have hf1:=V5 _ hbs
 have hf2:=a7l (B:=100) (n9 P).length (n9 P) fun s hs=>hB s (a2p P _ hs)
 have hf3:(l0 P++jnF (n9 P).length (n9 P)).flatten.length<=100000:=by
  rw[List.flatten_append,List.length_append];exact c2b hrl hP hf2 hf1
 refine a2u p4 (G3 _) (by rw[o8,a0d];exact c2r ln hf3) ?_
 rw[o8,F8]
 repeat' walk_at "ev"
 refine a3z (by rw[T5];simp only[List.length_append,List.length_cons,List.length_nil];exact c56 ln) ?_
 repeat' walk_at "ev"
 refine b8w (by rw[T5];simp only[List.length_append,List.length_cons,List.length_nil];exact c6 (ad (lq ln.symm) hf3) (by simp +arith)) ?_
 refine a3z (by rw[T5,a01];simp only[List.length_append,List.length_cons,List.length_nil];exact c6 (ad (lq ln.symm) hf3) (by simp +arith)) ?_
 repeat' walk_at "ev"
 have hw:within σ σ9=σ:=Ag.within fun x hx=>by
  have hxa:x≠ar:=fun q=>by subst q;rw[har] at hx;exact j0 hx
  rw[p5 x (by (refine rr (q3 x hxa) ?_;refine rr (j5 hxa) ?_);exact hx) hxa,q3 x hxa,j5 hxa]
 (refine rr hw ?_;refine rr T5 ?_;refine rr a01 ?_)
 have e:G9 P=([]++[40,63,115,58]++(l0 P++jnF (n9 P).length (n9 P)).flatten)++[41,92,90]:=by
  unfold G9
  refine rr (a7x P.length (n9 P).length (n9 P) (c6 (lq hrl) (by simp +arith)) (Nat.le_refl _)) ?_;rfl
 refine rl e ?_;exact hK
end
section
noncomputable def a00:Spec:=fun hs σ K=>∃ (a b:Int) (c:Bool) (x:Int),hs=[.tup [.int a,.int b,.bool c],.int x]/\K (.bool ((decide (a<=x)&&decide (x<=b)) != c)) σ
theorem a8e {Γ:Spx}{gt:Loc}{hs:List HV}{σ:St}{K:KV}(H:a00 hs σ K):B6 (fun _=>false) Γ (b0 (stm 23)) gt [Str.ofString "meaning",Str.ofString "code"] (n7 (stm 23)) hs σ K:=by
 (refine I7 H fun a b c x z529=>?_;clear H;refine o_a z529 fun z530 hK=>?_;subst z530)
 refine p6 rfl fun KF hKF=>?_
 conv=>arg 3;whnf
 conv=>arg 5;arg 1;whnf
 simp only[D6,D5]
 repeat' walk_at "ev"
 refine a4w (by decide) rfl ?_
 repeat' walk_at "ev"
 induction h1:decide (a<=x) with
 | false=>
  repeat' walk_at "ev"
  refine a4w (by decide) rfl ?_
  repeat' walk_at "ev"
  rw[o0];rw[h1] at hK;exact hK
 | true=>
  repeat' walk_at "ev"
  refine a4w (by decide) rfl ?_
  repeat' walk_at "ev"
  refine a4w (by decide) rfl ?_
  repeat' walk_at "ev"
  rw[o0];rw[h1] at hK;exact hK
noncomputable def T7 (b:List Nat) (p:Nat):List Nat×Nat:=if slc b (some (p:Int)) (some ((p:Int)+1))=[92] then (slc b (some ((p:Int)+1)) (some ((p:Int)+1+1)),p+2) else (slc b (some (p:Int)) (some ((p:Int)+1)),p+1)
noncomputable def a5s:Spec:=fun hs σ K=>∃ (b:List Nat) (p:Nat),hs=[.str b,.int (p:Nat)]/\K (.tup [.str (T7 b p).1,.int ((T7 b p).2:Nat)]) σ
theorem P2:v9 (Str.ofString "\\")=[92]:=by kernel_rfl
theorem b1s {Γ:Spx}{gt:Loc}{hs:List HV}{σ:St}{K:KV}(H:a5s hs σ K):B6 (fun _=>false) Γ (b0 (stm 20)) gt [Str.ofString "body",Str.ofString "place"] (n7 (stm 20)) hs σ K:=by
 (refine I9 H fun b p z31 hK=>?_;refine rr z31 ?_)
 refine p6 rfl fun KF hKF=>?_
 conv=>arg 3;whnf
 conv=>arg 5;arg 1;whnf
 simp only[D6,D5]
 repeat' walk_at "ev"
 refine rr P2 ?_
 unfold T7 at hK
 refine V1 (fun q=>?_) (fun q=>?_)
 · rw[if_pos (by simpa using q)] at hK
   repeat' walk_at "ev"
   refine(j7 _ _ rfl rfl ?_)
   refine rr o0 ?_;exact hK
 · rw[if_neg (by simpa using q)] at hK
   repeat' walk_at "ev"
   refine(j7 _ _ rfl rfl ?_)
   refine rr o0 ?_;exact hK
end
section
noncomputable def metas:List Nat:=[94,36,42,43,63,123,125,91,93,40,41,124,92]
noncomputable def P9 (b:List Nat):Bool:=b.head?==some 94
noncomputable def a2k (b:List Nat):Nat:=if P9 b then 1 else 0
inductive MeanOf:List Nat->Nat×Nat×Bool->Prop
 | dot:MeanOf [46] (1,0,true)
 | no:MeanOf [40,63,33,41] (1,0,false)
 | one (c:Nat):c≠46->metas.contains c=false->MeanOf [c] (c,c,false)
 | esc (c:Nat):Unicode.isAlnum c=false->MeanOf [92,c] (c,c,false)
 | cls1 (h:Nat) (r:List Nat) (c:Nat):r.length<=50->T7 (h::r) (a2k (h::r))=([c],(h::r).length)->MeanOf (91::((h::r)++[93])) (c,c,P9 (h::r))
 | cls2 (h:Nat) (r:List Nat) (c d p:Nat):r.length<=50->T7 (h::r) (a2k (h::r))=([c],p)->(h::r)[p]? = some 45->T7 (h::r) (p+1)=([d],(h::r).length)->MeanOf (91::((h::r)++[93])) (c,d,P9 (h::r))
noncomputable def mnT (m:Nat×Nat×Bool):HV:=.tup [.int m.1,.int m.2.1,.bool m.2.2]
noncomputable def a0f:Spec:=fun hs σ K=>∃ l m,hs=[.str l]/\MeanOf l m/\K (mnT m) σ
theorem U6:v9 (Str.ofString "(?!)")=[40,63,33,41]:=by kernel_rfl
theorem b1q:v9 (Str.ofString "^$*+?{}[]()|\\")=metas:=by kernel_rfl
theorem y4:v9 (Str.ofString "]")=[93]:=by kernel_rfl
theorem a1o:v9 (Str.ofString "^")=[94]:=by kernel_rfl
theorem E6:v9 (Str.ofString "-")=[45]:=by kernel_rfl
theorem Y5 (m:Nat×Nat×Bool):J3 2 (mnT m)=true:=rfl
section
variable {Γ:Spx}{gt:Loc}{σ:St}{K:KV}{as:Addr}(g1:gt (Str.ofString "len")=some (.val (.builtin "len"))) (g2:gt (Str.ofString "ord")=some (.val (.builtin "ord"))) (g3:gt (Str.ofString "_law_sign")=some (.val (.ref as))) (hs:Γ.f (.ref as)=some a5s)
include g1 g2 g3 hs
theorem b41 (hK:K (mnT (1,0,true)) σ):B6 (fun _=>false) Γ (b0 (stm 21)) gt [Str.ofString "part"] (n7 (stm 21)) [.str [46]] σ K:=by
 refine p6 rfl fun KF hKF=>?_
 conv=>arg 3;whnf
 conv=>arg 5;arg 1;whnf
 simp only[D6,D5]
 repeat' walk_at "ev"
 (refine rr N0 ?_;refine o7 (by decide) ?_)
 repeat' walk_at "ev"
 exact W4 2 (Y5 (1,0,true)) (by refine rr o0 ?_;exact hK)
theorem b7n (hK:K (mnT (1,0,false)) σ):B6 (fun _=>false) Γ (b0 (stm 21)) gt [Str.ofString "part"] (n7 (stm 21)) [.str [40,63,33,41]] σ K:=by
 refine p6 rfl fun KF hKF=>?_
 conv=>arg 3;whnf
 conv=>arg 5;arg 1;whnf
 simp only[D6,D5]
 repeat' walk_at "ev"
 (refine rr N0 ?_;refine k6 (by decide) ?_)
 repeat' walk_at "ev"
 (refine rr U6 ?_;refine o7 (by decide) ?_)
 repeat' walk_at "ev"
 exact W4 2 (Y5 (1,0,false)) (by refine rr o0 ?_;exact hK)
theorem b4t {c:Nat}(h1:c≠46) (h2:metas.contains c=false) (hK:K (mnT (c,c,false)) σ):B6 (fun _=>false) Γ (b0 (stm 21)) gt [Str.ofString "part"] (n7 (stm 21)) [.str [c]] σ K:=by
 refine p6 rfl fun KF hKF=>?_
 conv=>arg 3;whnf
 conv=>arg 5;arg 1;whnf
 simp only[D6,D5]
 repeat' walk_at "ev"
 (refine rr N0 ?_;refine k6 (by simpa using h1) ?_)
 repeat' walk_at "ev"
 (refine rr U6 ?_;refine k6 (by simp) ?_)
 repeat' walk_at "ev"
 refine o7 (by rfl) ?_
 repeat' walk_at "ev"
 (refine rr b1q ?_;refine rr h2 ?_;refine o7 (by rfl) ?_)
 repeat' walk_at "ev"
 exact W4 2 (Y5 (c,c,false)) (by simp only[o0];exact hK)
theorem b4o {c:Nat}(h1:Unicode.isAlnum c=false) (hK:K (mnT (c,c,false)) σ):B6 (fun _=>false) Γ (b0 (stm 21)) gt [Str.ofString "part"] (n7 (stm 21)) [.str [92,c]] σ K:=by
 refine p6 rfl fun KF hKF=>?_
 conv=>arg 3;whnf
 conv=>arg 5;arg 1;whnf
 simp only[D6,D5]
 repeat' walk_at "ev"
 (refine rr N0 ?_;refine k6 (by simp) ?_)
 repeat' walk_at "ev"
 (refine rr U6 ?_;refine k6 (by simp) ?_)
 repeat' walk_at "ev"
 refine k6 (by simp) ?_
 repeat' walk_at "ev"
 refine o7 (by rfl) ?_
 repeat' walk_at "ev"
 refine A6 (by decide) rfl ?_
 repeat' walk_at "ev"
 (refine rr P2 ?_;refine o7 (by decide) ?_)
 repeat' walk_at "ev"
 refine A6 (by decide) rfl ?_
 refine(j1 c rfl ?_)
 refine rr h1 ?_
 repeat' walk_at "ev"
 refine o7 (by rfl) ?_
 repeat' walk_at "ev"
 refine A6 (by decide) rfl ?_
 repeat' walk_at "ev"
 refine A6 (by decide) rfl ?_
 repeat' walk_at "ev"
 exact W4 2 (Y5 (c,c,false)) (by simp only[o0];exact hK)
end
end
section
theorem b27 (x y:Nat) (l:List Nat):slc (x::(l++[y])) (some 1) (some (-1))=l:=by
 have e1:clipAt (x::(l++[y])).length 1=1:=by unfold clipAt;simp;exact congrArg (fun z=>Int.toNat (max 0 z)) (Int.min_eq_left (Int.ofNat_le.mpr (Nat.le_add_left 1 (_+1)):(1:Int)<=(_:Int)+1+1))
 unfold slc
 simp only[Option.elim,e1,(show clipAt (x::(l++[y])).length (-1)=l.length+1 from by simp;exact c4g)]
 simp
theorem b75 (x y:Nat) (l:List Nat):at? (x::(l++[y])) (-1)=some y:=by
 unfold at?
 (refine rr (if_neg (by decide)) ?_;refine rr (if_neg (by simp;exact by lia)) ?_)
 have:(((x::(l++[y])).length:Int) + -1).toNat=l.length+1:=by simp;exact by simp +arith
 refine rr this ?_;simp
theorem b9k (h:Nat) (r:List Nat):([h]==[94])=P9 (h::r):=by
 unfold P9;simp
section
variable {Γ:Spx}{gt:Loc}{σ:St}{K:KV}{as:Addr}(g1:gt (Str.ofString "len")=some (.val (.builtin "len"))) (g2:gt (Str.ofString "ord")=some (.val (.builtin "ord"))) (g3:gt (Str.ofString "_law_sign")=some (.val (.ref as))) (hs:Γ.f (.ref as)=some a5s)
include g1 g2 g3 hs
theorem a6g {h:Nat}{r:List Nat}{c d p:Nat}(hr:r.length<=50) (h1:T7 (h::r) (a2k (h::r))=([c],p))
 (h2:(p=(h::r).length/\d=c)\/(p<(h::r).length/\(h::r)[p]? = some 45/\T7 (h::r) (p+1)=([d],(h::r).length)))
 (hK:K (mnT (c,d,P9 (h::r))) σ):B6 (fun _=>false) Γ (b0 (stm 21)) gt [Str.ofString "part"] (n7 (stm 21)) [.str (91::((h::r)++[93]))] σ K:=by
 refine p6 rfl fun KF hKF=>?_
 conv=>arg 3;whnf
 conv=>arg 5;arg 1;whnf
 simp only[D6,D5]
 generalize hb:h::r=b at *
 have hbl:1<=b.length/\b.length<=51:=by refine rl hb ?_;simp;omega
 repeat' walk_at "ev"
 (refine rr N0 ?_;refine k6 (by simp) ?_)
 repeat' walk_at "ev"
 (refine rr U6 ?_;refine k6 (by simp) ?_)
 repeat' walk_at "ev"
 refine k6 (by simp;exact c4h) ?_
 repeat' walk_at "ev"
 refine k6 (by simp;exact c47 hbl) ?_
 repeat' walk_at "ev"
 refine k6 (by simp;exact Int.ofNat_le.mpr ((c6 hbl.1 (by simp +arith)):3<=((_+1)+1))) ?_
 repeat' walk_at "ev"
 refine A6 (by decide) rfl ?_
 repeat' walk_at "ev"
 (refine rr t9 ?_;refine k6 (by decide) ?_)
 repeat' walk_at "ev"
 refine A6 (by decide) (b75 91 93 b) ?_
 repeat' walk_at "ev"
 (refine rr y4 ?_;refine k6 (by decide) ?_)
 repeat' walk_at "ev"
 refine rr (b27 ..) ?_
 repeat' walk_at "ev"
 refine A6 (by decide) (show at? b 0=some h by refine rl hb ?_;rfl) ?_
 repeat' walk_at "ev"
 (refine rr a1o ?_;refine rr (b9k h r) ?_;refine rr hb ?_)
 refine a9w (by kernel_rfl) (by kernel_rfl) rfl a4m ?_
 refine U3 (by with_unfolding_all rfl) (by walk_at "nm") (by walk_at "nm") (b36 hs) ?_
 refine a7m (X5 (by walk_at "nm") (a7m ?_))
 refine a1f (x:=.int (a2k b:Nat)) (σ':=σ) ?_ ?_
 · repeat' walk_at "ev"
   unfold a2k
   cases P9 b
   · repeat' walk_at "ev"
     exact⟨rfl,rfl⟩
   · repeat' walk_at "ev"
     exact⟨rfl,rfl⟩
 repeat' walk_at "ev"
 refine M2 hs (M9 _ _ rfl ?_)
 refine rr h1 ?_
 refine(M9 _ _ rfl ?_)
 repeat' walk_at "ev"
 rcases h2 with ⟨rfl,rfl⟩ | ⟨hp,h45,h3⟩
 · refine k6 (by simp) ?_
   repeat' walk_at "ev"
   refine k6 (by simp) ?_
   repeat' walk_at "ev"
   (refine rr o8 ?_;refine k6 (by simp) ?_)
   repeat' walk_at "ev"
   (refine rr o8 ?_;refine k6 (by simp) ?_)
   repeat' walk_at "ev"
   exact W4 2 (Y5 (d,d,P9 b)) (by refine rr o0 ?_;exact hK)
 · refine o7 (by simp;omega) ?_
   repeat' walk_at "ev"
   refine A6 (by omega) (at_nat.trans h45) ?_
   repeat' walk_at "ev"
   (refine rr E6 ?_;refine k6 (by decide) ?_)
   repeat' walk_at "ev"
   refine a9w (by kernel_rfl) (by kernel_rfl) rfl a4m ?_
   refine U3 (by with_unfolding_all rfl) (by walk_at "nm") (by walk_at "nm") (b36 hs) ?_
   repeat' walk_at "ev"
   refine M2 hs (M9 b (p+1) rfl ?_)
   refine rr h3 ?_
   refine(M9 _ _ rfl ?_)
   repeat' walk_at "ev"
   refine k6 (by simp) ?_
   repeat' walk_at "ev"
   (refine rr o8 ?_;refine k6 (by simp) ?_)
   repeat' walk_at "ev"
   (refine rr o8 ?_;refine k6 (by simp) ?_)
   repeat' walk_at "ev"
   exact W4 2 (Y5 (c,d,P9 b)) (by refine rr o0 ?_;exact hK)
theorem b0s {hs':List HV}(H:a0f hs' σ K):B6 (fun _=>false) Γ (b0 (stm 21)) gt [Str.ofString "part"] (n7 (stm 21)) hs' σ K:=by
 (refine d9 H fun l m z132 hm hK=>?_;clear H;subst z132)
 induction hm using MeanOf.casesOn with
 | dot=>exact b41 g1 g2 g3 hs hK
 | no=>exact b7n g1 g2 g3 hs hK
 | one c h1 h2=>exact b4t g1 g2 g3 hs h1 h2 hK
 | esc c h1=>exact b4o g1 g2 g3 hs h1 hK
 | cls1 h r c h1 h2=>exact a6g g1 g2 g3 hs h1 h2 (.inl ⟨rfl,rfl⟩) hK
 | cls2 h r c d p h1 h2 h3 h4=>exact a6g g1 g2 g3 hs h1 h2 (.inr ⟨(List.getElem?_eq_some_iff.mp h3).1,h3,h4⟩) hK
end
end
section
theorem Z5 (pre q:List Nat) (n:Nat):slc (pre++q) (some (pre.length:Int)) (some ((pre.length:Int)+(n:Int)))=q.take n:=by
 have h:=Z3 (pre++q) pre.length (pre.length+n)
 simp only[c22] at h
 simp only[h,List.drop_take,List.drop_left]
 simp
inductive a1d:List Nat->Prop
 | nil:a1d []
 | esc (c:Nat) (r:List Nat):a1d r->a1d (92::c::r)
 | lit (c:Nat) (r:List Nat):c≠92->c≠93->a1d r->a1d (c::r)
inductive CutOk:List Nat->Prop
 | one (c:Nat):c≠92->c≠91->c≠40->CutOk [c]
 | esc (c:Nat):CutOk [92,c]
 | no:CutOk [40,63,33,41]
 | cls (u:List Nat):a1d u->CutOk (91::(u++[93]))
noncomputable def msW:Expr×List Stmt:=N8 (kid (stm 22) 3)
noncomputable def c3m:Stmt:=(b1m ((b1m (kid (kid (stm 22) 3) 1)).getD 0 (.Pass ⟨0,0,0,0⟩))).getD 0 (.Pass ⟨0,0,0,0⟩)
noncomputable def c5l:Expr×List Stmt:=N8 (kid c3m 0)
section
variable {Γ:Spx}{gt:Loc}
theorem a7t {inner pre rest:List Nat}(hz:inner.length<=200) :
 ∀ (u:List Nat),a1d u->∀ (done:List Nat) (ρ:Loc) (σ:St) (n:Nat) (KF:KS),inner=(pre++done)++(u++93::rest)->ρ (Str.ofString "inner")=some (.str inner)->ρ (Str.ofString "end")=some (.int ((pre++done).length:Nat))->u.length<n->
  (∀ ρ',ρ' (Str.ofString "end")=some (.int (((pre++done)++u).length:Nat))->(∀ x,x≠Str.ofString "end" -> ρ' x=ρ x)->KF .nx ρ' σ)->
  whL (fun ρ σ K=>evT (fun _=>true) Γ c5l.1 ρ (d7 (b0 (stm 22)) gt) σ K) (fun ρ σ K=>evB (fun _=>true) Γ c5l.2 ρ (d7 (b0 (stm 22)) gt) σ K) n ρ σ KF:=by
 intro u hu
 induction hu with
 | nil=>
   intro done ρ σ n KF hi e1 e2 hn hK
   obtain⟨n,rfl⟩:∃ m,n=m+1:=⟨n-1,ar8 hn⟩
   refine V3 ?_
   conv=>arg 3;whnf
   conv=>arg 5;arg 1;whnf
   repeat' walk_at "ev"
   have hs:slc inner (some (((pre++done).length:Nat):Int)) (some ((((pre++done).length:Nat):Int)+1))=[93]:=by refine rr hi ?_;exact(Z5 (pre++done) _ 1).trans rfl
   (refine rr hs ?_;refine rr y4 ?_;refine rr o8 ?_;refine k6 (by decide) ?_)
   exact hK ρ (by refine rr e2 ?_;simp) fun _ _=>rfl
 | esc c r _ ih=>
   intro done ρ σ n KF hi e1 e2 hn hK
   obtain⟨n,rfl⟩:∃ m,n=m+1:=⟨n-1,ar8 hn⟩
   refine V3 ?_
   conv=>arg 3;whnf
   conv=>arg 5;arg 1;whnf
   repeat' walk_at "ev"
   have hs:slc inner (some (((pre++done).length:Nat):Int)) (some ((((pre++done).length:Nat):Int)+1))=[92]:=by refine rr hi ?_;exact(Z5 (pre++done) _ 1).trans rfl
   (refine rr hs ?_;refine rr y4 ?_;refine rr o8 ?_;refine o7 (by decide) ?_)
   conv=>arg 3;whnf
   conv=>arg 5;arg 1;whnf
   have hlen:inner.length=(pre++done).length+(r.length+2+(1+rest.length)):=by refine rr hi ?_;simp;exact by simp +arith
   have ha:at? inner (((pre++done).length:Nat):Int)=some 92:=by (refine rr hi ?_;refine rr at_nat ?_);simp
   refine a90 (by kernel_rfl) (by walk_at "nm") ?_
   refine a1f (x:=.int 2) (σ':=σ) ?_ ?_
   · repeat' walk_at "ev"
     refine A6 (c1w hlen hz) ha ?_
     repeat' walk_at "ev"
     (refine rr P2 ?_;refine o7 (by decide) ?_)
     repeat' walk_at "ev"
     exact⟨rfl,rfl⟩
   repeat' walk_at "ev"
   refine ih (done++[92,c]) _ σ n KF (by refine rr hi ?_;simp) (by walk_at "nm") ?_ (by simp at hn;exact Nat.le_of_lt hn) fun ρ' q1 q2=>hK ρ' ?_ fun x hx=>?_
   · refine rr i5 ?_;simp;exact rfl
   · refine rr q1 ?_;simp
   · refine rr (q2 x hx) ?_;exact i8 hx rfl
 | lit c r h1 h2 _ ih=>
   intro done ρ σ n KF hi e1 e2 hn hK
   obtain⟨n,rfl⟩:∃ m,n=m+1:=⟨n-1,ar8 hn⟩
   refine V3 ?_
   conv=>arg 3;whnf
   conv=>arg 5;arg 1;whnf
   repeat' walk_at "ev"
   have hs:slc inner (some (((pre++done).length:Nat):Int)) (some ((((pre++done).length:Nat):Int)+1))=[c]:=by refine rr hi ?_;exact(Z5 (pre++done) _ 1).trans rfl
   (refine rr hs ?_;refine rr y4 ?_;refine rr o8 ?_;refine o7 (by simp[h2]) ?_)
   conv=>arg 3;whnf
   conv=>arg 5;arg 1;whnf
   have hlen:inner.length=(pre++done).length+(r.length+1+(1+rest.length)):=by refine rr hi ?_;simp;exact by simp +arith
   have ha:at? inner (((pre++done).length:Nat):Int)=some c:=by (refine rr hi ?_;refine rr at_nat ?_);simp
   refine a90 (by kernel_rfl) (by walk_at "nm") ?_
   refine a1f (x:=.int 1) (σ':=σ) ?_ ?_
   · repeat' walk_at "ev"
     refine A6 (c5b hlen hz) ha ?_
     repeat' walk_at "ev"
     (refine rr P2 ?_;refine k6 (by simp[h1]) ?_)
     repeat' walk_at "ev"
     exact⟨rfl,rfl⟩
   repeat' walk_at "ev"
   refine ih (done++[c]) _ σ n KF (by refine rr hi ?_;simp) (by walk_at "nm") ?_ (by simp at hn;omega) fun ρ' q1 q2=>hK ρ' ?_ fun x hx=>?_
   · refine rr i5 ?_;simp;exact b7w
   · refine rr q1 ?_;simp
   · refine rr (q2 x hx) ?_;exact i8 hx rfl
end
end
section
noncomputable abbrev Mn:=Nat×Nat×Bool
theorem b02 (pre p rest:List Nat):slc (pre++(p++rest)) (some (pre.length:Int)) (some ((pre.length:Int)+(p.length:Int)))=p:=by
 refine rr (Z5 ..) ?_;simp
theorem CutOk.pos {p:List Nat}(h:CutOk p):∃ c r,p=c::r:=by cases h<;>exact(a86 _ _ rfl)
theorem a9b {c:Nat}{r:List Nat}(h:c≠40):((c::r).take 4==[40,63,33,41])=false:=by
 rw[beq_eq_false_iff_ne];intro q
 injection q with q;exact h q
section
variable {Γ:Spx}{gt:Loc}{af am:Addr}(g1:gt (Str.ofString "len")=some (.val (.builtin "len"))) (g2:gt (Str.ofString "_law_meaning")=some (.val (.ref af))) (hΓ:Γ.f (.ref af)=some a0f)
include g1 g2 hΓ
theorem b7e {inner:List Nat}(hz:inner.length<=200) :
 ∀ (r:List (List Nat×Mn)) (pre:List Nat) (acc:List Mn) (ρ:Loc) (σ:St) (n:Nat) (KF:KS),(∀ x∈r,CutOk x.1/\MeanOf x.1 x.2)->inner=pre++(r.map (·.1)).flatten->ρ (Str.ofString "inner")=some (.str inner)->ρ (Str.ofString "k")=some (.int (pre.length:Nat))->
  ρ (Str.ofString "meanings")=some (.obj am)->ρ (Str.ofString "_law_meaning")=none->ρ (Str.ofString "len")=none->σ am=some (acc.map mnT)->r.length<n->acc.length+r.length<=200->
  (∀ ρ' σ',ρ' (Str.ofString "meanings")=some (.obj am)->σ' am=some ((acc++r.map (·.2)).map mnT)->(∀ x,x≠am->σ' x=σ x)->KF .nx ρ' σ')->
  whL (fun ρ σ K=>evT (fun _=>true) Γ msW.1 ρ (d7 (b0 (stm 22)) gt) σ K) (fun ρ σ K=>evB (fun _=>true) Γ msW.2 ρ (d7 (b0 (stm 22)) gt) σ K) n ρ σ KF:=by
 have ln:=c8
 intro r
 induction r with
 | nil=>
   intro pre acc ρ σ n KF hr hi e1 e2 e3 e4 e5 e6 hn hl hK
   obtain⟨n,rfl⟩:∃ m,n=m+1:=⟨n-1,ar8 hn⟩
   refine V3 ?_
   conv=>arg 3;whnf
   conv=>arg 5;arg 1;whnf
   repeat' walk_at "ev"
   have hpl:inner.length=pre.length:=by refine rr hi ?_;simp
   rw[if_neg (by refine rr hpl ?_;simp)]
   repeat' walk_at "ev"
   exact hK ρ σ e3 (by simpa using e6) fun _ _=>rfl
 | cons x r ih=>
   intro pre acc ρ σ n KF hr hi e1 e2 e3 e4 e5 e6 hn hl hK
   obtain⟨p,m⟩:=x
   simp only[List.length_cons] at hn hl
   obtain⟨n,rfl⟩:∃ m,n=m+1:=⟨n-1,ar7 hn⟩
   obtain⟨hc,hm⟩:=hr _ (.head _)
   have hi':inner=pre++(p++(r.map (·.1)).flatten):=by refine rr hi ?_;simp
   have hp1:1<=p.length:=by (refine X9 hc.pos fun c q z81=>?_;subst z81);simp
   have hlen:inner.length=pre.length+(p.length+((r.map (·.1)).flatten).length):=by refine rr hi' ?_;simp
   have hsl:slc inner (some (pre.length:Int)) (some ((pre.length:Int)+(p.length:Int)))=p:=by refine rr hi' ?_;exact b02 ..
   have go:∀ (ρ2:Loc),ρ2 (Str.ofString "inner")=some (.str inner)->ρ2 (Str.ofString "k")=some (.int ((pre.length:Int)+(p.length:Int)))->ρ2 (Str.ofString "meanings")=some (.obj am)->ρ2 (Str.ofString "_law_meaning")=none->ρ2 (Str.ofString "len")=none->
    whL (fun ρ σ K=>evT (fun _=>true) Γ msW.1 ρ (d7 (b0 (stm 22)) gt) σ K) (fun ρ σ K=>evB (fun _=>true) Γ msW.2 ρ (d7 (b0 (stm 22)) gt) σ K) n ρ2 (σ.put am (acc.map mnT++[mnT m])) KF:=fun ρ2 f1 f2 f3 f4 f5=>by
    refine ih (pre++p) (acc++[m]) ρ2 _ n KF (fun y hy=>hr y (.tail _ hy)) (by refine rr hi' ?_;simp) f1 (by refine rr f2 ?_;simp) f3 f4 f5 (by refine rr g0 ?_;simp) (ar0 hn) (by simp;exact c6 hl (by simp +arith)) fun ρ' σ' q1 q2 q3=>hK ρ' σ' q1 (by refine rr q2 ?_;simp) fun x hx=>by rw[q3 x hx,j5 hx]
   refine V3 ?_
   conv=>arg 3;whnf
   conv=>arg 5;arg 1;whnf
   repeat' walk_at "ev"
   refine o7 (by simp;exact b7x hp1 hlen) ?_
   refine a3l fun KF' hKF'=>?_
   conv=>arg 3;whnf
   conv=>arg 5;arg 1;whnf
   repeat' walk_at "ev"
   have hat:∀ c q,p=c::q->at? inner ((pre.length:Nat):Int)=some c:=fun c q e=>by (refine rr hi' ?_;refine rr at_nat ?_;refine rr e ?_);simp
   have ht4:∀ c q,p=c::q->slc inner (some (pre.length:Int)) (some ((pre.length:Int)+4))=(c::(q++(r.map (·.1)).flatten)).take 4:=fun c q e=>by (refine rr hi' ?_;refine rr e ?_);exact Z5 pre _ 4
   have hlp:inner.length<=200:=hz
   cases hc with
   | one c h1 h2 h3=>
     refine A6 (by exact a4i hlen hz) (hat c [] rfl) ?_
     repeat' walk_at "ev"
     (refine rr P2 ?_;refine k6 (by simpa using h1) ?_)
     repeat' walk_at "ev"
     (refine rr (ht4 c [] rfl) ?_;refine rr U6 ?_;refine rr (a9b h3) ?_;refine k6 (by decide) ?_)
     repeat' walk_at "ev"
     refine A6 (by exact a4i hlen hz) (hat c [] rfl) ?_
     repeat' walk_at "ev"
     (refine rr t9 ?_;refine k6 (by simpa using h2) ?_)
     repeat' walk_at "ev"
     refine M2 hΓ ⟨_,m,by rw[show slc inner (some (pre.length:Int)) (some ((pre.length:Int)+1))=[c] from hsl],hm,?_⟩
     repeat' walk_at "ev"
     refine D0 e6 (by simp;omega) ?_
     repeat' walk_at "ev"
     refine go _ ?_ i5 ?_ ?_ ?_<;>walk_at "nm"
   | esc c=>
     refine A6 (a4i hlen hz) (hat 92 [c] rfl) ?_
     repeat' walk_at "ev"
     (refine rr P2 ?_;refine o7 (by decide) ?_)
     repeat' walk_at "ev"
     refine M2 hΓ ⟨_,m,by rw[show slc inner (some (pre.length:Int)) (some ((pre.length:Int)+2))=[92,c] from hsl],hm,?_⟩
     repeat' walk_at "ev"
     refine D0 e6 (by simp;omega) ?_
     repeat' walk_at "ev"
     refine go _ ?_ i5 ?_ ?_ ?_<;>walk_at "nm"
   | no=>
     refine A6 (a4i hlen hz) (hat 40 _ rfl) ?_
     repeat' walk_at "ev"
     (refine rr P2 ?_;refine k6 (by decide) ?_)
     repeat' walk_at "ev"
     (refine rr (ht4 40 _ rfl) ?_;refine rr U6 ?_;refine o7 (by rfl) ?_)
     repeat' walk_at "ev"
     refine M2 hΓ ⟨_,m,by rw[show slc inner (some (pre.length:Int)) (some ((pre.length:Int)+4))=[40,63,33,41] from hsl],hm,?_⟩
     repeat' walk_at "ev"
     refine D0 e6 (by simp;omega) ?_
     repeat' walk_at "ev"
     refine go _ ?_ i5 ?_ ?_ ?_<;>walk_at "nm"
   | cls u hu=>
     refine A6 (by exact a4i hlen hz) (hat 91 _ rfl) ?_
     repeat' walk_at "ev"
     (refine rr P2 ?_;refine k6 (by decide) ?_)
     repeat' walk_at "ev"
     (refine rr (ht4 91 _ rfl) ?_;refine rr U6 ?_;refine rr (a9b (by decide)) ?_;refine k6 (by decide) ?_)
     repeat' walk_at "ev"
     refine A6 (by exact a4i hlen hz) (hat 91 _ rfl) ?_
     repeat' walk_at "ev"
     (refine rr t9 ?_;refine o7 (by decide) ?_)
     repeat' walk_at "ev"
     refine⟨u.length+1,?_⟩
     refine a7t (inner:=inner) (pre:=pre++[91]) (rest:=(r.map (·.1)).flatten) hz u hu [] _ σ _ _ (by refine rr hi' ?_;simp) (by walk_at "nm") (by refine rr i5 ?_;simp) (Nat.lt_succ_self _) fun ρ' q1 q2=>?_
     have o1:ρ' (Str.ofString "inner")=some (.str inner):=by refine rr (q2 _ (d6 (by decide +kernel))) ?_;walk_at "nm"
     have o2:ρ' (Str.ofString "k")=some (.int (pre.length:Nat)):=by refine rr (q2 _ (d6 (by decide +kernel))) ?_;walk_at "nm"
     have o3:ρ' (Str.ofString "meanings")=some (.obj am):=by refine rr (q2 _ (d6 (by decide +kernel))) ?_;walk_at "nm"
     have o4:ρ' (Str.ofString "_law_meaning")=none:=by refine rr (q2 _ (d6 (by decide +kernel))) ?_;walk_at "nm"
     have o5:ρ' (Str.ofString "len")=none:=by refine rr (q2 _ (d6 (by decide +kernel))) ?_;walk_at "nm"
     have q3:ρ' (Str.ofString "end")=some (.int ((pre.length:Int)+((u.length+1:Nat):Int))):=by refine rr q1 ?_;simp
     clear q1
     dsimp only
     have hE:(pre.length:Int)+((u.length+1:Nat):Int)+1=(pre.length:Int)+(((91::(u++[93])).length:Nat):Int):=by simp;exact rfl
     repeat' walk_at "ev"
     refine rr hE ?_
     refine M2 hΓ ⟨_,m,by rw[hsl],hm,?_⟩
     repeat' walk_at "ev"
     refine D0 e6 (by simp;omega) ?_
     repeat' walk_at "ev"
     refine go _ ?_ i5 ?_ ?_ ?_<;>walk_at "nm"
end
end
section
theorem a8n (n:Nat) (l:Nat) (h:l<=n):clipAt n (l:Int)=l:=(clipAt_nat ..).trans (Nat.min_eq_left h)
theorem a9q (n:Nat):clipAt (n+3) (-3)=n:=by exact c24
theorem b6p (b:List Nat):slc (([40,63,115,58]++b)++[41,92,90]) none (some 4)=[40,63,115,58]:=by
 have e:=a8n (([40,63,115,58]++b)++[41,92,90]).length 4 (by simp)
 unfold slc
 simp only[Option.elim]
 (refine rr (show ((4:Int))=((4:Nat):Int) from rfl) ?_;refine rr e ?_)
 exact rfl
theorem b60 (b:List Nat):slc (([40,63,115,58]++b)++[41,92,90]) (some (-3)) none=[41,92,90]:=by
 have hl:(([40,63,115,58]++b)++[41,92,90]).length=(b.length+4)+3:=by simp
 unfold slc
 simp only[Option.elim]
 (refine rr hl ?_;refine rr (a9q (b.length+4)) ?_;refine rr (List.drop_append_of_le_length (by simp)) ?_;refine rr (List.drop_of_length_le (by simp)) ?_)
 simp
theorem b48 (b:List Nat):slc (([40,63,115,58]++b)++[41,92,90]) (some 4) (some (-3))=b:=by
 have hl:(([40,63,115,58]++b)++[41,92,90]).length=(b.length+4)+3:=by simp
 unfold slc
 simp only[Option.elim]
 (refine rr hl ?_;refine rr (a9q (b.length+4)) ?_;refine rr (show ((4:Int))=((4:Nat):Int) from rfl) ?_;refine rr (a8n ((b.length+4)+3) 4 ((by simp +arith))) ?_)
 simp
noncomputable def a1l:Spec:=fun hs σ K=>∃ pm:List (List Nat×Mn),hs=[.str (([40,63,115,58]++(pm.map (·.1)).flatten)++[41,92,90])]/\(∀ x∈pm,CutOk x.1/\MeanOf x.1 x.2)/\pm.length<=50/\((pm.map (·.1)).flatten).length<=190/\K (.list ((pm.map (·.2)).map mnT)) σ
theorem a1z (l:List Mn):J3 8 (.list (l.map mnT))=true:=by
 refine List.all_eq_true.mpr fun x hx=>?_
 (refine c9 (List.mem_map.mp hx) fun m _ z59=>?_;refine rl z59 ?_)
 exact Y5 m
theorem a8y {Γ:Spx}{gt:Loc}{af:Addr}(g1:gt (Str.ofString "len")=some (.val (.builtin "len"))) (g2:gt (Str.ofString "_law_meaning")=some (.val (.ref af))) (hΓ:Γ.f (.ref af)=some a0f)
 {hs:List HV}{σ:St}{K:KV}(H:a1l hs σ K):B6 (fun _=>true) Γ (b0 (stm 22)) gt [Str.ofString "text"] (n7 (stm 22)) hs σ K:=by
 (refine K8 H fun pm z65 hpm hl z66=>?_;clear H;refine rr z65 ?_;refine o_a z66 fun hz hK=>?_)
 refine p6 rfl fun KF hKF=>?_
 conv=>arg 3;whnf
 conv=>arg 5;arg 1;whnf
 simp only[D6,D5]
 generalize hb:(pm.map (·.1)).flatten=b at *
 refine m5 (by with_unfolding_all rfl) (by kernel_rfl) (a3v rfl (by decide) rfl (V9 fun am ham=>?_))
 refine m5 (by with_unfolding_all rfl) (by kernel_rfl) ?_
 refine a1f (x:=.str b) (σ':=σ.put am []) ?_ ?_
 · repeat' walk_at "ev"
   (refine rr (b6p ..) ?_;refine rr (T5 ..) ?_;refine rr (if_pos (by decide) ..) ?_)
   repeat' walk_at "ev"
   (refine rr (b60 ..) ?_;refine rr (a01 ..) ?_;refine rr (if_pos (by decide) ..) ?_)
   repeat' walk_at "ev"
   refine rr (b48 ..) ?_
   exact⟨rfl,rfl⟩
 repeat' walk_at "ev"
 refine⟨pm.length+1,?_⟩
 refine b7e (am:=am) g1 g2 hΓ (inner:=b) (Nat.le_trans hz (by decide)) pm [] [] _ _ _ _ hpm (by refine rl hb ?_;rfl) ?_ ?_ ?_ ?_ ?_ (by refine rr g0 ?_;rfl) (Nat.lt_succ_self _) (by simp;exact b7z hl) fun ρ' σ' q1 q2 q3=>?_
 · walk_at "nm"
 · exact i5
 · walk_at "nm"
 · walk_at "nm"
 · walk_at "nm"
 dsimp only
 repeat' walk_at "ev"
 have hw:within σ σ'=σ:=Ag.within fun x hx=>by
  have hxa:x≠am:=fun q=>by subst q;rw[ham] at hx;exact j0 hx
  (refine rr (q3 x hxa) ?_;exact rr (j5 hxa) rfl)
 refine(j7 (.obj am) (.list ((pm.map (·.2)).map mnT)) rfl ?_ (by refine rr hw ?_;exact hK))
 simp only[frz,ham,q2];rfl
theorem b6i (l:List HV):eqD (.list l) (.list [])=l.isEmpty:=by cases l<;>rfl
noncomputable def b29 (n:Nat) (P:Nat->Bool):List HV:=((List.range n).filter fun (k:Nat)=>!P k).map fun (k:Nat)=>HV.int (k:Int)
theorem a5y (n:Nat) (P:Nat->Bool):J3 8 (.list (b29 n P))=true:=by
 refine List.all_eq_true.mpr fun x hx=>?_
 (refine c9 (List.mem_map.mp hx) fun k _ z117=>?_;refine rl z117 ?_)
 rfl
theorem a54 (n:Nat) (P:Nat->Bool):eqD (.list (b29 n P)) (.list [])=(List.range n).all P:=by
 rw[b6i,Bool.eq_iff_iff]
 unfold b29
 simp[List.filter_eq_nil_iff]
theorem a2f {n:Nat}{P:Nat->Bool}{tst:HV->St->(Bool->St->Prop)->Prop}{els:HV->St->KV->Prop}{σ:St}{K:KV}(hn:n<=1000)
 (ht:∀ k,k<n->∀ K:Bool->St->Prop,K (!P k) σ->tst (.int (k:Nat)) σ K) (he:∀ k,k<n->∀ K:KV,K (.int (k:Nat)) σ->els (.int (k:Nat)) σ K) (hK:K (.list (b29 n P)) σ) :
 J1 tst els [] ((List.range ((n:Int)-0).toNat).map fun (k:Nat)=>HV.int (0+(k:Int))) σ K:=by
 refine rr (show ((List.range ((n:Int)-0).toNat).map fun (k:Nat)=>HV.int (0+(k:Int)))=(List.range n).map fun (k:Nat)=>HV.int (k:Int) from by simp) ?_
 refine R0 (b3l fun k=>!P k.toNat) (fun x=>x) _ _ _ (by simp;exact b8h c8 hn) (fun x hx K hK=>?_) (fun x hx hp K hK=>?_) ?_
 · (refine c9 (List.mem_map.mp hx) fun k hk z121=>?_;clear hx;subst z121)
   exact ht k (List.mem_range.mp hk) K (by simpa [b1l] using hK)
 · (refine c9 (List.mem_map.mp hx) fun k hk z119=>?_;clear hp hx;subst z119)
   exact he k (List.mem_range.mp hk) K hK
 · refine rr (show ([]++(((List.range n).map fun (k:Nat)=>HV.int (k:Int)).filter (b3l fun k=>!P k.toNat)).map fun x=>x)=b29 n P from by
  simp only[List.nil_append,List.map_id',List.filter_map]
  congr 1) ?_;exact hK
noncomputable def B7 (m:Mn) (c:Nat):Bool:=(decide (m.1<=c)&&decide (c<=m.2.1)) != m.2.2
noncomputable def y8 (ms:List Mn) (l:List Nat):Bool:=decide (ms.length=l.length)&&(List.range l.length).all fun k=>B7 (ms.getD k (0,0,false)) (l.getD k 0)
noncomputable def a1x:Spec:=fun hs σ K=>∃ ms l,hs=[.list (List.map mnT ms),.str l]/\l.length<=300/\ms.length<=300/\K (.bool (y8 ms l)) σ
theorem c32 (ms:List Mn):pyL (ms.map mnT)=ms.map fun m=>.tuple [.int m.1,.int m.2.1,.bool m.2.2]:=by
 induction ms with
 | nil=>rfl
 | cons m r ih=>show _::_=_::_;refine rr ih ?_;rfl
theorem b5e (ms:List Mn):Spec.countIn .none (pyL (ms.map mnT))=0:=by
 induction ms with
 | nil=>rfl
 | cons m r ih=>show (if Spec.same (py (mnT m)) PyData.none then (1:Int) else 0)+Spec.countIn .none (pyL (r.map mnT))=0;refine rr ih ?_;rfl
theorem b3p (ms:List Mn):∀ y∈pyL (ms.map mnT),SeqAt.noMix y .none=true:=by
 intro y hy
 rw[c32] at hy
 (refine c9 (List.mem_map.mp hy) fun m _ z123=>?_;refine rl z123 ?_)
 rfl
theorem a7v {mu:Pos->Bool}{Γ:Spx}{gt:Loc}{ah:Addr}(hmu:∀ p,mu p=false) (g1:gt (Str.ofString "len")=some (.val (.builtin "len"))) (g2:gt (Str.ofString "range")=some (.val (.type "range"))) (g3:gt (Str.ofString "ord")=some (.val (.builtin "ord"))) (g4:gt (Str.ofString "_law_holds")=some (.val (.ref ah))) (hΓ:Γ.f (.ref ah)=some a00)
 {hs:List HV}{σ:St}{K:KV}(H:a1x hs σ K):B6 mu Γ (b0 (stm 24)) gt [Str.ofString "meanings",Str.ofString "text"] (n7 (stm 24)) hs σ K:=by
 (refine M6 H fun ms l z126 hl hm hK=>?_;clear H;refine rr z126 ?_)
 have ln:=c8
 refine p6 rfl fun KF hKF=>?_
 conv=>arg 3;whnf
 conv=>arg 5;arg 1;whnf
 simp only[D6,D5]
 repeat' walk_at "ev"
 refine c5d rfl (a1z ms) (b3p ms) ?_
 have e0:decide (Spec.countIn (py .none) (pyL (ms.map mnT))≠0)=false:=by
  (refine rr (show py HV.none=PyData.none from rfl ..) ?_;refine rr (b5e ..) ?_);rfl
 refine rr e0 ?_
 repeat' walk_at "ev"
 refine V1 (fun q=>?_) (fun q=>?_)
 · have hne:¬ ms.length=l.length:=by simp at q;exact by lia
   repeat' walk_at "ev"
   refine rr o0 ?_
   have:y8 ms l=false:=by unfold y8;refine rr (decide_eq_false hne) ?_;rfl
   rw[this] at hK;exact hK
 · have heq:ms.length=l.length:=by simp at q;exact Nat.le_antisymm (c6 (lq (Int.ofNat.inj q:_=_)) (by simp +arith)) (c6 (lq (Int.ofNat.inj q:_=_).symm) (by simp +arith))
   repeat' walk_at "ev"
   refine K7 (Nat.lt_of_le_of_lt hl (by decide)) ?_
   repeat' walk_at "ev"
   refine a2f (P:=fun k=>B7 (ms.getD k (0,0,false)) (l.getD k 0)) (Nat.le_trans hl (by decide)) (fun k hk K hK=>?_) (fun k hk K hK=>?_) ?_
   · obtain⟨m,hm'⟩:∃ m,ms[k]? = some m:=⟨ms[k]'(c4n hk heq),List.getElem?_eq_getElem _⟩
     obtain⟨c,hc⟩:∃ c,l[k]? = some c:=⟨l[k],List.getElem?_eq_getElem hk⟩
     repeat' walk_at "ev"
     refine y2 (by exact b7r hk hl) (show _=some (mnT m) from by refine rr at_nat ?_;simp[hm']) ?_
     repeat' walk_at "ev"
     refine A6 (by exact b7r hk hl) (at_nat.trans hc) ?_
     repeat' walk_at "ev"
     refine M2 hΓ (D4 m.1 m.2.1 m.2.2 c ⟨rfl,?_⟩)
     repeat' walk_at "ev"
     have e:B7 (ms.getD k (0,0,false)) (l.getD k 0)=((decide ((m.1:Int)<=(c:Int))&&decide ((c:Int)<=(m.2.1:Int))) != m.2.2):=by
      (refine rr (List.getD_eq_getElem?_getD) ?_;refine rr (List.getD_eq_getElem?_getD) ?_;refine rr hm' ?_;refine rr hc ?_)
      simp[B7]
     rw[e] at hK;exact hK
   · repeat' walk_at "ev"
     exact hK
   · refine U8 (hmu _) (by decide) (by rfl) ?_
     repeat' walk_at "ev"
     refine b2a (a5y _ _) rfl ?_
     refine rr (a54 ..) ?_
     repeat' walk_at "ev"
     refine rr o0 ?_
     have:y8 ms l=(List.range l.length).all fun k=>B7 (ms.getD k (0,0,false)) (l.getD k 0):=by unfold y8;refine rr (decide_eq_true heq) ?_;rfl
     rw[this] at hK;exact hK
end
section
inductive Pz where
 | qm
 | one (c:Nat)
 | rg (b:Bool) (lo hi:Nat)
noncomputable def endsL:List Nat:=[0,1,2,42,45,63,91,92,94,97,98,99,126,128,200,255]
noncomputable def Pz.txt:Pz->List Nat
 | .qm=>[63]
 | .one c=>if [42,63,91].contains c then [91,c,93] else [c]
 | .rg b lo hi=>91::((if b then [33] else [])++[lo,45,hi,93])
noncomputable def Pz.mean:Pz->Mn
 | .qm=>(1,0,true)
 | .one c=>(c,c,false)
 | .rg b lo hi=>if hi<lo then (1,0,b) else (lo,hi,b)
noncomputable def Pz.good:Pz->Prop
 | .qm=>True
 | .one c=>c<256
 | .rg _ lo hi=>lo∈endsL/\hi∈endsL
noncomputable def pcM (m:Mn) (w:List Nat) (o:Int):HV:=.tup [.int m.1,.int m.2.1,.bool m.2.2,.str w,.int o]
noncomputable def pcH (t:Pz) (o:Int):HV:=pcM t.mean t.txt o
noncomputable def a1q:Spec:=fun hs σ K=>∃ n:Int,hs=[.int n]/\0<=n/\n<10 ^ 9/\∀ (t:Pz) (o:Int),t.good->0<=o->o<256->K (pcH t o) σ
theorem b78 {σ σ':St}(m:Mn) (w:List Nat) (o:Int):frz σ σ' (pcM m w o)=some (pcM m w o):=rfl
section
variable {Γ:Spx}{gt:Loc}(g1:gt (Str.ofString "chr")=some (.val (.builtin "chr"))) (g2:gt (Str.ofString "max")=some (.val (.builtin "max")))
include g1 g2
theorem a30 {ρ:Loc}{σ:St}{KF:KS}{n:Int}{m:Mn}{w:List Nat}{o:Int}(hn0:0<=n) (hn1:n<10 ^ 9) (e1:ρ (Str.ofString "number")=some (.int n)) (e2:ρ (Str.ofString "low")=some (.int m.1)) (e3:ρ (Str.ofString "high")=some (.int m.2.1)) (e4:ρ (Str.ofString "barred")=some (.bool m.2.2)) (e5:ρ (Str.ofString "written")=some (.str w)) (e6:ρ (Str.ofString "octet")=some (.int o))
 (ho0:0<=o) (ho1:o<256) (hK:∀ (o:Int) ρ',0<=o->o<256->KF (.rt (pcM m w o)) ρ' σ):evB (fun _=>false) Γ ((n7 (stm 18)).drop 5) ρ (d7 (b0 (stm 18)) gt) σ KF:=by
 conv=>arg 3;whnf
 conv=>arg 5;arg 1;whnf
 repeat' walk_at "ev"
 refine X3 (A8 (by decide) (a1e hn0 hn1) (by decide)) ?_
 repeat' walk_at "ev"
 refine D8 (by decide) ?_
 repeat' walk_at "ev"
 refine V1 (fun q=>?_) (fun q=>?_)
 · repeat' walk_at "ev"
   refine X3 (A8 (by decide) (a1e hn0 hn1) (by decide)) ?_
   repeat' walk_at "ev"
   refine D8 (by decide) ?_
   repeat' walk_at "ev"
   refine hK _ _ ?_ ?_
   · refine rr (Int.fmod_eq_emod_of_nonneg _ (by decide)) ?_;exact Int.emod_nonneg _ (by decide)
   · refine rr (Int.fmod_eq_emod_of_nonneg _ (by decide)) ?_;exact Int.emod_lt_of_pos _ (by decide)
 · repeat' walk_at "ev"
   exact hK o _ ho0 ho1
theorem a51 {ρ:Loc}{σ:St}{KF:KS}{n:Int}{lo hi:Nat}{b:Bool}{w:List Nat}(hn0:0<=n) (hn1:n<10 ^ 9) (e1:ρ (Str.ofString "number")=some (.int n)) (e2:ρ (Str.ofString "low")=some (.int (lo:Nat))) (e3:ρ (Str.ofString "high")=some (.int (hi:Nat))) (e4:ρ (Str.ofString "barred")=some (.bool b)) (e5:ρ (Str.ofString "written")=some (.str w)) (e6:ρ (Str.ofString "max")=none)
 (hl:lo<256) (hh:hi<256) (hK:∀ (o:Int) ρ',0<=o->o<256->KF (.rt (pcM (if hi<lo then (1,0,b) else (lo,hi,b)) w o)) ρ' σ):evB (fun _=>false) Γ ((n7 (stm 18)).drop 4) ρ (d7 (b0 (stm 18)) gt) σ KF:=by
 conv=>arg 3;whnf
 conv=>arg 5;arg 1;whnf
 refine a9r ?_
 repeat' walk_at "ev"
 refine V1 (fun q=>?_) (fun q=>?_)
 · have hlt:hi<lo:=by simpa using q
   refine a1i (q_B (a9v (by kernel_rfl) (by kernel_rfl) (by kernel_rfl) rfl (a3n rfl) ?_))
   repeat' walk_at "ev"
   refine(I5 _ _ _ rfl ?_)
   rw[if_pos hlt] at hK
   exact a30 g1 g2 (m:=(1,0,b)) (w:=w) (o:=7) hn0 hn1 (by walk_at "nm") (by exact i8 (d6 (by decide +kernel)) (i8 (d6 (by decide +kernel)) i5)) (by exact i8 (d6 (by decide +kernel)) i5) (by walk_at "nm") (by walk_at "nm") i5 (by decide) (by decide) hK
 · have hlt:¬ hi<lo:=by simpa using q
   rw[if_neg hlt] at hK
   refine a1i (a9r ?_)
   repeat' walk_at "ev"
   induction b with
   | false=>
     refine c33 (a1i (m5 (by with_unfolding_all rfl) (by kernel_rfl) (X5 (by walk_at "nm") ?_)))
     exact a30 g1 g2 (m:=(lo,hi,false)) (w:=w) (o:=(lo:Nat)) hn0 hn1 (by walk_at "nm") (by walk_at "nm") (by walk_at "nm") (by walk_at "nm") (by walk_at "nm") i5 (b9g) (Int.ofNat_lt.mpr hl) hK
   | true=>
     refine c48 (a1i (m5 (by with_unfolding_all rfl) (by kernel_rfl) ?_))
     refine U9 (K:=fun h s=>∃ o:Int,0<=o/\o<256/\h=.int o/\s=σ) (fun h s q=>?_) ?_
     · (refine K8 q fun o h0 h1 z424 z425=>?_;clear q;refine rr z424 ?_;refine rr z425 ?_)
       exact a30 g1 g2 (m:=(lo,hi,true)) (w:=w) (o:=o) hn0 hn1 (by walk_at "nm") (by walk_at "nm") (by walk_at "nm") (by walk_at "nm") (by walk_at "nm") i5 h0 h1 hK
     · repeat' walk_at "ev"
       refine V1 (fun q=>?_) (fun q=>?_)
       · have:(hi:Int)<255:=by simpa using q
         repeat' walk_at "ev"
         exact(a2t _ (Int.ofNat_le.mpr ((by simp +arith):0<=(_+1))) (Int.ofNat_lt.mpr ((c6 (Int.ofNat_lt.mp this:_<255) (by simp +arith)):(_+1)<256)) rfl rfl)
       · repeat' walk_at "ev"
         refine c5a ?_
         exact(a2t _ (Int.le_max_right _ _) (Int.max_lt.mpr ⟨Int.lt_of_le_of_lt (Int.sub_le_self _ (by decide)) (Int.ofNat_lt.mpr hl),by decide⟩) rfl rfl)
end
end
section
theorem b4k:v9 (Str.ofString "*?[")=[42,63,91]:=by kernel_rfl
theorem U7:v9 (Str.ofString "!")=[33]:=by kernel_rfl
theorem a5p {l:List HV}(hl:l=endsL.map fun (c:Nat)=>HV.int (c:Int)){i:Int}(h0:0<=i) (h1:i<16):∃ e,e∈endsL/\at? l i=some (.int (e:Nat)):=by
 obtain⟨k,rfl⟩:∃ k:Nat,i=k:=⟨i.toNat,b8t h0⟩
 have hk:k<endsL.length:=by exact Int.ofNat_lt.mp h1
 refine(j1 (endsL[k]) (List.getElem_mem _) ?_)
 (refine rr hl ?_;refine rr at_nat ?_;refine rr (List.getElem?_map) ?_;refine rr (List.getElem?_eq_getElem hk) ?_);rfl
theorem a58:∀ c∈endsL,c<256:=by decide
theorem O0 (a:Int){b:Int}(h:0<b):0<=a.fmod b/\a.fmod b<b:=by
 refine rr (Int.fmod_eq_emod_of_nonneg _ (b46 h)) ?_;exact⟨Int.emod_nonneg _ (by lia),Int.emod_lt_of_pos _ h⟩
theorem b9h {a b:Int}(h0:0<=a) (h1:a<2 ^ 61) (h:0<b):0<=a.fdiv b/\a.fdiv b<2 ^ 61:=by
 refine rr (Int.fdiv_eq_ediv_of_nonneg _ (by exact b46 h)) ?_
 exact⟨Int.ediv_nonneg h0 (by exact b46 h),Int.lt_of_le_of_lt (Int.ediv_le_self _ h0) h1⟩
section
variable {Γ:Spx}{gt:Loc}(g1:gt (Str.ofString "chr")=some (.val (.builtin "chr"))) (g2:gt (Str.ofString "max")=some (.val (.builtin "max")))
include g1 g2
theorem a88 {hs:List HV}{σ:St}{K:KV}(H:a1q hs σ K):B6 (fun _=>false) Γ (b0 (stm 18)) gt [Str.ofString "number"] (n7 (stm 18)) hs σ K:=by
 (refine K8 H fun n z122 hn0 hn1 hK=>?_;refine rr z122 ?_)
 have fin:∀ (t:Pz),t.good->∀ KF:KS,(∀ fl (ρ:Loc) σ',(∃ h h',fl=Fl.rt h/\frz σ σ' h=some h'/\K h' (within σ σ'))->KF fl ρ σ')->∀ (o:Int) (ρ':Loc),0<=o->o<256->KF (.rt (pcM t.mean t.txt o)) ρ' σ:=fun t ht KF hKF o ρ' h0 h1=>
  hKF _ _ _ (j7 _ _ rfl (b78 _ _ _) (by refine rr o0 ?_;exact hK t o ht h0 h1))
 refine p6 rfl fun KF hKF=>?_
 conv=>arg 3;whnf
 conv=>arg 5;arg 1;whnf
 simp only[D6,D5]
 refine m5 (by with_unfolding_all rfl) (by kernel_rfl) (U8 rfl (by decide) rfl ?_)
 repeat' walk_at "ev"
 refine X3 (A8 (by decide) (a1e hn0 hn1) (by decide)) ?_
 have hr:=b9h (b:=6) hn0 (Int.lt_trans hn1 (by decide)) (by decide)
 generalize n.fdiv 6=r at *
 repeat' walk_at "ev"
 refine D8 (by decide) ?_
 have hm:=O0 n (b:=6) (by decide)
 generalize hmd:n.fmod 6=m at *
 repeat' walk_at "ev"
 refine D8 (by decide) ?_
 refine rr hmd ?_
 repeat' walk_at "ev"
 refine V1 (fun q=>?_) (fun q=>?_)
 · have h0:m=0:=by simpa using q
   refine rr h0 ?_
   refine a1i (q_B (a9v (by kernel_rfl) (by kernel_rfl) (by kernel_rfl) rfl (a3n rfl) ?_))
   repeat' walk_at "ev"
   refine(I5 _ _ _ rfl ?_)
   exact a51 g1 g2 (lo:=1) (hi:=0) (b:=true) (w:=[63]) hn0 hn1 (by walk_at "nm") (by exact i8 (d6 (by decide +kernel)) (i8 (d6 (by decide +kernel)) i5)) (by exact i8 (d6 (by decide +kernel)) i5) (by exact i8 (d6 (by decide +kernel)) (i8 (d6 (by decide +kernel)) (i8 (d6 (by decide +kernel)) i5))) (by exact i5) (by walk_at "nm") (by decide) (by decide) (fin .qm trivial KF hKF)
 · have h0:¬ m=0:=by simpa using q
   repeat' walk_at "ev"
   refine D8 (by decide) ?_
   refine rr hmd ?_
   repeat' walk_at "ev"
   refine V1 (fun q=>?_) (fun q=>?_)
   · have h3:m<3:=by simpa using q
     have hbar:[0,5].contains m=false:=by
      rcases (by exact c25 hm h3 h0:m=1\/m=2) with rfl | rfl<;>rfl
     refine rr hbar ?_
     refine a1i (m5 (by with_unfolding_all rfl) (by kernel_rfl) ?_)
     refine U9 (K:=fun h s=>∃ c:Nat,c<256/\h=.int (c:Nat)/\s=σ) (fun h s q=>?_) ?_
     · (refine u9 q fun c hc z128 z129=>?_;refine rr z128 ?_;subst z129)
       refine a1i (m5 (by with_unfolding_all rfl) (by kernel_rfl) (X5 (by walk_at "nm") ?_))
       refine a1i (m5 (by with_unfolding_all rfl) (by kernel_rfl) ?_)
       refine a1f (x:=.str (Pz.one c).txt) (σ':=s) ?_ ?_
       · repeat' walk_at "ev"
         refine a2l (a7p hc) ?_
         repeat' walk_at "ev"
         refine rr b4k ?_
         unfold Pz.txt
         simp only[Int.toNat_natCast]
         refine V1 (fun q=>?_) (fun q=>?_)
         · refine rr (if_pos q) ?_
           repeat' walk_at "ev"
           refine a2l (by exact a7p hc) ?_
           repeat' walk_at "ev"
           refine y9 (by (refine rr t9 ?_;refine rr c8 ?_);simp) ?_
           repeat' walk_at "ev"
           refine y9 (by (refine rr t9 ?_;refine rr y4 ?_;refine rr c8 ?_);simp) ?_
           (refine rr t9 ?_;refine rr y4 ?_)
           exact⟨rfl,rfl⟩
         · refine rr (if_neg q) ?_
           repeat' walk_at "ev"
           refine a2l (by exact a7p hc) ?_
           exact⟨rfl,rfl⟩
       refine a6w ?_
       have F:=fin (.one c) hc KF hKF
       exact a51 g1 g2 (lo:=c) (hi:=c) (b:=false) (w:=(Pz.one c).txt) hn0 hn1 (by walk_at "nm") (by walk_at "nm") (by walk_at "nm") (by walk_at "nm") (by walk_at "nm") (by walk_at "nm") hc hc (by refine rr (if_neg (Nat.lt_irrefl _)) ?_;exact F)
     · repeat' walk_at "ev"
       refine D8 (by decide) ?_
       repeat' walk_at "ev"
       refine V1 (fun q=>?_) (fun q=>?_)
       · repeat' walk_at "ev"
         refine D8 (by decide) ?_
         have h:=O0 r (b:=256) (by decide)
         exact⟨(r.fmod 256).toNat,(by simp_all),by rw[Int.toNat_of_nonneg h.1],rfl⟩
       · repeat' walk_at "ev"
         refine D8 (by decide) ?_
         have h:=O0 r (b:=16) (by decide)
         refine c9 (a5p (l:=_) rfl h.1 h.2) fun e he ha=>?_
         refine y2 (b3t h) ha ?_
         exact(y7 e (a58 e he) rfl rfl)
   · have h3:¬ m<3:=by simpa using q
     refine a1i (b01 (by kernel_rfl) ?_)
     repeat' walk_at "ev"
     refine D8 (by decide) ?_
     have h:=O0 r (b:=16) (by decide)
     refine c9 (a5p (l:=_) rfl h.1 h.2) fun lo hlo ha=>?_
     refine y2 (b3t h) ha ?_
     repeat' walk_at "ev"
     refine X3 (A8 (by decide) (Int.ofNat_lt.mp (show ((Int.natAbs _:Nat):Int)<((2 ^ 62:Nat):Int) from Int.lt_of_le_of_lt (Int.le_of_eq (Int.natAbs_of_nonneg hr.1)) (Int.lt_trans hr.2 (by decide)))) (by decide)) ?_
     repeat' walk_at "ev"
     refine D8 (by decide) ?_
     have h':=O0 (r.fdiv 16) (b:=16) (by decide)
     refine c9 (a5p (l:=_) rfl h'.1 h'.2) fun hi hhi hb=>?_
     refine y2 (b3t h') hb ?_
     generalize [0,5].contains m=b at *
     have l1:=a58 lo hlo
     have l2:=a58 hi hhi
     refine a1i (m5 (by with_unfolding_all rfl) (by kernel_rfl) ?_)
     refine a1f (x:=.str (Pz.rg b lo hi).txt) (σ':=σ) ?_ ?_
     · refine T9 (T9 (T9 (T9 (T9 (b3j (by kernel_rfl) (a1f (x:=.str (if b then [33] else [])) (σ':=σ) ?_ ?_))))))
       · induction b with
         | true=>
           repeat' walk_at "ev"
           refine rr U7 ?_;exact⟨rfl,rfl⟩
         | false=>
           repeat' walk_at "ev"
           refine rr o8 ?_;exact⟨rfl,rfl⟩
       have hbl:(if b then [33] else ([]:List Nat)).length<=1:=by cases b<;>decide
       generalize hbb:(if b then [33] else ([]:List Nat))=bb at *
       refine y9 (by (refine rr t9 ?_;refine rr c8 ?_);simp;exact c6 hbl (by simp +arith)) ?_
       repeat' walk_at "ev"
       refine a2l (a7p l1) ?_
       refine y9 (by (refine rr t9 ?_;refine rr c8 ?_);simp;exact Nat.le_trans hbl (by decide)) ?_
       repeat' walk_at "ev"
       refine y9 (by (refine rr t9 ?_;refine rr E6 ?_;refine rr c8 ?_);simp;exact Nat.le_trans hbl (by decide)) ?_
       repeat' walk_at "ev"
       refine a2l (a7p l2) ?_
       refine y9 (by (refine rr t9 ?_;refine rr E6 ?_;refine rr c8 ?_);simp;exact Nat.le_trans hbl (by decide)) ?_
       repeat' walk_at "ev"
       refine y9 (by (refine rr t9 ?_;refine rr E6 ?_;refine rr y4 ?_;refine rr c8 ?_);simp;exact Nat.le_trans hbl (by decide)) ?_
       refine⟨?_,rfl⟩
       (refine rr t9 ?_;refine rr E6 ?_;refine rr y4 ?_)
       show _=HV.str (91::((if b then [33] else [])++[lo,45,hi,93]))
       refine rr hbb ?_
       simp
     refine a6w ?_
     exact a51 g1 g2 (lo:=lo) (hi:=hi) (b:=b) (w:=(Pz.rg b lo hi).txt) hn0 hn1 (by walk_at "nm") (by walk_at "nm") (by walk_at "nm") (by walk_at "nm") (by walk_at "nm") (by walk_at "nm") l1 l2 (fin (.rg b lo hi) ⟨hlo,hhi⟩ KF hKF)
end
end
section
noncomputable def w8 (s:Stmt):Arguments:=(stI s).2.2.2.2.1
noncomputable def b7s (s:Stmt):Pos:=(stI s).2.2.2.2.2
noncomputable def C7:Stmt:=(n7 (stm 17)).getD 1 (.Pass ⟨0,0,0,0⟩)
noncomputable def tN (s:String):Str:=Str.ofString s
structure TapeAt (ω:Own) (T P K:Addr) (octets:List UInt8) (fo:FuncData) (ρf:Loc):Prop where
 len:octets.length<=1000
 shape:∃ qual doc pm cv ctv cl,fo=fnX "take" qual (w8 C7) (n7 C7) (b0 C7) cl .none .none doc pm none cv ctv
 fn:ω K=some (.fz { cls:=.type "function",data:=.func fo })
 code:CodeOk ω fo.code fo.qualname
 free:FreeOk ω fo.scope fo.closure ρf
 roct:ρf (tN "octets")=some (.bytes octets)
 rpl:ρf (tN "place")=some (.obj P)
 rn:ρf (tN "min")=none/\ρf (tN "len")=none
 tape:∃ D m fd sl,ω T=some (.fz { cls:=.type "function",dict:=some D,data:=.func fd,slots:=sl })/\ω D=some (.ns m)/\m "read" = some (.ref K)/\m "place" = some (.ref P)
theorem FreeOk.keeps {ω ω':Own}{sc:Scope}{cl:List (Str×Addr)}{ρf:Loc}(x:∀ b m,ω b=some m->m.stay=true->ω' b=some m) (f:LeF ω ω') (h:FreeOk ω sc cl ρf):FreeOk ω' sc cl ρf:=fun y k e=>by
 refine q9 (h y k e) fun h1 c v h2 h3 h4=>?_
 exact(u5 h1 c v h2 ⟨x _ _ h3 rfl,h4.monoF f⟩)
theorem TapeAt.stay {ω ω':Own}{T P K:Addr}{octets:List UInt8}{fo:FuncData}{ρf:Loc}(x:∀ b m,ω b=some m->m.stay=true->ω' b=some m) (h:TapeAt ω T P K octets fo ρf):TapeAt ω' T P K octets fo ρf:=by
 refine⟨h.len,h.shape,x _ _ h.fn rfl,h.code.monoF (fun a o e=>x a _ e rfl),h.free.keeps x (fun a o e=>x a _ e rfl),h.roct,h.rpl,h.rn,?_⟩
 (refine I7 h.tape fun D m fd sl z452=>?_;refine M4 z452 fun h1 h2 h3=>?_)
 exact(a3a D m fd sl (x _ _ h1 rfl) (x _ _ h2 rfl) h3)
theorem TapeAt.monoW {ω ω':Own}{T P K:Addr}{octets:List UInt8}{fo:FuncData}{ρf:Loc}(l:LeW ω ω') (h:TapeAt ω T P K octets fo ρf):TapeAt ω' T P K octets fo ρf:=h.stay l
noncomputable def a0e (o:List UInt8) (p c:Nat):List UInt8:=(o.take (min o.length (p+c))).drop p
section
variable {prog:Program}{w:World}{B0:Heap}{os:OsState}{gs:TQ}{mg mb:Str->Option Value}{n:Nat}{gt:Loc}
theorem c5e {fo:FuncData}{qual:Str}{doc pm cv ctv:Value}{cl:List (Str×Addr)}(e:fo=fnX "take" qual (w8 C7) (n7 C7) (b0 C7) cl .none .none doc pm none cv ctv):N9 fo [tN "count"] (n7 C7):=by
 subst e
 refine⟨rfl,rfl,rfl,rfl,rfl,rfl,by trivial,?_,?_,?_⟩
 · show ∀ x∈(b0 C7).names,x.2≠.cell
   decide +kernel
 · show ∀ x∈[tN "count"],(b0 C7).names.lookup x=some .local
   decide +kernel
 · refine(U4 (by decide +kernel) ?_ (by decide +kernel) ?_ ?_)
   · show (b0 C7).names.lookup ("__debug__" : Str)≠some .globalImplicit
     decide +kernel
   · show (b0 C7).names.lookup ("__debug__" : Str)≠some .free
     decide +kernel
   · show (b0 C7).names.lookup ("__classdict__" : Str)≠some .free
     decide +kernel
theorem b0e (TB:TopB B0 mg mb) (hg:I1 mg mb gt) (g1:gt (tN "min")=some (.val (.builtin "min"))) (g2:gt (tN "len")=some (.val (.builtin "len"))){A:Around}{l:List Env}{ω:Own}{s:Shared}{σ:St}{T P K:Addr}{octets:List UInt8}{fo:FuncData}{ρf:Loc}{p c:Nat}{t:Tok}
 (Rm:Room (n+1) A) (Ks:Stk ω A l) (S:MS B0 os ω gs s) (R:RelS ω σ) (H:TapeAt ω T P K octets fo ρf) (hp:σ P=some [.int (p:Nat)]) (hpl:p<=octets.length) (hc:c<=1000) :
 wpAny (model prog w) A (call (.ref K) [.int (c:Nat) t] []) (J0 B0 os ω fun h _ σ' gs'=>h=.bytes (a0e octets p c)/\σ'=σ.put P [.int (min octets.length (p+c):Nat)]/\gs'=gs) (RaisG B0 os ω fun _ _ _ _ _=>False) s:=by
 have hlen:=H.len
 have ln:=c8
 obtain⟨qual,doc,pm,cv,ctv,cl,rfl⟩:=H.shape
 refine y1 H.code fun c₁ oc ovs ot hcv hc1 hc2 hc3=>?_
 refine a5v (n:=n) (ps:=[tN "count"]) (hs:=[.int (c:Nat)]) (vs:=[.int (c:Nat) t]) (ρf:=ρf) TB (c5e rfl) hg (fun _ _ _ _ _ _ _ q=>q) (fun _ _ _ _ _ _ q=>q) Rm Ks S R (by simp only[RdL,Rd];exact⟨_,[],rfl,⟨t,rfl⟩,rfl⟩) rfl (BindsTo.of_eq (by with_unfolding_all rfl)) (S.hold _ _ H.fn) rfl ⟨c₁,oc,ovs,ot,hcv,S.hold _ _ hc1,hc2,hc3⟩ H.free ?_
 intro env A' ω₁ s₁ hfr O Rm' Ks' S₁ R₁ hnew other
 have n1:C4 ρf [tN "count"] [.int (c:Nat)]=upd ρf (tN "count") (.int (c:Nat)):=rfl
 rw[n1] at O
 replace O:EnvOk mg mb env ω₁ _ (d7 (b0 C7) gt):=O
 have e1:=H.roct
 have e2:=H.rpl
 have e3:=H.rn.1
 have e4:=H.rn.2
 unfold tN at *
 conv=>arg 3;arg 1;whnf
 refine a94 (mu:=fun _=>false) (N:=fun ρ' σ'=>ρ'=upd (upd ρf (Str.ofString "count") (.int (c:Nat))) (Str.ofString "here") (.int (p:Nat))/\σ'=σ) TB (j8 (n:=n)) Rm' O S₁ R₁ ?_ ?_
 · repeat' walk_at "ev"
   refine a05 (by decide) hp rfl ?_
   exact⟨rfl,rfl,rfl⟩
 intro ω₂ s₂ ρ2 σ₂ l₂ O2 S₂ R₂ hN
 obtain⟨rfl,rfl⟩:=hN
 conv=>arg 3;arg 1;whnf
 refine wpAny_execs_cons (wpAny_Assign_Subscript ?_)
 refine j4 (okE (mu:=fun _=>false) TB (j8 (n:=n)) _ A' _ ω₂ s₂ σ₂ (fun h σ'=>h=.int (min octets.length (p+c):Nat)/\σ'=σ₂) env _ _ Rm' O2 S₂ R₂ ?_) fun h₃ ω₃ σ₃ v₃ s₃ l₃ S₃ R₃ r₃ k₃=>?_
 · repeat' walk_at "ev"
   exact⟨by congr 1;exact c2n,rfl⟩
 (refine o_a k₃ fun z231 z232=>?_;clear k₃;subst z231;subst z232)
 refine j4 (okE (mu:=fun _=>false) TB (j8 (n:=n)) _ A' _ ω₃ s₃ σ₃ (fun h σ'=>h=.obj P/\σ'=σ₃) env _ _ Rm' (O2.mono l₃) S₃ R₃ ?_) fun h₄ ω₄ σ₄ v₄ s₄ l₄ S₄ R₄ r₄ k₄=>?_
 · repeat' walk_at "ev"
   exact⟨rfl,rfl⟩
 obtain⟨rfl,rfl⟩:=k₄
 refine j4 (okE (mu:=fun _=>false) TB (j8 (n:=n)) _ A' _ ω₄ s₄ σ₄ (fun h σ'=>h=.int 0/\σ'=σ₄) env _ _ Rm' (O2.mono (l₃.trans l₄)) S₄ R₄ ?_) fun h₅ ω₅ σ5 v₅ s₅ l₅ S₅ R₅ r₅ k5=>?_
 · repeat' walk_at "ev"
   exact⟨rfl,rfl⟩
 obtain⟨rfl,rfl⟩:=k5
 simp only[Rd] at r₄ r₅
 subst r₄
 obtain⟨t5,rfl⟩:=r₅
 refine a67 S₅ R₅ hp (by decide) (by simp) (r₃.mono (l₄.trans l₅)) fun ω6 s₆ l₆ S6 R6=>?_
 have l26:=l₃.trans (l₄.trans (l₅.trans l₆))
 show wpAny _ _ (execs _ _) _ _ _
 conv=>arg 3;arg 1;whnf
 refine c4i (mu:=fun _=>false) (N:=fun h σ'=>h=.bytes (a0e octets p c)/\σ'=σ5.put P [.int (min octets.length (p+c):Nat)]) TB (j8 (n:=n)) Rm' (O2.mono l26) S6 R6 ?_ ?_
 · repeat' walk_at "ev"
   refine a05 (by decide) (g0) rfl ?_
   repeat' walk_at "ev"
   refine⟨?_,rfl⟩
   refine rr (Z3 ..) ?_;rfl
 · intro ω7 s7 v h σ' l7 S7 R7 r₇ hN
   exact⟨v,h,ω7,σ',gs,rfl,l₂.trans ((l26.trans l7).s _),S7,R7,r₇,hN.1,hN.2,rfl⟩
end
end
section
section
variable {prog:Program}{w:World}{B0:Heap}{os:OsState}{gs:TQ}{mg mb:Str->Option Value}{mu:Pos->Bool}{Γ:Spx}{n:Nat}
theorem a04 {A:Around}{E:Value->Shared->Prop}{s:Shared}{env:Env}{o:Expr}{name:Str}{ap pos:Pos}{args:List Expr}{Q:Value->Shared->Prop}(hc:T4 o=true) (hp:args.all n8=true) (hlen:args.length<=20) (hln:ap.endLine=pos.line) (hmiss:typeLookup (.type "function") name=pure none)
 (h:wpAny (model prog w) A (eval o env) (fun ov s₁=>∃ a D fd sl m v,ov=.ref a/\s₁.heap.get? a=some { cls:=.type "function",dict:=some D,data:=.func fd,slots:=sl }/\s₁.heap.Ns D m/\m name=some (.ref v)/\
  ∀ tk,wpAny (model prog w) A (callWith pos (.ref v) [] (backTo pos (starEach args env)) (backToKw pos (keywordEach [] env))) Q E { s₁ with toks:=tk }) E s):wpAny (model prog w) A (eval (.Call (.Attribute o name ap) args [] pos) env) Q E s:=by
 (refine rr (arm_eval_Call ..) ?_;refine rr (u8 hc) ?_)
 refine wpAny_bind (wpAny_mono h (fun ov s₁ h₁=>?_) fun _ _ e=>e)
 (refine J4 h₁ fun a D fd sl m z473=>?_;clear h₁;refine K8 z473 fun v z474 h1 h2 z475=>?_;refine rr z474 ?_;refine o_a z475 fun h3 h4=>?_)
 refine wpAny_bind (wpAny_standAt ?_)
 have hform:methodCallForm (args.length+([]:List Keyword).length) (backTo pos (starEach args env)) (backToKw pos (keywordEach [] env))=true:=M1 args env hp hlen pos
 have hpos:methodCallPos true o env ap pos=pure pos:=by unfold methodCallPos;simp[hln]
 dsimp only[methodCall]
 refine rr hform ?_
 refine wpAny_bind (wpAny_holding ?_)
 refine a5z h1 h2 h3 hmiss fun tk=>?_
 exact wpAny_bind (wpAny_of_eq hpos (h4 tk))
theorem b5s (T:TopB B0 mg mb) (X:u6 prog w B0 os gs Γ n){cls newId initId:String}(F:ExcCallFacts cls newId initId) (FR:ExcRaiseFacts cls){A:Around}{env:Env}{ωb ω:Own}{s:Shared}{σ:St}{ρ:Loc}{G:GC}{x:Str}{np cpos pos:Pos}{e:Expr}{rest:List Stmt}{Q:Flow->Shared->Prop}{KX:KXG}{N:List Nat->St->Prop}{E:Value->Shared->Prop}(hE:∀ e s,a2c B0 os env ωb KX e s->E e s)
 (Rm:Room n A) (O:EnvOk mg mb env ω ρ G) (S:MS B0 os ω gs s) (R:RelS ω σ) (hs:[e].all n8=true) (hx:ρ x=none) (hg:G.g x=some (.val (.type cls))) (h:M5 mu Γ [e] ρ G σ fun hs σ'=>∃ msg,hs=[.str msg]/\N msg σ')
 (l:LeS env.locals ωb ω) (H:∀ ω' σ' msg,Le ω ω'->RelS ω' σ'->N msg σ'->KX cls msg ω' σ' gs):wpAny (model prog w) A (execs (.Raise (some (.Call (.Name x np) [e] [] cpos)) none pos::rest) env) Q E s:=by
 have ln:=c8
 refine c9 O.loc fun m₀ hL _=>?_
 refine wpAny_execs_cons (wpAny_Raise_call F FR Rm.handled (by refine rr (j2 cpos [e] env hs) ?_;exact d8 [e] env) ?_)
 refine B8 T O S hg fun v hv=>?_
 (injection hv with hv;subst hv)
 refine⟨rfl,?_⟩
 refine rr (j2 cpos [e] env hs) ?_
 have ev:=u7 (okE (mu:=mu) T X e) C3 A E ω s σ _ env ρ G Rm O S R h
 refine p7 (d8 [e] env) (D2 ev fun xs ω₁ σ1 vs s₁ l₁ S₁ R₁ r₁ hn H₁=>?_)
 (refine c9 H₁ fun msg z491 hN=>?_;clear H₁;clear hn;subst z491)
 (refine c9 r₁.one fun u z488 ru=>?_;refine rr z488 ?_)
 simp only[Rd] at ru
 (refine y5 ru fun hz tk z485=>?_;clear ru;refine rr z485 ?_)
 refine(A8 rfl (by simp;exact Nat.le_add_left _ _) (fun h' ea hm=>?_))
 refine hE _ _ ⟨ea,ω₁,σ1,gs,cls,msg,rfl,l.trans (l₁.s _),⟨m₀,l₁ _ _ hL⟩,R₁,H _ _ _ l₁ R₁ hN,.inr (j7 s₁.heap tk S₁ hm.of hz)⟩
end
end
section
structure FnK (B0:Heap) (a:Addr) (st:Stmt) (fd:FuncData) (dV:Value):Prop where
 at':FnAt B0 a fd
 body:fd.body=.stmts (n7 st)
 scope:fd.scope=b0 st
 params:fd.params=w8 st
 clo:fd.closure=[]
 glob:fd.globals=mainGlobals
 blt:fd.builtins=builtinsNs
 dflt:fd.defaults=dV
 kdflt:fd.kwdefaults=.none
noncomputable def W1 (st:Stmt) (ps:List Str):Bool:=
 (b0 st).kind==.function&&!(b0 st).isCoroutine&&!(b0 st).isGenerator&&(b0 st).names.all (fun x=>x.2 != .cell)&&ps.all (fun x=>(b0 st).names.lookup x==some .local)&&
  !(ps.contains ("__debug__" : Str))&&(b0 st).names.lookup ("__debug__" : Str) != some .globalImplicit&&!(ps.contains ("__classdict__" : Str))&&(b0 st).names.lookup ("__debug__" : Str) != some .free&&(b0 st).names.lookup ("__classdict__" : Str) != some .free
theorem a5a {fd:FuncData}{st:Stmt}{ps:List Str}(h1:fd.body=.stmts (n7 st)) (h2:fd.scope=b0 st) (h3:fd.globals=mainGlobals) (h4:fd.builtins=builtinsNs) (hn:ps.Nodup) (h:W1 st ps=true):N9 fd ps (n7 st):=by
 unfold W1 at h
 simp only[Bool.and_eq_true,Bool.not_eq_true',bne_iff_ne,beq_iff_eq,List.all_eq_true,List.contains_eq_mem,decide_eq_false_iff_not] at h
 (refine o_a h fun z270 a10=>?_;(refine o_a z270 fun z272 a9=>?_;(refine o_a z272 fun z155 a8=>?_;(refine o_a z155 fun z157 a7=>?_;obtain⟨⟨⟨⟨⟨a1,a2⟩,a3⟩,a4⟩,a5⟩,a6⟩:=z157))))
 refine⟨h1,h3,h4,by refine rr h2 ?_;exact a1,by refine rr h2 ?_;exact a2,by refine rr h2 ?_;exact a3,hn,by refine rr h2 ?_;exact a4,by refine rr h2 ?_;exact a5,a6,by refine rr h2 ?_;exact a7,a8,by refine rr h2 ?_;exact a9,by refine rr h2 ?_;exact a10⟩
theorem p14:W1 (stm 2) [tN "f"]=true:=by decide +kernel
theorem p15:W1 (stm 3) [tN "f"]=true:=by decide +kernel
theorem b14 (fd:FuncData) (v:Value) (hp:fd.params=w8 (stm 2)) (h1:fd.kwdefaults=.none) (h2:fd.defaults=.none):bindArgs fd ⟨[v],[]⟩=pure [(tN "f",v)]:=by
 cases fd
 simp only at hp h1 h2
 subst hp h1 h2
 with_unfolding_all rfl
theorem FnAt.now {B0:Heap}{os:OsState}{gs:TQ}{ω:Own}{s:Shared}{a:Addr}{fd:FuncData}(F:Mine.Internal.FnAt B0 a fd) (S:MS B0 os ω gs s):∃ o,s.heap.get? a=some o/\o.data=.func fd/\s.heap.CodeRec fd.code fd.qualname:=by
 refine u9 F.at' fun o h1 h2 h3=>?_
 (refine y1 F.code fun c oc vs t e1 e2 e3 z276=>?_;refine o_a z276 fun e4 e5=>?_)
 exact(y7 o (S.top h1 h2) h3 (C6 c oc vs t e1 (S.top e2 e3) e4 e5))
section
variable {prog:Program}{w:World}{B0:Heap}{os:OsState}{gs:TQ}{mg mb:Str->Option Value}{n:Nat}{gt:Loc}
theorem W6 {A:Around}{env:Env}{ωb ω:Own}{s:Shared}{f:Value}{vs:List Value}{K:KG}{KX0 KX:KXG}{Q:Value->Shared->Prop}{m₀:Str->Option Value}{E:Value->Shared->Prop}(hE:∀ e s,a2c B0 os env ωb KX e s->E e s) (h:wpAny (model prog w) A (call f vs []) (J0 B0 os ω K) (RaisG B0 os ω KX0) s) (hL:ω env.locals=some (.ns m₀)) (lb:LeS env.locals ωb ω)
 (H:∀ v h ω' σ' gs' s',Le ω ω'->MS B0 os ω' gs' s'->RelS ω' σ'->Rd ω' h v->K h ω' σ' gs'->Q v s') (HX:∀ cls msg ω' σ' gs',Le ω ω'->KX0 cls msg ω' σ' gs'->KX cls msg ω' σ' gs'):wpAny (model prog w) A (call f vs []) Q E s:=by
 refine wpAny_mono h (fun v s' q=>?_) fun e s' q=>?_
 · obtain⟨h,ω',σ',gs',l,S,R,r,k⟩:=q
   exact H v h ω' σ' gs' s' l S R r k
 · obtain⟨a,ω',σ',gs',cls,msg,t,e,l',S,R,F,hA,k⟩:=q
   exact hE _ _ ⟨a,ω',σ',gs',cls,msg,e,lb.trans (l'.s _),⟨m₀,l' _ _ hL⟩,R,HX _ _ _ _ _ l' k,.inl (u5 S t .none (.inl rfl) ⟨F,hA⟩)⟩
theorem a9a {mu:Pos->Bool}{Γ:Spx}{A:Around}{E:Value->Shared->Prop}{env:Env}{ω:Own}{s:Shared}{σ:St}{ρ:Loc}{G:GC}{pos:Pos}{f:Addr}{args:List Expr}{Q:Value->Shared->Prop}{N:List HV->St->Prop}{o:Obj}{fd:FuncData}(Rm:Room n A) (O:EnvOk mg mb env ω ρ G) (S:MS B0 os ω gs s) (R:RelS ω σ)
 (hp:args.all n8=true) (hs:a7j prog w B0 os gs mg mb mu Γ n args) (h:M5 mu Γ args ρ G σ N)
 (H:∀ hs ω' σ' vs s',Le ω ω'->MS B0 os ω' gs s'->RelS ω' σ'->RdL ω' hs vs->N hs σ'->(s'.heap.get? f=some o/\o.data=.func fd)/\wpAny (model prog w) A (call (.ref f) vs []) Q E s') :
 wpAny (model prog w) A (callWith pos (.ref f) [] (backTo pos (starEach args env)) (backToKw pos (keywordEach [] env))) Q E s:=by
 refine rr (j2 pos args env hp) ?_
 exact callWith_function (p7 (d8 args env) (D2 (hs A E ω s σ _ env ρ G Rm O S R h) fun xs ω₁ σ1 vs s₁ l₁ S₁ R₁ r₁ hn H₁=>H xs ω₁ σ1 vs s₁ l₁ S₁ R₁ r₁ H₁))
theorem Y8 {mu:Pos->Bool}{Γ:Spx}{A:Around}{E:Value->Shared->Prop}{env:Env}{ω:Own}{s:Shared}{σ t:St}{ρ:Loc}{G:GC}{pos:Pos}{f:Addr}{args:List Expr}{Q:Value->Shared->Prop}{xs:List HV}{o:Obj}{fd:FuncData}(Rm:Room n A) (O:EnvOk mg mb env ω ρ G) (S:MS B0 os ω gs s) (R:RelS ω σ)
 (hp:args.all n8=true) (hs:a7j prog w B0 os gs mg mb mu Γ n args) (h:∀ K:List HV->St->Prop,K xs t->M5 mu Γ args ρ G σ K)
 (H:∀ ω' vs s',Le ω ω'->MS B0 os ω' gs s'->RelS ω' t->RdL ω' xs vs->(s'.heap.get? f=some o/\o.data=.func fd)/\wpAny (model prog w) A (call (.ref f) vs []) Q E s') :
 wpAny (model prog w) A (callWith pos (.ref f) [] (backTo pos (starEach args env)) (backToKw pos (keywordEach [] env))) Q E s:=
 a9a Rm O S R hp hs (h (fun hs σ'=>hs=xs/\σ'=t) ⟨rfl,rfl⟩) fun _ ω' _ vs s' l S' R' r q=>H ω' vs s' l S' (q.2▸R') (q.1▸r)
theorem b6z {o:List UInt8}{p:Nat}{b:UInt8}(h:o[p]? = some b):a0e o p 1=[b]/\min o.length (p+1)=p+1:=by
 refine o_e (List.getElem?_eq_some_iff.mp h) fun hp hb=>?_
 unfold a0e
 have e:min o.length (p+1)=p+1:=(Nat.min_eq_right hp)
 refine⟨?_,e⟩
 simp only[e,List.drop_take,show p+1-p=1 by exact by simp_all,List.drop_eq_getElem_cons hp,hb]
 rfl
theorem b4p {o:List UInt8}{p c:Nat}(h:o[p]? = none):a0e o p c=[]/\min o.length (p+c)=o.length:=by
 have hp:o.length<=p:=by simpa using h
 exact⟨List.drop_eq_nil_of_le (by refine rr List.length_take ?_;exact Nat.le_trans (Nat.min_le_right _ _) hp),(Nat.min_eq_left (Nat.le_trans hp (Nat.le_add_right _ _)))⟩
structure a5r (gt:Loc):Prop where
 ok:True
 min:gt (tN "min")=some (.val (.builtin "min"))
 len:gt (tN "len")=some (.val (.builtin "len"))
 verr:gt (tN "ValueError")=some (.val (.type "ValueError"))
theorem b38 (TB:TopB B0 mg mb) (hg:I1 mg mb gt) (gT:a5r gt){a:Addr}{fd:FuncData}(F:FnK B0 a (stm 2) fd .none){A:Around}{l:List Env}{ω:Own}{s:Shared}{σ:St}{T P K:Addr}{octets:List UInt8}{fo:FuncData}{ρf:Loc}{p:Nat}
 (Rm:Room (n+1+1) A) (Ks:Stk ω A l) (S:MS B0 os ω gs s) (R:RelS ω σ) (H:TapeAt ω T P K octets fo ρf) (hp:σ P=some [.int (p:Nat)]) (hpl:p<=octets.length) :
 wpAny (model prog w) A (call (.ref a) [.ref T] []) (J0 B0 os ω fun h _ σ' gs'=>∃ b,octets[p]? = some b/\h=.int b.toNat/\σ'=σ.put P [.int ((p+1:Nat):Int)]/\gs'=gs)
  (RaisG B0 os ω fun cls msg _ σ' gs'=>octets[p]? = none/\cls = "ValueError" /\ msg=w0/\σ'=σ.put P [.int (octets.length:Nat)]/\gs'=gs) s:=by
 have hlen:=H.len
 have ln:=c8
 refine u9 (F.at'.now S) fun o ho hd hcd=>?_
 refine a5v (n:=n+1) (ps:=[tN "f"]) (hs:=[.val (.ref T)]) (vs:=[.ref T]) (ρf:=fun _=>none) TB (a5a F.body F.scope F.glob F.blt (by simp) p14) hg (fun _ _ _ _ _ _ _ q=>q) (fun _ _ _ _ _ _ q=>q) Rm Ks S R (by simp only[RdL,Rd];exact⟨_,[],rfl,rfl,rfl⟩) rfl (BindsTo.of_eq (b14 fd _ F.params F.kdflt F.dflt)) ho hd hcd (FreeOk.none _ _ _) ?_
 intro env A' ω₁ s₁ hfr O Rm' Ks' S₁ R₁ hnew other
 rw[F.scope] at O
 have n1:C4 (fun _=>none) [tN "f"] [.val (.ref T)]=upd (fun _=>none) (tN "f") (.val (.ref T)):=rfl
 have O:=n1▸O
 have g1:=gT.verr
 unfold tN at O g1
 refine Y6 fun Q E hQ hE=>?_
 conv=>arg 3;arg 1;whnf
 refine t6 fun Q₁ n₁=>(wpAny_Assign_Name ?_ (k9 rfl))
 refine a04 rfl rfl (by decide) rfl Y2 ?_
 refine a43 (mu:=fun _=>false) (Γ:=sp0 _) (x:=.val (.ref T)) (t:=σ) TB (j8 (n:=n+1)) Rm' O S₁ R₁ ?_ fun ω₂ v₂ s₂ l₂ S₂ R₂ r₂=>?_
 · intro K hK
   repeat' walk_at "ev"
   exact hK
 simp only[Rd] at r₂
 subst r₂
 have H₂:=H.monoW (a1n hnew other (l₂.s _))
 refine y1 H₂.tape fun D m fdT sl t1 t2 t3 t4=>?_
 refine⟨T,D,fdT,sl,m,K,rfl,S₂.hold _ _ t1,S₂.hold _ _ t2,t3,fun tk=>?_⟩
 refine Y8 (mu:=fun _=>false) (Γ:=sp0 _) (xs:=[.int 1]) (t:=σ) (n:=n+1) (o:={ cls:=.type "function",data:=.func fo }) (fd:=fo) Rm' (O.mono l₂) (S₂.toks tk) R₂ rfl (u7 (okE TB (j8 (n:=n+1)) _) C3) ?_ ?_
 · intro K hK
   repeat' walk_at "ev"
   exact hK
 intro ω₃ vs s₃ l₃ S₃ R₃ r₃
 (refine c9 r₃.one fun u z209 ru=>?_;refine rr z209 ?_)
 simp only[Rd] at ru
 obtain⟨t₃,rfl⟩:=ru
 have H3:=H₂.monoW l₃.w
 refine c9 O.loc fun m₀ hL _=>?_
 refine⟨⟨S₃.hold _ _ H3.fn,rfl⟩,W6 hE (b0e (n:=n) TB hg gT.min gT.len (c:=1) Rm' ((Ks'.mono l₂.w).mono l₃.w) S₃ R₃ H3 hp hpl (by decide)) ((l₂.trans l₃) _ _ hL) ((l₂.trans l₃).s _) ?_ (fun _ _ _ _ _ _ h=>h.elim)⟩
 intro v h ω₄ σ₄ gs4 s₄ l₄ S₄ R₄ r₄ k₄
 (refine M4 k₄ fun z182 z183 z184=>?_;clear k₄;subst z182;subst z183;subst z184)
 have l14:=l₂.trans (l₃.trans l₄)
 refine o9 (O.mono l14) S₄ R₄ (by kernel_rfl) r₄ fun ω₅ s₅ l₅ _ O5 S₅ R₅=>?_
 have l₁₅:=(l14.s env.locals).trans l₅
 have hL5:∃ m,ω₅ env.locals=some (.ns m):=by refine c9 O5.loc fun m h _=>?_;exact⟨m,h⟩
 refine n₁ _ ?_
 conv=>arg 3;arg 1;whnf
 induction hb:octets[p]? with
 | some b=>
   refine o_a (b6z hb) fun hcut hmin=>?_
   rw[hcut] at O5
   rw[hmin] at R₅ R₄
   refine wpAny_execs_cons (wpAny_mono (okS (mu:=fun _=>false) (Γ:=sp0 _) TB (j8 (n:=n+1)) _ A' _ ω₅ s₅ _ (fun fl ρ' σ'=>fl=.rt (.int b.toNat)/\σ'=σ.put P [.int ((p+1:Nat):Int)]) env _ _ Rm' O5 S₅ R₅ ?_) (fun f s₆ q=>?_) fun _ _ x=>x)
   · repeat' walk_at "ev"
     refine⟨true,rfl,?_⟩
     repeat' walk_at "ev"
     refine a52 (by decide) rfl ?_
     repeat' walk_at "ev"
     exact⟨rfl,rfl⟩
   · obtain⟨fl,ω6,σ6,ρ6,l₆,O6,S6,R6,hf,rfl,rfl⟩:=q
     cases hf with
     | rt rv=>exact hQ _ _ ⟨_,_,ω6,_,gs4,rfl,l₁₅.trans l₆,S6,R6,rv,b,hb,rfl,rfl,rfl⟩
 | none=>
   refine o_a (b4p (c:=1) hb) fun hcut hmin=>?_
   have O5:=hcut▸O5
   rw[hmin] at R₅ R₄
   refine b9f (mu:=fun _=>false) (Γ:=sp0 _) (r:=upd (upd (fun _=>none) (Str.ofString "f") (.val (.ref T))) (Str.ofString "data") (.bytes [])) (t:=σ.put P [.int (octets.length:Nat)]) TB (j8 (n:=n+1)) Rm' O5 S₅ R₅ ?_ ?_
   · intro K hK
     repeat' walk_at "ev"
     refine⟨false,rfl,?_⟩
     repeat' walk_at "ev"
     exact hK
   intro ω6 s₆ l₆ O6 S6 R6
   conv=>arg 3;arg 1;whnf
   refine b5s (mu:=fun _=>false) (Γ:=sp0 _) (cls:="ValueError") (N:=fun msg σ'=>msg=w0/\σ'=σ.put P [.int (octets.length:Nat)]) TB (j8 (n:=n+1)) PySem.F.excCall_ValueError PySem.F.excRaise_ValueError hE Rm' O6 S6 R6 rfl ?_ ?_ ?_ (l₁₅.trans l₆) ?_
   · walk_at "nm"
   · walk_at "nm"
   · repeat' walk_at "ev"
     exact⟨_,rfl,rfl,rfl⟩
   · intro ω' σ' msg _ _ hN
     exact⟨hb,rfl,hN.1,hN.2,rfl⟩
end
end
section
noncomputable def rdF (o:List UInt8) (p:Nat):Option (List Nat×Nat):=match o[p]? with
 | none=>none
 | some b=>if p+1+b.toNat<=o.length then some (((o.drop (p+1)).take b.toNat).map (·.toNat),p+1+b.toNat) else none
noncomputable def rdW (o:List UInt8) (p:Nat):List Nat:=match o[p]? with
 | none=>w0
 | some b=>w1 b.toNat (o.length-(p+1))
theorem b15 (fd:FuncData) (v:Value) (hp:fd.params=w8 (stm 3)) (h1:fd.kwdefaults=.none) (h2:fd.defaults=.none):bindArgs fd ⟨[v],[]⟩=pure [(tN "f",v)]:=by
 cases fd
 simp only at hp h1 h2
 subst hp h1 h2
 with_unfolding_all rfl
section
variable {prog:Program}{w:World}{B0:Heap}{os:OsState}{gs:TQ}{mg mb:Str->Option Value}{n:Nat}{gt:Loc}
theorem b6s (T:TopB B0 mg mb){cls newId initId:String}(F:ExcCallFacts cls newId initId) (FR:ExcRaiseFacts cls){A:Around}{env:Env}{ωb ω:Own}{s:Shared}{ρ:Loc}{G:GC}{x:Str}{np cpos pos:Pos}{e:Expr}{rest:List Stmt}{Q:Flow->Shared->Prop}{KX:KXG}{E:Value->Shared->Prop}(hE:∀ e s,a2c B0 os env ωb KX e s->E e s)
 (Rm:Room n A) (O:EnvOk mg mb env ω ρ G) (S:MS B0 os ω gs s) (hs:[e].all n8=true) (hg:G.g x=some (.val (.type cls))) (l:LeS env.locals ωb ω)
 (h:wpAny (model prog w) A (eval e env) (fun v s'=>∃ msg tk ω' σ',v=.str ⟨List.toArray msg⟩ tk/\Le ω ω'/\MS B0 os ω' gs s'/\RelS ω' σ'/\msg.length<=sizeLine/\KX cls msg ω' σ' gs) E s) :
 wpAny (model prog w) A (execs (.Raise (some (.Call (.Name x np) [e] [] cpos)) none pos::rest) env) Q E s:=by
 refine c9 O.loc fun m₀ hL _=>?_
 refine wpAny_execs_cons (wpAny_Raise_call F FR Rm.handled (by refine rr (j2 cpos [e] env hs) ?_;exact d8 [e] env) ?_)
 refine B8 T O S hg fun v hv=>?_
 (injection hv with hv;subst hv)
 refine⟨rfl,?_⟩
 refine rr (j2 cpos [e] env hs) ?_
 refine p7 (d8 [e] env) (spliced_cons (wpAny_mono h (fun v s₁ q=>?_) fun _ _ x=>x))
 (refine N2 q fun msg tk ω₁ σ1 z6 l₁ S₁ R₁ hz k=>?_;clear q;refine rr z6 ?_)
 refine spliced_nil (A8 rfl (by exact Nat.succ_pos _) (fun h' ea hm=>?_))
 exact hE _ _ ⟨ea,ω₁,σ1,gs,cls,msg,rfl,l.trans (l₁.s _),⟨m₀,l₁ _ _ hL⟩,R₁,k,.inr (j7 s₁.heap tk S₁ hm.of hz)⟩
theorem a4a {mu:Pos->Bool}{Γ:Spx}{A:Around}{E:Value->Shared->Prop}{env:Env}{ω:Own}{s:Shared}{σ:St}{ρ:Loc}{G:GC}{f:Str}{q pos:Pos}{fa:Addr}{args:List Expr}{Q:Value->Shared->Prop}{N:List HV->St->Prop}{o:Obj}{fd:FuncData}(T:TopB B0 mg mb) (Rm:Room n A) (O:EnvOk mg mb env ω ρ G) (S:MS B0 os ω gs s) (R:RelS ω σ)
 (hg:G.g f=some (.val (.ref fa))) (hp:args.all n8=true) (hs:a7j prog w B0 os gs mg mb mu Γ n args) (h:M5 mu Γ args ρ G σ N)
 (H:∀ hs ω' σ' vs s',Le ω ω'->MS B0 os ω' gs s'->RelS ω' σ'->RdL ω' hs vs->N hs σ'->(s'.heap.get? fa=some o/\o.data=.func fd)/\wpAny (model prog w) A (call (.ref fa) vs []) Q E s') :
 wpAny (model prog w) A (eval (.Call (.Name f q) args [] pos) env) Q E s:=by
 refine wpAny_Call_ofName (B8 T O S hg fun v hv=>?_)
 (injection hv with hv;subst hv)
 exact a9a (mu:=mu) (Γ:=Γ) (N:=N) (n:=n) (o:=o) (fd:=fd) Rm O S R hp hs h H
theorem T3 {mu:Pos->Bool}{Γ:Spx}{A:Around}{E:Value->Shared->Prop}{env:Env}{ω:Own}{s:Shared}{σ t:St}{ρ:Loc}{G:GC}{f:Str}{q pos:Pos}{fa:Addr}{args:List Expr}{Q:Value->Shared->Prop}{xs:List HV}{o:Obj}{fd:FuncData}(T:TopB B0 mg mb) (Rm:Room n A) (O:EnvOk mg mb env ω ρ G) (S:MS B0 os ω gs s) (R:RelS ω σ)
 (hg:G.g f=some (.val (.ref fa))) (hp:args.all n8=true) (hs:a7j prog w B0 os gs mg mb mu Γ n args) (h:∀ K:List HV->St->Prop,K xs t->M5 mu Γ args ρ G σ K)
 (H:∀ ω' vs s',Le ω ω'->MS B0 os ω' gs s'->RelS ω' t->RdL ω' xs vs->(s'.heap.get? fa=some o/\o.data=.func fd)/\wpAny (model prog w) A (call (.ref fa) vs []) Q E s') :
 wpAny (model prog w) A (eval (.Call (.Name f q) args [] pos) env) Q E s:=
 a4a T Rm O S R hg hp hs (h (fun hs σ'=>hs=xs/\σ'=t) ⟨rfl,rfl⟩) fun _ ω' _ vs s' l S' R' r q=>H ω' vs s' l S' (q.2▸R') (q.1▸r)
theorem b6y (TB:TopB B0 mg mb) (hg:I1 mg mb gt) (gT:a5r gt){a a14:Addr}{fd fd14:FuncData}(F:FnK B0 a (stm 3) fd .none) (F14:FnK B0 a14 (stm 2) fd14 .none) (g14:gt (tN "read_uint1")=some (.val (.ref a14))){A:Around}{l:List Env}{ω:Own}{s:Shared}{σ:St}{T P K:Addr}{octets:List UInt8}{fo:FuncData}{ρf:Loc}{p:Nat}
 (Rm:Room (n+1+1+1) A) (Ks:Stk ω A l) (S:MS B0 os ω gs s) (R:RelS ω σ) (H:TapeAt ω T P K octets fo ρf) (hp:σ P=some [.int (p:Nat)]) (hpl:p<=octets.length) :
 wpAny (model prog w) A (call (.ref a) [.ref T] []) (J0 B0 os ω fun h _ σ' gs'=>∃ t p',rdF octets p=some (t,p')/\h=.str t/\σ'=σ.put P [.int (p':Nat)]/\gs'=gs)
  (RaisG B0 os ω fun cls msg _ σ' gs'=>rdF octets p=none/\cls = "ValueError" /\ msg=rdW octets p/\σ'=σ.put P [.int (octets.length:Nat)]/\gs'=gs) s:=by
 have hlen:=H.len
 have ln:=c8
 refine u9 (F.at'.now S) fun o ho hd hcd=>?_
 refine a5v (n:=n+1+1) (ps:=[tN "f"]) (hs:=[.val (.ref T)]) (vs:=[.ref T]) (ρf:=fun _=>none) TB (a5a F.body F.scope F.glob F.blt (by simp) p15) hg (fun _ _ _ _ _ _ _ q=>q) (fun _ _ _ _ _ _ q=>q) Rm Ks S R (by simp only[RdL,Rd];exact(j7 _ ([]) rfl rfl rfl)) rfl (BindsTo.of_eq (b15 fd _ F.params F.kdflt F.dflt)) ho hd hcd (FreeOk.none _ _ _) ?_
 intro env A' ω₁ s₁ hfr O Rm' Ks' S₁ R₁ hnew other
 have O:=F.scope▸O
 have n1:C4 (fun _=>none) [tN "f"] [.val (.ref T)]=upd (fun _=>none) (tN "f") (.val (.ref T)):=rfl
 have O:=n1▸O
 have g1:=gT.verr
 have g2:=gT.len
 unfold tN at O g1 g14 g2
 refine Y6 fun Q E hQ hE=>?_
 conv=>arg 3;arg 1;whnf
 refine t6 fun Q₁ n₁=>(wpAny_Assign_Name ?_ (k9 rfl))
 refine u9 F14.at'.at' fun o14 ho14 hd14 hcd14=>?_
 refine T3 (mu:=fun _=>false) (Γ:=sp0 _) (n:=n+1+1) (xs:=[.val (.ref T)]) (t:=σ) (o:=o14) (fd:=fd14) TB Rm' O S₁ R₁ (fa:=a14) ?_ rfl (u7 (okE TB (j8 (n:=n+1+1)) _) C3) ?_ ?_
 · walk_at "nm"
 · intro K hK
   repeat' walk_at "ev"
   exact hK
 intro ω₂ vs s₂ l₂ S₂ R₂ r₂
 (refine c9 r₂.one fun u z1 ru=>?_;clear r₂;refine rr z1 ?_)
 simp only[Rd] at ru
 refine rr ru ?_
 have H₂:=H.monoW (a1n hnew other (l₂.s _))
 refine c9 O.loc fun m₀ hL _=>?_
 refine⟨⟨S₂.top ho14 hd14,hcd14⟩,W6 hE (b38 (n:=n) TB hg gT F14 Rm' (Ks'.mono l₂.w) S₂ R₂ H₂ hp hpl) (l₂ _ _ hL) (l₂.s _) ?_ (fun cls msg ω' σ' gs' _ ⟨h1,h2,h3,h4,h5⟩=>(U4 (by unfold rdF;exact rr h1 rfl) h2 (by unfold rdW;refine rr h1 ?_;exact h3) h4 h5))⟩
 intro v h ω₃ σ₃ gs3 s₃ l₃ S₃ R₃ r₃ k₃
 (refine K8 k₃ fun b hb z6 z7 z8=>?_;clear k₃;subst z6;subst z7;cases z8)
 have l13:=l₂.trans l₃
 refine o9 (O.mono l13) S₃ R₃ (by kernel_rfl) r₃ fun ω₄ s₄ l₄ _ O4 S₄ R₄=>?_
 have l14:=(l13.s env.locals).trans l₄
 refine n₁ _ ?_
 conv=>arg 3;arg 1;whnf
 have hpb:=(List.getElem?_eq_some_iff.mp hb).1
 have hbl:b.toNat<256:=b.toNat_lt
 refine b9f (mu:=fun _=>false) (Γ:=sp0 _) (r:=upd (upd (fun _=>none) (Str.ofString "f") (.val (.ref T))) (Str.ofString "n") (.int b.toNat)) (t:=σ.put P [.int ((p+1:Nat):Int)]) TB (j8 (n:=n+1+1)) Rm' O4 S₄ R₄ ?_ ?_
 · intro K hK
   repeat' walk_at "ev"
   refine⟨by simp,?_⟩
   exact hK
 intro ω₅ s₅ l₅ O5 S₅ R₅
 have l₁₅:=l14.trans l₅
 conv=>arg 3;arg 1;whnf
 refine t6 fun Q₁ n₁=>(wpAny_Assign_Name ?_ (k9 rfl))
 refine a04 rfl rfl (by decide) rfl Y2 ?_
 refine a43 (mu:=fun _=>false) (Γ:=sp0 _) (x:=.val (.ref T)) (t:=σ.put P [.int ((p+1:Nat):Int)]) TB (j8 (n:=n+1+1)) Rm' O5 S₅ R₅ ?_ fun ω6 v6 s₆ l₆ S6 R6 r₆=>?_
 · intro K hK
   repeat' walk_at "ev"
   exact hK
 simp only[Rd] at r₆
 refine rr r₆ ?_
 have l16:=l₁₅.trans (l₆.s _)
 have H6:=H.monoW (a1n hnew other l16)
 refine y1 H6.tape fun D m fdT sl t1 t2 t3 t4=>?_
 refine(D4 T D fdT sl (I0 m K rfl (S6.hold _ _ t1) (S6.hold _ _ t2) t3 (fun tk=>?_)))
 refine Y8 (mu:=fun _=>false) (Γ:=sp0 _) (xs:=[.int b.toNat]) (t:=σ.put P [.int ((p+1:Nat):Int)]) (n:=n+1+1) (o:={ cls:=.type "function",data:=.func fo }) (fd:=fo) Rm' (O5.mono l₆) (S6.toks tk) R6 rfl (u7 (okE TB (j8 (n:=n+1+1)) _) C3) ?_ ?_
 · intro K hK
   repeat' walk_at "ev"
   exact hK
 intro ω7 vs s7 l7 S7 R7 r₇
 (refine c9 r₇.one fun u z17 ru=>?_;clear r₇;refine rr z17 ?_)
 simp only[Rd] at ru
 (refine o_e ru fun t7 z155=>?_;refine rr z155 ?_)
 have l17:=l16.trans (l7.s _)
 have H7:=H6.monoW l7.w
 have O7:=(O5.mono l₆).mono l7
 refine c9 O7.loc fun m7 hL7 _=>?_
 refine⟨⟨S7.hold _ _ H7.fn,rfl⟩,W6 hE (b0e (n:=n+1) TB hg gT.min gT.len (p:=p+1) (c:=b.toNat) Rm' (Ks'.step l17 hL7) S7 R7 H7 (g0) (c2k hpb) (by exact c1o hbl)) hL7 l17 ?_ (fun _ _ _ _ _ _ h=>h.elim)⟩
 intro v h ω8 σ8 gs8 s8 l8 S8 R8 r₈ k8
 (refine M4 k8 fun z647 z648 z649=>?_;clear k8;subst z647;subst z648;clear S₃;subst z649)
 refine o9 (O7.mono l8) S8 R8 (by kernel_rfl) r₈ fun ω9 s9 l9 _ O9 S9 R9=>?_
 have l19:=(l17.trans (l8.s _)).trans l9
 refine n₁ _ ?_
 conv=>arg 3;arg 1;whnf
 have hput:((σ.put P [.int ((p+1:Nat):Int)]).put P [.int (min octets.length (p+1+b.toNat):Nat)])=σ.put P [.int (min octets.length (p+1+b.toNat):Nat)]:=by
  funext x
  by_cases q:x=P
  · refine rr q ?_;(refine rr g0 ?_;exact rr g0 rfl)
  · (refine rr (j5 q) ?_;refine rr (j5 q) ?_;exact rr (j5 q) rfl)
 simp only[hput] at R9
 have hclen:(a0e octets (p+1) b.toNat).length=min octets.length (p+1+b.toNat)-(p+1):=by unfold a0e;(refine rr List.length_drop ?_;refine rr List.length_take ?_);exact by simp_all
 by_cases hfit:p+1+b.toNat<=octets.length
 · have hmin:min octets.length (p+1+b.toNat)=p+1+b.toNat:=(by simp_all)
   rw[hmin] at R9 hclen
   refine wpAny_execs_cons (wpAny_If (c2y (mu:=fun _=>false) (Γ:=sp0 _) (x:=true) (t:=σ.put P [.int ((p+1+b.toNat:Nat):Int)]) TB (j8 (n:=n+1+1)) Rm' O9 S9 R9 ?_ fun ω10 s10 l10 S10 R10=>?_))
   · intro K hK
     repeat' walk_at "ev"
     refine rr (show (((a0e octets (p+1) b.toNat).length:Int)==(b.toNat:Int))=true by refine rr hclen ?_;simp) ?_
     exact hK
   refine o7 rfl ?_
   conv=>arg 3;arg 1;whnf
   refine wpAny_execs_cons (wpAny_Return_some ?_)
   refine wpAny_Call_method (T:="bytes") (id:="bytes.decode") (u8 rfl) (M1 _ env rfl (by decide) _) (by decide) FB.plainAttrs_bytes FB.slot_bytes_decode FB.type_bytes_decode ?_
   refine a43 (mu:=fun _=>false) (Γ:=sp0 _) (x:=.bytes (a0e octets (p+1) b.toNat)) (t:=σ.put P [.int ((p+1+b.toNat:Nat):Int)]) TB (j8 (n:=n+1+1)) Rm' (O9.mono l10) S10 R10 ?_ fun ω11 v11 s11 l11 S11 R11 r11=>?_
   · intro K hK
     repeat' walk_at "ev"
     exact hK
   simp only[Rd] at r11
   (refine y5 r11 fun hz11 t₁₁ z641=>?_;clear r11;refine rr z641 ?_)
   refine(A8 (typeIs_bytes _ _ _) (fun a e=>(by contradiction)) ?_)
   refine rr (j2 _ _ env rfl) ?_
   refine callWith_builtin (d8 _ env) (p7 (d8 _ env) (D2 (u7 (okE (mu:=fun _=>false) (Γ:=sp0 _) TB (j8 (n:=n+1+1)) _) C3 A' _ ω11 s11 _ (fun hs σ'=>hs=[.str (v9 (Str.ofString "latin-1"))]/\σ'=σ.put P [.int ((p+1+b.toNat:Nat):Int)]) env _ _ Rm' ((O9.mono l10).mono l11) S11 R11 ?_) fun hs ω12 σ12 vs s12 l12 S12 R12 r12 hn12 k12=>?_))
   · repeat' walk_at "ev"
     exact⟨rfl,rfl⟩
   (refine o_a k12 fun z632 z633=>?_;clear k12;subst z632;subst z633)
   (refine c9 r12.one fun u z628 ru=>?_;refine rr z628 ?_)
   simp only[Rd] at ru
   (refine y5 ru fun _ t12 z619=>?_;clear ru;refine rr z619 ?_)
   refine rr (show (⟨(v9 (Str.ofString "latin-1")).toArray⟩:Str)=Str.ofString "latin-1" from a0l _) ?_
   refine a60 hz11 fun t' k=>?_
   refine hQ _ _ ⟨_,.str ((a0e octets (p+1) b.toNat).map (·.toNat)),ω12,_,gs8,rfl,l19.trans ((l10.trans (l11.trans l12)).s _),S12.toks k,R12,?_,(a0e octets (p+1) b.toNat).map (·.toNat),p+1+b.toNat,?_,rfl,rfl,rfl⟩
   · exact(Y7 (by refine rr (List.length_map ..) ?_;exact hz11) _ rfl)
   · unfold rdF
     refine rr hb ?_
     dsimp only
     refine rr (if_pos hfit) ?_
     unfold a0e
     (refine rr hmin ?_;refine rr List.drop_take ?_;exact rr (show p+1+b.toNat-(p+1)=b.toNat by exact by simp_all) rfl)
 · have hmin:min octets.length (p+1+b.toNat)=octets.length:=(Nat.min_eq_left (Nat.le_of_not_le hfit))
   rw[hmin] at R9 hclen
   refine b9f (mu:=fun _=>false) (Γ:=sp0 _) (r:=upd (upd (upd (fun _=>none) (Str.ofString "f") (.val (.ref T))) (Str.ofString "n") (.int b.toNat)) (Str.ofString "data") (.bytes (a0e octets (p+1) b.toNat))) (t:=σ.put P [.int (octets.length:Nat)]) TB (j8 (n:=n+1+1)) Rm' O9 S9 R9 ?_ ?_
   · intro K hK
     repeat' walk_at "ev"
     (refine rr hclen ?_;refine k6 (by simp;exact fun h=>hfit (Nat.add_le_of_le_sub' hpb (lq (Int.ofNat.inj h).symm))) ?_)
     repeat' walk_at "ev"
     exact hK
   intro ω10 s10 l10 O10 S10 R10
   conv=>arg 3;arg 1;whnf
   refine b6s (n:=n+1+1) TB PySem.F.excCall_ValueError PySem.F.excRaise_ValueError hE Rm' O10 S10 rfl ?_ (l19.trans l10) ?_
   · walk_at "nm"
   refine wpAny_BinOp (a43 (mu:=fun _=>false) (Γ:=sp0 _) (x:=.str (v9 (Str.ofString "expected %d bytes in a string1, but only %d remain"))) (t:=σ.put P [.int (octets.length:Nat)]) TB (j8 (n:=n+1+1)) Rm' O10 S10 R10 ?_ fun ω11 v11 s11 l11 S11 R11 r11=>?_)
   · intro K hK
     repeat' walk_at "ev"
     exact hK
   refine a43 (mu:=fun _=>false) (Γ:=sp0 _) (x:=.tup [.int b.toNat,.int ((octets.length-(p+1):Nat):Int)]) (t:=σ.put P [.int (octets.length:Nat)]) TB (j8 (n:=n+1+1)) Rm' (O10.mono l11) S11 R11 ?_ fun ω12 v12 s12 l12 S12 R12 r12=>?_
   · intro K hK
     repeat' walk_at "ev"
     refine rr hclen ?_
     exact hK
   simp only[Rd] at r11
   (refine y5 r11 fun _ t₁₁ z615=>?_;clear r11;refine rr z615 ?_)
   (refine q9 (T1 S12 r12) fun _ ta tvs z611 htup tr=>?_;refine rr z611 ?_)
   (refine d9 tr.two fun x1 x2 z604 q1 q2=>?_;subst z604)
   simp only[Rd] at q1 q2
   obtain⟨u1,rfl⟩:=q1
   obtain⟨u2,rfl⟩:=q2
   refine b71 (by simp) (Int.lt_trans (Int.ofNat_lt.mpr hbl) (by decide)) (by simp) (show _<((10^10:Nat):Int) from Int.ofNat_lt.mpr (Nat.lt_of_le_of_lt (Nat.le_trans (Nat.sub_le _ _) hlen) (by decide))) htup fun t' k=>?_
   have hw:(Str.ofString "expected " ++ Str.ofString (toString (b.toNat:Int))++Str.ofString " bytes in a string1, but only " ++ Str.ofString (toString ((octets.length-(p+1):Nat):Int))++Str.ofString " remain")=⟨(w1 b.toNat (octets.length-(p+1))).toArray⟩:=by
    unfold w1 sI
    (refine rl (G5 ..) ?_;refine rl (G5 ..) ?_;refine rl (G5 ..) ?_;refine rl (G5 ..) ?_)
    dsimp only[v9,a0l]
   refine rr hw ?_
   refine(a1b (w1 b.toNat (octets.length-(p+1))) t' ω12 _ rfl (l11.trans l12) (S12.toks k) R12 ?_ ?_)
   · have z1:=a5m b.toNat (by exact c1o hbl)
     have z2:=a5m (octets.length-(p+1)) (b8r hlen)
     have z3:(v9 (Str.ofString "expected ")).length=9:=by kernel_rfl
     have z4:(v9 (Str.ofString " bytes in a string1, but only ")).length=30:=by kernel_rfl
     have z5:(v9 (Str.ofString " remain")).length=7:=by kernel_rfl
     unfold w1
     simp only[List.length_append]
     exact c6 (ad (ad (ad (ad (ad (lq ln.symm) z1) z2) (lq z3)) (lq z4)) (lq z5)) (by simp +arith)
   · refine(U4 ?_ rfl ?_ rfl rfl)
     · unfold rdF;refine rr hb ?_;dsimp only;exact rr (if_neg hfit) rfl
     · unfold rdW;exact rr hb rfl
end
end
section
noncomputable def lamS:Stmt:=(n7 (stm 17)).getD 2 (.Pass ⟨0,0,0,0⟩)
noncomputable def lamPos:Pos:=(z0 lamS).pos
noncomputable def F0 (q:Str):List (Pos×Str):=[(b7s C7,(q++".<locals>.")++"take"),(lamPos,(q++".<locals>.")++"<lambda>")]
theorem a3d (q:Str):G2 (F0 q):=by
 have h:(b7s C7).line≠lamPos.line:=by decide +kernel
 intro a ha b hb hl _
 simp only[F0,List.mem_cons,List.not_mem_nil,or_false] at ha hb
 rcases ha with rfl | rfl<;>rcases hb with rfl | rfl
 · rfl
 · exact absurd hl h
 · exact absurd hl.symm h
 · rfl
theorem c0h {l:List Value}{n:Nat}(h:l.length=n+1):∃ a r,l=a::r/\r.length=n:=by
 induction l using List.casesOn with
 | nil=>contradiction
 | cons a r=>exact(M9 a r rfl (Nat.succ.inj h))
theorem len1 {l:List Value}(h:l.length=1):∃ a,l=[a]:=by
 (refine I9 (c0h h) fun a r z539 q=>?_;refine rr z539 ?_)
 exact⟨a,by exact rr (List.eq_nil_of_length_eq_zero q) rfl⟩
theorem a8b {l:List Value}(h:l.length=2):∃ a b,l=[a,b]:=by
 (refine I9 (c0h h) fun a r z543 q=>?_;subst z543)
 (refine o_e (len1 q) fun b z545=>?_;clear q h;subst z545)
 exact(a86 a b rfl)
theorem c0y {l:List Value}(h:l.length=3):∃ a b c,l=[a,b,c]:=by
 (refine I9 (c0h h) fun a r z549 q=>?_;refine rr z549 ?_)
 (refine X9 (a8b q) fun b c z547=>?_;refine rr z547 ?_)
 exact(c21 a b c rfl)
theorem C1 {fd:FuncData}{P:Arguments}(hp:fd.params=P) (h1:fd.kwdefaults=.none) (h2:fd.defaults=.none):fd = { fd with params:=P,kwdefaults:=.none,defaults:=.none }:=by
 cases fd;subst hp;subst h1;subst h2;rfl
theorem c2d:∀ (vals:List Value),vals.length=2->∀ fd:FuncData,fd.params=w8 (stm 17)->fd.kwdefaults=.none->fd.defaults=.none->bindArgs fd ⟨vals,[]⟩=pure ([tN "octets",tN "start"].zip vals):=fun vals hl fd hp h1 h2=>by
 (refine X9 (a8b hl) fun a b z555=>?_;refine rr z555 ?_)
 refine rr (C1 hp h1 h2) ?_
 with_unfolding_all rfl
noncomputable def B9 (st:Stmt) (ps:List Str):Bool:=
 (b0 st).kind==.function&&!(b0 st).isCoroutine&&!(b0 st).isGenerator&&ps.all (fun x=>(b0 st).names.lookup x==some .local||(b0 st).names.lookup x==some .cell)&&
  !(ps.contains ("__debug__" : Str))&&(b0 st).names.lookup ("__debug__" : Str) != some .globalImplicit&&!(ps.contains ("__classdict__" : Str))
theorem a9p {fd:FuncData}{st:Stmt}{ps:List Str}(h1:fd.body=.stmts (n7 st)) (h2:fd.scope=b0 st) (h3:fd.globals=mainGlobals) (h4:fd.builtins=builtinsNs) (h5:fd.closure=[]) (hn:ps.Nodup) (hb:∀ vals:List Value,vals.length=ps.length->bindArgs fd ⟨vals,[]⟩=pure (ps.zip vals)) (h:B9 st ps=true):b0a fd ps (n7 st):=by
 unfold B9 at h
 simp only[Bool.and_eq_true,Bool.not_eq_true',bne_iff_ne,beq_iff_eq,List.all_eq_true,List.contains_eq_mem,decide_eq_false_iff_not,Bool.or_eq_true] at h
 (refine o_a h fun z557 a8=>?_;(refine o_a z557 fun z559 a7=>?_;obtain⟨⟨⟨⟨a1,a2⟩,a3⟩,a5⟩,a6⟩:=z559))
 exact⟨h1,h5,h3,h4,by refine rr h2 ?_;exact a1,by refine rr h2 ?_;exact a2,by refine rr h2 ?_;exact a3,hn,by refine rr h2 ?_;exact a5,hb,a6,by refine rr h2 ?_;exact a7,a8⟩
theorem p17:B9 (stm 17) [tN "octets",tN "start"]=true:=by decide +kernel
theorem Keeps.stay {ω ω':Own}(x:Keeps ω ω'):LeW ω ω':=fun b m e h=>x b m e (fun vs q=>by clear e;subst q;exact j0 h)
theorem TabI.keeps {ω ω':Own}(x:Keeps ω ω'){P:Addr}{qs:List (Pos×Str)}(h:TabI ω P qs):TabI ω' P qs:=by
 refine o_e h fun ps h1=>?_
 exact⟨ps,x _ _ h1 (fun _ q=>by contradiction)⟩
theorem TabI.le {ω ω':Own}(x:Le ω ω'){P:Addr}{qs:List (Pos×Str)}(h:TabI ω P qs):TabI ω' P qs:=by
 refine o_e h fun ps h1=>?_
 refine o_e (x _ _ h1) fun more h2=>?_
 exact⟨_,h2⟩
theorem TabI.leS {L:Addr}{ω ω':Own}(x:LeS L ω ω'){P:Addr}{qs:List (Pos×Str)}(h:TabI ω P qs){m:Str->Option Value}(hL:ω L=some (.ns m)):TabI ω' P qs:=by
 refine o_e h fun ps h1=>?_
 refine o_e (x _ _ (fun q=>by rw[q,hL] at h1;exact absurd h1 nofun) h1) fun more h2=>?_
 exact⟨_,h2⟩
theorem a8g:(b0 C7).names=[(Str.ofString "count",.local),(Str.ofString "here",.local),(Str.ofString "octets",.free),(Str.ofString "place",.free),(Str.ofString "min",.globalImplicit),(Str.ofString "len",.globalImplicit)]:=by with_unfolding_all rfl
theorem b0t {env:Env}{c1 c2:Addr}(h1:env.cells.lookup (Str.ofString "octets")=some c1) (h2:env.cells.lookup (Str.ofString "place")=some c2):closureFor (b0 C7) env=pure [(Str.ofString "place",c2),(Str.ofString "octets",c1)]:=by
 have e1:cellOf env (Str.ofString "octets")=pure c1:=by unfold cellOf;exact rr h1 rfl
 have e2:cellOf env (Str.ofString "place")=pure c2:=by unfold cellOf;exact rr h2 rfl
 dsimp only[closureFor]
 refine rr a8g ?_
 simp[e1,e2]
end
section
structure X7 (B0:Heap) (fd:FuncData) (c P:Addr):Prop where
 code:fd.code=.ref c
 hd:CodeHd B0 c P
 tab:∃ ps,B0.get? P=some (tabObj ps)
 ne:P≠cStatics
section
variable {prog:Program}{w:World}{B0:Heap}{os:OsState}{gs:TQ}{mg mb:Str->Option Value}{n:Nat}{gt:Loc}
theorem NewFn.env {ω ω':Own}{s':Shared}{P f:Addr}{qs:List (Pos×Str)}{fo:Obj}(N:NewFn B0 os gs ω P qs ω' s' f fo){env:Env}{ρ:Loc}{G:GC}(O:EnvOk mg mb env ω ρ G):EnvOk mg mb env ω' ρ G:=O.mono N.le
theorem LeS.none_of {L:Addr}{ω ω':Own}(l:LeS L ω ω') (hL:ω L=none){a:Addr}(h:ω' a=none):ω a=none:=by
 induction q:ω a with
 | none=>rfl
 | some mm=>
   exfalso
   by_cases e:a=L
   · rw[e,hL] at q;exact c7 q
   · have:=l a mm e q
     replace this:=h▸this
     clear q;cases mm<;>first | (obtain⟨_,z⟩:=this;exact c7 z) | exact c7 this
noncomputable def DictIs (od:Obj) (m:Str->Option Value) (k:Nat):Prop:=∃ es ep,od.data=.dict es ep/\StrKeys es/\(∀ name,nsFind es name=m name)/\es.size<=k/\od.cls=.type "dict"
theorem NsZ.is {h:Heap}{D:Addr}{m:Str->Option Value}{k:Nat}(z:NsZ h D m k):∃ od,h.get? D=some od/\DictIs od m k:=by
 refine S0 z fun o es ep g1 g2=>?_
 exact(j1 o g1 (a86 es ep g2))
theorem DictIs.z {h:Heap}{D:Addr}{od:Obj}{m:Str->Option Value}{k:Nat}(g:h.get? D=some od) (x:DictIs od m k):NsZ h D m k:=by
 refine X9 x fun es ep g2=>?_
 exact(I5 od es ep g g2)
theorem a3y {A:Around}{E:Value->Shared->Prop}{ω:Own}{s:Shared}{σ:St}{T:Addr}{fo:FuncData}{sl:Array (Option Value)}{name:Str}{v:Value}{Q:Unit->Shared->Prop}(S:MS B0 os ω gs s) (R:RelS ω σ) (eT:ω T=some (.ex { cls:=.type "function",dict:=none,data:=.func fo,slots:=sl }))
 (hmiss:typeLookup (.type "function") name=pure none)
 (H:∀ D od ω' s',ω D=none->D≠T->ω'=(ω.set T (.ex { cls:=.type "function",dict:=some D,data:=.func fo,slots:=sl })).set D (.ex od)->DictIs od (fun x=>if x=name then some v else none) 1->Le ω ω'->MS B0 os ω' gs s'->RelS ω' σ->Q () s'):wpAny (model prog w) A (setAttr (.ref T) name v) Q E s:=by
 refine a2g (S.hold _ _ eT) hmiss fun h' tk g1 g2 g3=>?_
 refine c9 g2.is fun od hod hdi=>?_
 have hDn:ω s.heap.objs.size=none:=S.unused
 have hDT:s.heap.objs.size≠T:=fun q=>by simp only[← q,hDn] at eT;contradiction
 have S₁:MS B0 os (ω.del T) gs { s with heap:=h',toks:=tk }:=S.ext eT rfl (fun b o q e=>g3 b o q e) tk
 have hd1:(ω.del T).set T (.ex { cls:=.type "function",dict:=some s.heap.objs.size,data:=.func fo,slots:=sl })=ω.set T (.ex { cls:=.type "function",dict:=some s.heap.objs.size,data:=.func fo,slots:=sl }):=by
  funext b;unfold Own.set Own.del;split<;>rfl
 have S₂:=S₁.adopt (a:=T) (m:=.ex { cls:=.type "function",dict:=some s.heap.objs.size,data:=.func fo,slots:=sl }) g1 (S.lo _ _ eT rfl) (fun o q=>by simp[Own.del] at q)
 rw[hd1] at S₂
 have S₃:=S₂.adopt (a:=s.heap.objs.size) (m:=.ex od) hod S.size (fun o q=>by rw[Own.set_ne _ _ hDT,hDn] at q;contradiction)
 have l₁:Le ω (ω.set T (.ex { cls:=.type "function",dict:=some s.heap.objs.size,data:=.func fo,slots:=sl })):=fun b o e=>by
  by_cases q:b=T
  · cases q;rw[eT] at e;refine Option.some.inj e▸?_;refine rr (Own.set_self ..) ?_;exact⟨_,rfl⟩
  · (refine rr (Own.set_ne _ _ q) ?_;refine rr e ?_);exact LeO.refl _
 exact H _ od _ _ hDn hDT rfl hdi (l₁.setNew _ hDn) S₃ ((R.set _ eT (fun _ q=>by contradiction) (fun _ q=>by contradiction)).new (by refine rr (Own.set_ne _ _ hDT) ?_;exact hDn))
theorem a5b {A:Around}{E:Value->Shared->Prop}{ω:Own}{s:Shared}{σ:St}{T D:Addr}{od:Obj}{m:Str->Option Value}{k:Nat}{fo:FuncData}{sl:Array (Option Value)}{name:Str}{v:Value}{Q:Unit->Shared->Prop}(S:MS B0 os ω gs s) (R:RelS ω σ) (eT:ω T=some (.ex { cls:=.type "function",dict:=some D,data:=.func fo,slots:=sl })) (eD:ω D=some (.ex od)) (hd:DictIs od m k) (hk:k<=1000)
 (hmiss:typeLookup (.type "function") name=pure none)
 (H:∀ od' s',DictIs od' (fun x=>if x=name then some v else m x) (k+1)->MS B0 os (ω.set D (.ex od')) gs s'->RelS (ω.set D (.ex od')) σ->Q () s'):wpAny (model prog w) A (setAttr (.ref T) name v) Q E s:=by
 refine a38 (S.hold _ _ eT) (hd.z (S.hold _ _ eD)) hk hmiss fun h' tk g1 g2=>?_
 refine c9 g1.is fun od' hod hdi=>?_
 exact H od' _ hdi (S.same eD rfl g2 (m:=.ex od') hod tk) (R.set _ eD (fun _ q=>by contradiction) (fun _ q=>by contradiction))
theorem b1c {A:Around}{E:Value->Shared->Prop}{ω:Own}{s:Shared}{σ:St}{env:Env}{ρ:Loc}{G:GC}{x:Str}{h:HV}{v:Value}{Q:Unit->Shared->Prop}(O:EnvOk mg mb env ω ρ G) (S:MS B0 os ω gs s) (R:RelS ω σ)
 (hx:nmB G x=true) (r:Rd ω h v) (H:∀ ω' s',(∃ m,ω'=ω.set env.locals (.ns m))->LeS env.locals ω ω'->LeF ω ω'->EnvOk mg mb env ω' (upd ρ x h) G->MS B0 os ω' gs s'->RelS ω' σ->Q () s'):wpAny (model prog w) A (storeName env x v) Q E s:=by
 refine c9 O.loc fun m h1 h2=>?_
 have hl:G.l x=true:=by unfold nmB at hx;simp only[Bool.and_eq_true] at hx;exact hx.1.1
 refine wpAny_storeName_local (O.lc x hl) (S.hold _ _ h1) (fun h' hn hs=>?_) (by refine rr O.kind ?_;rfl)
 exact H _ _ ⟨_,rfl⟩ (LeS.set _) (LeF.set _ h1 (fun _ q=>by contradiction)) (b03 O hx h1 r) (S.same h1 rfl hs (m:=.ns _) hn (s.toks+1)) (R.set _ h1 (fun _ q=>by contradiction) (fun _ q=>by contradiction))
theorem b12 {ω:Own}{c1 c2 P:Addr}{vo:Value}{octets:List UInt8}(hvo:ω c1=some (.cell (some vo))) (hpl:ω c2=some (.cell (some (.ref P)))) (r:Rd ω (.bytes octets) vo):FreeOk ω (b0 C7) [(Str.ofString "place",c2),(Str.ofString "octets",c1)] (upd (upd (fun _=>none) (Str.ofString "octets") (.bytes octets)) (Str.ofString "place") (.obj P)):=by
 intro x h e
 by_cases q:x=Str.ofString "place"
 · subst q
   refine rr (show h=.obj P from by
    (replace e:=Option.some.inj e;subst e);rfl) ?_
   refine(u5 ?_ c2 (.ref P) ?_ ⟨hpl,by dsimp only[Rd]⟩)
   · decide +kernel
   · rfl
 · by_cases q2:x=Str.ofString "octets"
   · clear q;subst q2
     refine rr (show h=.bytes octets from by
      (replace e:=Option.some.inj e;subst e);rfl) ?_
     refine(u5 ?_ c1 vo ?_ ⟨hvo,r⟩)
     · decide +kernel
     · rfl
   · exfalso
     simp[upd,q,q2] at e
theorem NewFn.abs {ω ω':Own}{s':Shared}{P f:Addr}{qs:List (Pos×Str)}{fo:FuncData}(N:NewFn B0 os gs ω P qs ω' s' f { cls:=.type "function",data:=.func fo }):∃ fo',fo'=fo/\NewFn B0 os gs ω P qs ω' s' f { cls:=.type "function",data:=.func fo' }:=(j1 fo rfl N)
noncomputable def TapeD (ω ω':Own) (T P K:Addr):Prop:=∃ D m fd sl,(∀ m0,ω D≠some (.ns m0))/\ω' T=some (.fz { cls:=.type "function",dict:=some D,data:=.func fd,slots:=sl })/\ω' D=some (.ns m)/\m "read" = some (.ref K)/\m "place" = some (.ref P)
theorem TapeD.keeps {ω ω' ω'':Own}{T P K:Addr}(h:TapeD ω ω' T P K) (x:Keeps ω' ω''):TapeD ω ω'' T P K:=by
 refine y1 h fun D m fd sl h1 h2 h3 h4=>?_
 exact(C6 D m fd sl h1 (x _ _ h2 (fun _ q=>by contradiction)) (x _ _ h3 (fun _ q=>by contradiction)) h4)
theorem b5z (TB:TopB B0 mg mb) (TM:a53 B0 mg) (hg:I1 mg mb gt) (gT:a5r gt){a c P17:Addr}{fd:FuncData}(F:FnK B0 a (stm 17) fd .none) (CB:X7 B0 fd c P17){A:Around}{l:List Env}{ω:Own}{s:Shared}{σ:St}{octets:List UInt8}{v:Value}
 (Rm:Room (n+1) A) (Ks:Stk ω A l) (S:MS B0 os ω gs s) (R:RelS ω σ) (hI:TabI ω P17 (F0 fd.qualname)) (hlen:octets.length<=1000) (rv:Rd ω (.bytes octets) v){t:Tok}{k:Nat} :
 wpAny (model prog w) A (call (.ref a) [v,.int (k:Nat) t] []) (J0 B0 os ω fun h ω' σ' gs'=>∃ T P K fo ρf,h=.val (.ref T)/\TapeAt ω' T P K octets fo ρf/\σ P=none/\σ'=σ.put P [.int (k:Nat)]/\TabI ω' P17 (F0 fd.qualname)/\gs'=gs/\TapeD ω ω' T P K/\∀ x c v,fo.closure.lookup x=some c->ω c≠some (.cell v)) (RaisG B0 os ω fun _ _ _ _ _=>False) s:=by
 have ln:=c8
 refine a7w (n:=n) (ps:=[tN "octets",tN "start"]) (hs:=[.bytes octets,.int (k:Nat)]) TB (a9p F.body F.scope F.glob F.blt F.clo (by decide +kernel) (fun vals hv=>c2d vals hv fd F.params F.kdflt F.dflt) p17) F.at' hg (fun _ _ _ _ _ _ _ q=>q) ?_ Rm Ks S R (by
  exact(j7 v _ rfl rv ⟨.int (k:Nat) t,[],rfl,by simp only[Rd];exact⟨t,rfl⟩,rfl⟩)) rfl ?_
 · rintro h ω₁ ω₂ σ' gs' x ⟨T,P,K,fo,ρf,h1,h2,h3,h4,h5,h6,h7,h8⟩
   exact(D4 T P K fo ⟨ρf,h1,h2.monoW x.stay,h3,h4,h5.keeps x,h6,h7.keeps x,h8⟩)
 intro env A' ωb ω₁ s₁ hfr hsc hcode hqual O CO Rm' Ks' S₁ R₁ l₁ hbL hbc other other1
 have O:=F.scope▸O
 rw[Q6] at O
 have n1:T8 [tN "octets",tN "start"] [.bytes octets,.int (k:Nat)]=upd (upd (fun _=>none) (tN "start") (.int (k:Nat))) (tN "octets") (.bytes octets):=rfl
 have O:=n1▸O
 obtain⟨cps,hcps⟩:=CB.tab
 obtain⟨ips,hips⟩:=hI
 have hI1:TabI ω₁ P17 (F0 fd.qualname):=⟨ips,other1 _ _ hips (fun _ q=>by first | exact c7 q | exact B5 q | exact B2 q | exact j0 q | contradiction | subst q)⟩
 have kpl:env.kindOf (Str.ofString "place")=some .cell:=by
  show env.scope.names.lookup _=_
  (refine rr hsc ?_;refine rr F.scope ?_);decide +kernel
 have koc:env.kindOf (Str.ofString "octets")=some .cell:=by
  show env.scope.names.lookup _=_
  (refine rr hsc ?_;refine rr F.scope ?_);decide +kernel
 have ktk:env.kindOf (Str.ofString "take")=some .local:=by
  show env.scope.names.lookup _=_
  (refine rr hsc ?_;refine rr F.scope ?_);decide +kernel
 refine y5 (O.cl (Str.ofString "place") (by kernel_rfl)) fun _ c2 hc2=>?_
 refine y5 (O.cl (Str.ofString "octets") (by kernel_rfl)) fun _ c1 hc1=>?_
 refine d9 (O.cel (Str.ofString "octets") (.bytes octets) (by unfold tN;walk_at "nm") (.inl koc)) fun c1' vo hc1' hvo rvo=>?_
 replace hc1':=hc1▸hc1'
 cases hc1'
 have hne12:c1≠c2:=fun q=>by
  subst q
  exact absurd (CO.2 _ _ _ hc1 hc2) (d6 (by decide +kernel))
 have g1:=gT.min
 unfold tN at *
 refine Y6 fun Q E hQ hE=>?_
 conv=>arg 3;arg 1;whnf
 refine t6 fun Q₁ n₁=>(wpAny_Assign_Name ?_ (k9 rfl))
 refine j4 (okE (mu:=fun _=>true) (Γ:=sp0 _) TB (j8 (n:=n)) _ A' _ ω₁ s₁ σ (fun h σ'=>∃ P,σ P=none/\h=.obj P/\σ'=σ.put P [.int (k:Nat)]) env _ _ Rm' O S₁ R₁ ?_) fun h₂ ω₂ σ₂ v₂ s₂ l₂ S₂ R₂ r₂ k₂=>?_
 · repeat' walk_at "ev"
   intro P hP
   exact(y7 P hP rfl rfl)
 (refine u9 k₂ fun P hP z11 z12=>?_;clear k₂;subst z11;subst z12)
 have hvo2:ω₂ c1=some (.cell (some vo)):=l₂ _ _ hvo
 have rvo2:=rvo.monoF l₂.f
 have r2':=r₂
 simp only[Rd] at r2'
 subst r2'
 refine G6 (O.mono l₂) (CO.monoW l₂.w) S₂ R₂ kpl hc2 ⟨d6 (by decide +kernel),d6 (by decide +kernel)⟩ r₂ fun s₃ v0 hv0 f₃ O3 CO3 S₃ R₃=>?_
 have l₃:LeS env.locals ωb (ω₂.set c2 (.cell (some (.ref P)))):=(l₁.trans (l₂.s _)).setNew _ (hbc _ _ hc2).1
 obtain⟨ps2,hps2⟩:=hI1.le l₂
 have hI3:TabI (ω₂.set c2 (.cell (some (.ref P)))) P17 (F0 fd.qualname):=⟨ps2,by rw[Own.set_ne _ _ (fun q=>by simp only[q,hv0] at hps2;cases hps2)];exact hps2⟩
 have hvo3:(ω₂.set c2 (.cell (some (.ref P)))) c1=some (.cell (some vo)):=by refine rr (Own.set_ne _ _ hne12) ?_;exact hvo2
 have hpl3:(ω₂.set c2 (.cell (some (.ref P)))) c2=some (.cell (some (.ref P))):=Own.set_self ..
 have rvo3:=rvo2.monoF f₃
 revert O3 CO3 S₃ R₃ l₃ hI3 hvo3 hpl3 rvo3
 generalize ω₂.set c2 (.cell (some (.ref P)))=ω₃
 intro O3 CO3 S₃ R₃ l₃ hI3 hvo3 hpl3 rvo3
 refine n₁ _ ?_
 conv=>arg 3;arg 1;whnf
 have hqn:qualnameIn env (Str.ofString "take") (Str.ofString "take")=(fd.qualname++".<locals>.")++"take" := by
  unfold qualnameIn
  (refine rr ktk ?_;refine rr hqual ?_);rfl
 refine wpAny_execs_cons (nestDef_K rfl rfl rfl ?_)
 refine c19 TB TM S₃ CB.hd hcps CB.ne (a3d fd.qualname) (by refine rr hqn ?_;exact .head _) hI3 (b0t hc1 hc2) O3.glob (hcode.trans CB.code) fun f ctv doc pm cv ω₄ s₄ N4 hcv=>?_
 refine c9 N4.abs fun fo hfo N4=>?_
 have hsh:∃ qual doc pm cv ctv cl,fo=fnX "take" qual (w8 C7) (n7 C7) (b0 C7) cl .none .none doc pm none cv ctv:=(D4 _ _ _ _ ⟨_,_,hfo⟩)
 have hcl:fo.closure=[(Str.ofString "place",c2),(Str.ofString "octets",c1)]:=by exact rr hfo rfl
 have hcd:CodeOk ω₄ fo.code fo.qualname:=by refine rr hfo ?_;exact hcv
 have hscp:fo.scope=b0 C7:=by refine rr hfo ?_;rfl
 clear hfo hcv
 have hPl:∀ vs,ω₃ P17≠some (.lst vs):=fun vs q=>by obtain⟨ps,h⟩:=hI3;have q:=h▸q;cases q
 have R₄:=N4.rel hPl R₃
 have S₅:=N4.ms.turn (m:=.fz { cls:=.type "function",data:=.func fo }) N4.at' rfl (show s₄.heap.get? f=some _ from N4.ms.hold _ _ N4.at')
 have w5:=LeW.set (.fz { cls:=.type "function",data:=.func fo }) N4.at' rfl
 have R₅:=R₄.set (.fz { cls:=.type "function",data:=.func fo }) N4.at' (fun _ q=>by first | exact c7 q | exact B5 q | exact B2 q | exact j0 q | contradiction | subst q) (fun _ q=>by first | exact c7 q | exact B5 q | exact B2 q | exact j0 q | contradiction | subst q)
 have O5:=(O3.mono N4.le).monoW w5
 have hL3:∃ m,ω₃ env.locals=some (.ns m):=by refine c9 O3.loc fun m h _=>?_;exact⟨m,h⟩
 obtain⟨m₃,hL3⟩:=hL3
 have hfb:ωb f=none:=l₃.none_of hbL N4.new
 have l₅:=(l₃.trans (N4.le.s _)).setNew (.fz { cls:=.type "function",data:=.func fo }) hfb
 have hI5:TabI (ω₄.set f (.fz { cls:=.type "function",data:=.func fo })) P17 (F0 fd.qualname):=by
  refine o_e N4.tab fun ps h=>?_
  exact⟨ps,by rw[Own.set_ne _ _ (fun q=>by simp only[q,N4.at'] at h;cases h)];exact h⟩
 have hfk:=Own.set_self ω₄ f (.fz { cls:=.type "function",data:=.func fo })
 have hvo5:=w5 _ _ (N4.le _ _ hvo3) rfl
 have hpl5:=w5 _ _ (N4.le _ _ hpl3) rfl
 have rvo5:=(rvo3.monoF N4.le.f).monoF w5.f
 have hcv5:=hcd.monoF w5.f
 revert S₅ w5 R₅ O5 l₅ hI5 hfk hvo5 hpl5 rvo5 hcv5
 generalize hω5:ω₄.set f (.fz { cls:=.type "function",data:=.func fo })=ω₅
 intro S₅ w5 R₅ O5 l₅ hI5 hfk hvo5 hpl5 rvo5 hcv5
 clear hω5
 have hL5:ω₅ env.locals=some (.ns m₃):=w5 _ _ (N4.le _ _ hL3) rfl
 refine o9 (h:=.val (.ref f)) O5 S₅ R₅ (by kernel_rfl) (by dsimp only[Rd]) fun ω6 s₆ l₆ f₆ O6 S6 R6=>?_
 have hI6:=hI5.leS l₆ hL5
 have hfk6:=l₆.w hfk rfl (fun _ q=>by first | exact c7 q | exact B5 q | exact B2 q | exact j0 q | contradiction | subst q) hL5
 have hvo6:=l₆.w hvo5 rfl (fun _ q=>by first | exact c7 q | exact B5 q | exact B2 q | exact j0 q | contradiction | subst q) hL5
 have hpl6:=l₆.w hpl5 rfl (fun _ q=>by first | exact c7 q | exact B5 q | exact B2 q | exact j0 q | contradiction | subst q) hL5
 have rvo6:=rvo5.monoF f₆
 have hcv6:=hcv5.monoF f₆
 show wpAny _ _ (execs _ _) _ _ _
 conv=>arg 3;arg 1;whnf
 refine t6 fun Q₁ n₁=>(wpAny_Assign_Name (kla_eval rfl ?_) (k9 rfl))
 refine a59 TB TM S6 CB.hd hcps CB.ne (a3d fd.qualname) (by refine rr hqual ?_;exact .tail _ (.head _)) hI6 (clos:=[]) rfl O6.glob (hcode.trans CB.code) fun T ctv7 pm7 cv7 ω7 s7 N7 hcv7=>?_
 refine c9 N7.abs fun lo hlo N7=>?_
 clear hlo hcv7
 have hPl6:∀ vs,ω6 P17≠some (.lst vs):=fun vs q=>by refine o_e hI6 fun ps h=>?_;have q:=h▸q;cases q
 have R7:=N7.rel hPl6 R6
 have hL6:∃ m,ω6 env.locals=some (.ns m):=by refine c9 O6.loc fun m h _=>?_;exact⟨m,h⟩
 obtain⟨m6,hL6⟩:=hL6
 have hL7:=N7.le _ _ hL6
 have l6b:LeS env.locals ωb ω6:=l₅.trans l₆
 have hTb:ωb T=none:=l6b.none_of hbL N7.new
 have hTL:T≠env.locals:=fun q=>by have:=N7.at';rw[q,hL7] at this;cases this
 refine b1c (h:=.val (.ref T)) (O6.mono N7.le) N7.ms R7 (by kernel_rfl) (by dsimp only[Rd]) fun ω8 s8 x₈ l8 f8 O8 S8 R8=>?_
 have l8b:LeS env.locals ωb ω8:=(l6b.trans (N7.le.s _)).trans l8
 have eT8:ω8 T=some (.ex { cls:=.type "function",data:=.func lo }):=by
  obtain⟨m,rfl⟩:=x₈
  refine rr (Own.set_ne _ _ hTL) ?_;exact N7.at'
 have hI8:=N7.tab.leS l8 hL7
 have hfk8:=l8.w (N7.le _ _ hfk6) rfl (fun _ q=>by first | exact c7 q | exact B5 q | exact B2 q | exact j0 q | contradiction | subst q) hL7
 have hvo8:=l8.w (N7.le _ _ hvo6) rfl (fun _ q=>by first | exact c7 q | exact B5 q | exact B2 q | exact j0 q | contradiction | subst q) hL7
 have hpl8:=l8.w (N7.le _ _ hpl6) rfl (fun _ q=>by first | exact c7 q | exact B5 q | exact B2 q | exact j0 q | contradiction | subst q) hL7
 have rvo8:=(rvo6.monoF N7.le.f).monoF f8
 have hcv8:=(hcv6.monoF N7.le.f).monoF f8
 have hL8:∃ m,ω8 env.locals=some (.ns m):=by refine c9 O8.loc fun m h _=>?_;exact⟨m,h⟩
 obtain⟨m8,hL8⟩:=hL8
 refine n₁ _ ?_
 conv=>arg 3;arg 1;whnf
 refine wpAny_execs_cons (plainObj_wpAny_Assign_Attribute ?_)
 refine w4 (h:=.val (.ref f)) O8 S8 (by walk_at "nm") fun v8 r₈=>?_
 simp only[Rd] at r₈
 subst r₈
 refine w4 (h:=.val (.ref T)) O8 S8 (by walk_at "nm") fun v8 r₈=>?_
 simp only[Rd] at r₈
 subst r₈
 refine a3y S8 R8 eT8 Y2 fun D od ω9 s9 hDn hDT hω9 hdi l9 S9 R9=>?_
 have eD9:ω9 D=some (.ex od):=by refine rr hω9 ?_;exact Own.set_self ..
 have eT9:ω9 T=some (.ex { cls:=.type "function",dict:=some D,data:=.func lo }):=by
  (refine rr hω9 ?_;refine rr (Own.set_ne _ _ (Ne.symm hDT)) ?_);exact Own.set_self ..
 have O9:=O8.mono l9
 have l9b:=l8b.trans (l9.s _)
 have hDb:ωb D=none:=l8b.none_of hbL hDn
 have rpl9:Rd ω9 (.obj P) (.ref P):=by dsimp only[Rd]
 show wpAny _ _ (execs _ _) _ _ _
 conv=>arg 3;arg 1;whnf
 refine wpAny_execs_cons (plainObj_wpAny_Assign_Attribute ?_)
 refine w4 (h:=.obj P) O9 S9 (by walk_at "nm") fun v8 r₈=>?_
 simp only[Rd] at r₈
 subst r₈
 refine w4 (h:=.val (.ref T)) O9 S9 (by walk_at "nm") fun v8 r₈=>?_
 simp only[Rd] at r₈
 subst r₈
 refine a5b S9 R9 eT9 eD9 hdi (by decide) a1a fun od' s10 hdi' S10 R10=>?_
 have eD10:(ω9.set D (.ex od')) D=some (.ex od'):=Own.set_self ..
 have eT10:(ω9.set D (.ex od')) T=some (.ex { cls:=.type "function",dict:=some D,data:=.func lo }):=by
  refine rr (Own.set_ne _ _ (Ne.symm hDT)) ?_;exact eT9
 have hdt:=eT10
 have l10:LeW ω9 (ω9.set D (.ex od')):=LeW.set _ eD9 rfl
 have S11:=S10.turn (m:=.ns _) eD10 rfl (hdi'.z (S10.hold _ _ eD10)).ns
 have l11:=l10.trans (LeW.set (.ns (fun x=>if x = "place" then some (.ref P) else if x = "read" then some (.ref f) else none)) eD10 rfl)
 have R11:=R10.set (.ns (fun x=>if x = "place" then some (.ref P) else if x = "read" then some (.ref f) else none)) eD10 (fun _ q=>by first | exact c7 q | exact B5 q | exact B2 q | exact j0 q | contradiction | subst q) (fun _ q=>by first | exact c7 q | exact B5 q | exact B2 q | exact j0 q | contradiction | subst q)
 have eT11:((ω9.set D (.ex od')).set D (.ns (fun x=>if x = "place" then some (.ref P) else if x = "read" then some (.ref f) else none))) T=some (.ex { cls:=.type "function",dict:=some D,data:=.func lo }):=by
  refine rr (Own.set_ne _ _ (Ne.symm hDT)) ?_;exact eT10
 have S12:=S11.turn (m:=.fz { cls:=.type "function",dict:=some D,data:=.func lo }) eT11 rfl (show _=some _ from S11.hold _ _ eT11)
 have R12:=R11.set (.fz { cls:=.type "function",dict:=some D,data:=.func lo }) eT11 (fun _ q=>by first | exact c7 q | exact B5 q | exact B2 q | exact j0 q | contradiction | subst q) (fun _ q=>by first | exact c7 q | exact B5 q | exact B2 q | exact j0 q | contradiction | subst q)
 have l12:=l11.trans (LeW.set (.fz { cls:=.type "function",dict:=some D,data:=.func lo }) eT11 rfl)
 have l12b:=((l9b.setNew (.ex od') hDb).setNew (.ns (fun x=>if x = "place" then some (.ref P) else if x = "read" then some (.ref f) else none)) hDb).setNew (.fz { cls:=.type "function",dict:=some D,data:=.func lo }) hTb
 have hI12:TabI (((ω9.set D (.ex od')).set D (.ns (fun x=>if x = "place" then some (.ref P) else if x = "read" then some (.ref f) else none))).set T (.fz { cls:=.type "function",dict:=some D,data:=.func lo })) P17 (F0 fd.qualname):=by
  refine o_e (hI8.le l9) fun ps h=>?_
  have n1:P17≠D:=fun q=>by rw[q,eD9] at h;cases h
  have n2:P17≠T:=fun q=>by rw[q,eT9] at h;cases h
  exact⟨ps,by (refine rr (Own.set_ne _ _ n2) ?_;refine rr (Own.set_ne _ _ n1) ?_;refine rr (Own.set_ne _ _ n1) ?_);exact h⟩
 have O12:=O9.monoW l12
 have hfk':=l12 _ _ (l9 _ _ hfk8) rfl
 have hvo':=l12 _ _ (l9 _ _ hvo8) rfl
 have hpl':=l12 _ _ (l9 _ _ hpl8) rfl
 have rvo':=(rvo8.monoF l9.f).monoF l12.f
 have hcv':=(hcv8.monoF l9.f).monoF l12.f
 have eT':=Own.set_self ((ω9.set D (.ex od')).set D (.ns (fun x=>if x = "place" then some (.ref P) else if x = "read" then some (.ref f) else none))) T (.fz { cls:=.type "function",dict:=some D,data:=.func lo })
 have eD':(((ω9.set D (.ex od')).set D (.ns (fun x=>if x = "place" then some (.ref P) else if x = "read" then some (.ref f) else none))).set T (.fz { cls:=.type "function",dict:=some D,data:=.func lo })) D=some (.ns (fun x=>if x = "place" then some (.ref P) else if x = "read" then some (.ref f) else none)):=by
  refine rr (Own.set_ne _ _ hDT) ?_;exact Own.set_self ..
 revert S12 R12 l12b hI12 O12 hfk' hvo' hpl' rvo' hcv' eT' eD'
 generalize (((ω9.set D (.ex od')).set D (.ns (fun x=>if x = "place" then some (.ref P) else if x = "read" then some (.ref f) else none))).set T (.fz { cls:=.type "function",dict:=some D,data:=.func lo }))=ωe
 intro S12 R12 l12b hI12 O12 hfk' hvo' hpl' rvo' hcv' eT' eD'
 show wpAny _ _ (execs _ _) _ _ _
 conv=>arg 3;arg 1;whnf
 refine wpAny_execs_cons (wpAny_Return_some ?_)
 refine w4 (h:=.val (.ref T)) O12 S12 (by walk_at "nm") fun v8 r₈=>?_
 simp only[Rd] at r₈
 subst r₈
 refine hQ _ _ ⟨_,.val (.ref T),ωe,_,gs,rfl,l12b,S12,R12,by dsimp only[Rd],T,P,f,fo,upd (upd (fun _=>none) (Str.ofString "octets") (.bytes octets)) (Str.ofString "place") (.obj P),rfl,⟨hlen,hsh,hfk',hcv',?_,?_,?_,?_,?_⟩,hP,rfl,hI12,rfl,(C6 D _ lo (#[]) ((fun m0 q=>by have:=other _ _ q (fun _ z=>by cases z);rw[hDb] at this;cases this)) eT' eD' ⟨?_,?_⟩),?_⟩
 · (refine rr hscp ?_;refine rr hcl ?_);exact b12 hvo' hpl' rvo'
 · unfold tN;walk_at "nm"
 · unfold tN;walk_at "nm"
 · unfold tN;exact⟨by walk_at "nm",by walk_at "nm"⟩
 · refine(a3a D _ lo (#[]) eT' eD' ⟨?_,?_⟩)
   · (refine rr (if_neg (by decide +kernel)) ?_;exact rr (if_pos rfl) rfl)
   · rw[if_pos rfl]
 · (refine rr (if_neg (by decide +kernel)) ?_;exact rr (if_pos rfl) rfl)
 · rw[if_pos rfl]
 · intro x c v hx hv
   replace hx:=hcl▸hx
   have hm:=mem_of_lookup hx
   have hb:ωb c=none:=by
    rcases List.mem_cons.mp hm with q | hm
    · cases q;exact(hbc _ _ hc2).1
    · rcases List.mem_cons.mp hm with q | hm
      · cases q;exact(hbc _ _ hc1).1
      · contradiction
   have:=other _ _ hv (fun _ z=>by contradiction)
   rw[hb] at this;exact c7 this
end
end
section
open PyProof.Rows
noncomputable def W5 (f:Int->Option Value):Prop:=∀ c:Nat,c<256->if specials.contains c then (∃ t,f c=some (.str ⟨#[92,c]⟩ t)) else f c=none
section
variable {prog:Program}{w:World}{A:Around}{E:Value->Shared->Prop}{s:Shared}
theorem a1j:isSubtype (.type "KeyError") (.type "LookupError")=pure true:=by kernel_rfl
theorem a56 {d:Addr} {f:Int->Option Value} {c:Nat} {Q:Builtin.Str.Mapped->Shared->Prop} (hm:s.heap.MapOf (intKind prog w) d f) (hf:W5 f) (hd:(d==sysModules)=false) (hh:A.handled=none) (hc:c<256)
 (H:∀ h' tk,(∀ b o,s.heap.get? b=some o->h'.get? b=some o)->Q (if specials.contains c then .text ⟨#[92,c]⟩ else .keep) { s with heap:=h',toks:=tk }):wpAny (model prog w) A (Builtin.Str.tableLookup (.ref d) c) Q E s:=by
 have h1:=hf c hc
 dsimp only[Builtin.Str.tableLookup]
 refine wpAny_bind (wpAny_attempt (wpAny_bind (wpAny_mkInt ?_)))
 by_cases q:specials.contains c=true
 · rw[if_pos q] at h1
   refine o_e h1 fun t h1=>?_
   refine wpAny_getItem_of (knd:=intKind prog w) (intKind_is prog w c _) hm h1 ?_
   have:=H s.heap (s.toks+1+1) (fun _ _ e=>e)
   rw[if_pos q] at this
   refine wpAny_bind (wpAny_of_eq (a:=none) rfl ?_)
   refine wpAny_bind (wpAny_of_eq (a:=some _) rfl ?_)
   exact wpAny_pure this
 · rw[if_neg q] at h1
   refine wpAny_getItem_missing_of (knd:=intKind prog w) (intKind_is prog w c _) hd hh hm h1 fun h' e x=>?_
   have:=H h' (s.toks+1+1) (fun _ _ e=>x.keeps _ _ e)
   rw[if_neg q] at this
   refine d9 x.there fun ob te g1 g2 g3=>?_
   refine wpAny_bind (wpAny_isInstance (T:="KeyError") (j1 ob g1 g2) a1j ?_)
   exact wpAny_bind (wpAny_rule (wpAny_pure this))
theorem b47 {d:Addr} {f:Int->Option Value} {c:Nat} {t:Tok} {Q:Value->Shared->Prop} (hm:s.heap.MapOf (intKind prog w) d f) (hf:W5 f) (hd:(d==sysModules)=false) (hh:A.handled=none) (hc:c<256)
 (H:∀ h' tk t',(∀ b o,s.heap.get? b=some o->h'.get? b=some o)->Q (.str ⟨(a5l c).toArray⟩ t') { s with heap:=h',toks:=tk }):wpAny (model prog w) A (call (.builtin "str.translate") [.str ⟨#[c]⟩ t,.ref d]) Q E s:=by
 refine wpAny_call_entry PySem.F.slot_str_translate (show typeOf _=_ from rfl) PySem.F.entry_str_translate ?_ (PySem.F.args_str_translate_2 _ _)
 refine wpAny_bind (wpAny_of_eq (a:=(.str ⟨#[c]⟩ t,⟨#[c]⟩,.ref d)) rfl ?_)
 dsimp only
 refine rr (if_neg (by show ¬ ((1:Nat)==0)=true;decide)) ?_
 refine rl Array.forIn_toList ?_
 simp only[List.forIn_cons,List.forIn_nil]
 have e1:(#[c].all fun x=>decide (x<128))=decide (c<128):=by simp
 refine rr e1 ?_
 have e0:Builtin.Str.tooLong 0=false:=by decide +kernel
 (refine rr e0 ?_;refine rr (if_neg (by decide)) ?_)
 by_cases h:c<128
 · refine rr (decide_eq_true h) ?_
   refine wpAny_bind (wpAny_bind ?_)
   refine wpAny_bind (a56 hm hf hd hh hc fun h' tk hk=>?_)
   unfold a5l at H
   by_cases q:specials.contains c=true
   · simp only[if_pos q] at H ⊢
     show wpAny _ _ (rule "str.translate.fast-road-left" >>= _) _ _ _
     refine wpAny_bind (wpAny_rule ?_)
     have hm':h'.MapOf (intKind prog w) d f:=by refine S0 hm fun o es ep g1 g2=>?_;exact(I5 o es ep (hk _ _ g1) g2)
     refine wpAny_bind (a56 (s:={ s with heap:=h',toks:=tk }) hm' hf hd hh hc fun h₂ tk2 hk₂=>?_)
     refine rr (if_pos q) ?_
     refine wpAny_pure ?_
     refine wpAny_pure ?_
     exact wpAny_bind (wpAny_mkStr (wpAny_pure (j1 _ rfl (H _ _ _ fun b o e=>hk₂ _ _ (hk _ _ e)))) (by show (2:Nat)<=sizeLine;decide +kernel))
   · simp only[if_neg q] at H ⊢
     refine wpAny_bind (wpAny_pure ?_)
     refine wpAny_pure ?_
     refine wpAny_pure ?_
     dsimp only
     exact wpAny_bind (wpAny_mkStr (wpAny_pure (j1 _ rfl (H _ _ _ hk))) (by show (1:Nat)<=sizeLine;decide +kernel))
 · refine rr (decide_eq_false h) ?_
   refine wpAny_bind (wpAny_bind ?_)
   refine wpAny_bind (a56 hm hf hd hh hc fun h' tk hk=>?_)
   unfold a5l at H
   by_cases q:specials.contains c=true
   · simp only[if_pos q] at H ⊢
     refine wpAny_pure ?_
     refine wpAny_pure ?_
     exact wpAny_bind (wpAny_mkStr (wpAny_pure (j1 _ rfl (H _ _ _ hk))) (by show (2:Nat)<=sizeLine;decide +kernel))
   · simp only[if_neg q] at H ⊢
     refine wpAny_pure ?_
     refine wpAny_pure ?_
     dsimp only
     exact wpAny_bind (wpAny_mkStr (wpAny_pure (j1 _ rfl (H _ _ _ hk))) (by show (1:Nat)<=sizeLine;decide +kernel))
end
end
section
open PyProof.Rows
section
variable {prog:Program}{w:World}{B0:Heap}{os:OsState}{gs:TQ}{mg mb:Str->Option Value}{n:Nat}{gt:Loc}
theorem b5q (T:TopB B0 mg mb){fd:FuncData}{ps:List Str}{body:List Stmt}{ρf:Loc}{a:Addr}{o:Obj}(D:N9 fd ps body) (hg:I1 mg mb gt){A:Around}{ω:Own}{s:Shared}{σ:St}{K:KG}{E:Value->Shared->Prop}{hs:List HV}{vs args:List Value}
 (hK:a1w K) (Rm:Room (n+1) A) (S:MS B0 os ω gs s) (R:RelS ω σ) (r:RdL ω hs vs) (hlen:hs.length=ps.length) (hbind:BindsTo s fd ⟨args,[]⟩ (ps.zip vs)) (ho:s.heap.get? a=some o) (hd:o.data=.func fd) (hcd:s.heap.CodeRec fd.code fd.qualname) (hfr:FreeOk ω fd.scope fd.closure ρf)
 (H:∀ (env:Env) (A':Around) (ω₁:Own) (s₁:Shared),env.frame=some env.locals->EnvOk mg mb env ω₁ (C4 ρf ps hs) (d7 fd.scope gt)->Room n A'->MS B0 os ω₁ gs s₁->RelS ω₁ σ->ω env.locals=none->(∀ b m,ω b=some m->(∀ vs,m≠.lst vs)->ω₁ b=some m)->
  wpAny (model prog w) A' (execs body env) (a6i B0 os env ω₁ K) (fun _ _=>False) s₁) :
 wpAny (model prog w) A (call (.ref a) args []) (J0 B0 os ω K) E s:=by
 refine wpAny_call (codeAny_call_def Rm.lim ho hd (T.lim S) hcd D.body hbind D.cells ?_ ?_ D.co D.gen D.kind)
 · intro x hx
   exact D.kinds x.1 (List.of_mem_zip (a:=x.1) (b:=x.2) hx).1
 · intro h₀ hns hk
   have S₁:MS B0 os ω gs { s with heap:=h₀,toks:=s.toks+(ps.zip vs).length }:=S.keeps hk _
   have hun:j3 σ ω s.heap.objs.size=none:=by
    rw[hide_none]
    induction q:ω s.heap.objs.size with
    | none=>rfl
    | some m=>exact absurd (S.hold _ _ q).lt (Nat.lt_irrefl _)
   have S₃:=(S₁.hide σ).adopt (a:=s.heap.objs.size) (m:=.ns _) hns S.size (fun o q=>by rw[hun] at q;exact c7 q)
   have R₃:=R.hide.new (m:=.ns fun x=>(ps.zip vs).reverse.lookup x) hun
   have fl:LeF ω ((j3 σ ω).set s.heap.objs.size (.ns fun x=>(ps.zip vs).reverse.lookup x)):=hide_f.trans (Le.new _ hun).f
   have other:∀ b m,ω b=some m->(∀ vs,m≠.lst vs)->((j3 σ ω).set s.heap.objs.size (.ns fun x=>(ps.zip vs).reverse.lookup x)) b=some m:=fun b m e hm=>by
    (refine rr (Own.set_ne _ _ (fun q=>by subst q;have:=hide_none.mp hun;rw[this] at e;exact c7 e)) ?_;refine rr (A9 (fun us q=>by rw[e] at q;(replace q:=Option.some.inj q;clear e;subst q);exact hm us rfl)) ?_;exact rr e rfl)
   have O:=Z9 (L:=s.heap.objs.size) (a:=a) D hg (r.monoF fl) (fun x h e=>by
    refine q9 (hfr x h e) fun k c v h1 h2 h3=>?_
    exact(u5 k c v h1 ⟨other _ _ h2 (fun _ q=>by contradiction),h3.monoF fl⟩)) (Own.set_self ..)
   refine wpAny_mono (H (callEnv fd s.heap.objs.size a) _ _ _ rfl O Rm.deeper S₃ R₃ (hide_none.mp hun) other) (fun f s' q=>?_) fun e s' q=>?_
   · obtain⟨v,h,ω',σ',gs',rfl,l',S',R',rv,k⟩:=q
     have l6:Le (j3 σ ω) ω':=(((Le.new _ hun).s s.heap.objs.size).trans l').le hun
     exact⟨h,F3 σ ω ω',σ',gs',T0 l6,S.backS l6 S',(k7 l6).rel R',rv.monoF (k7 l6).f,hK _ _ _ _ _ (k7 l6) k⟩
   · exact q.elim
theorem p9:W1 (stm 9) [tN "pattern"]=true:=by decide +kernel
theorem b9 (v:Value):∀ fd:FuncData,fd.params=w8 (stm 9)->fd.kwdefaults=.none->fd.defaults=.none->bindArgs fd ⟨[v],[]⟩=pure ([tN "pattern"].zip [v]):=fun fd hp h1 h2=>by
 cases fd
 simp only at hp h1 h2
 subst hp h1 h2
 with_unfolding_all rfl
theorem c01 (TB:TopB B0 mg mb) (hg:I1 mg mb gt){a d:Addr}{fd:FuncData}(F:FnK B0 a (stm 9) fd .none) (gi:gt (tN "isinstance")=some (.val (.builtin "isinstance"))) (gS:gt (tN "str")=some (.val (.type "str"))) (gd:gt (tN "_special_chars_map")=some (.val (.ref d)))
 {f:Int->Option Value}(hm:B0.MapOf (intKind prog w) d f) (hf:W5 f) (hds:(d==sysModules)=false)
 (A:Around) (E:Value->Shared->Prop) (ω:Own) (s:Shared) (σ:St) (K:KV) (hs:List HV) (vs:List Value) (Rm:Room (n+1) A) (S:MS B0 os ω gs s) (R:RelS ω σ) (r:RdL ω hs vs) (H:a47 hs σ K) :
 wpAny (model prog w) A (call (.ref a) vs []) (PostV B0 os gs ω K) E s:=by
 (refine u9 H fun c z581 hc hK=>?_;clear H;subst z581)
 (refine c9 r.one fun v z578 rv=>?_;subst z578)
 refine u9 (F.at'.now S) fun o ho hd hcd=>?_
 refine wpAny_mono (b5q (n:=n) (K:=fun h _ σ' gs'=>h=.str (a5l c)/\σ'=σ/\gs'=gs) (ps:=[tN "pattern"]) (hs:=[.str [c]]) (vs:=[v]) (ρf:=fun _=>none) TB (a5a F.body F.scope F.glob F.blt (by simp) p9) hg (fun _ _ _ _ _ _ q=>q) Rm S R r rfl (BindsTo.of_eq (b9 v _ F.params F.kdflt F.dflt)) ho hd hcd (FreeOk.none _ _ _) ?_) (fun v' s' ⟨h,ω',σ',gs',l',S',R',r',h1,h2,h3⟩=>?_) fun _ _ x=>x
 · intro env A' ω₁ s₁ hfr O Rm' S₁ R₁ hnew other
   rw[F.scope] at O
   have n1:C4 (fun _=>none) [tN "pattern"] [.str [c]]=upd (fun _=>none) (tN "pattern") (.str [c]):=rfl
   have O:=n1▸O
   unfold tN at *
   conv=>arg 3;arg 1;whnf
   refine wpAny_execs_cons (wpAny_If (c2y (mu:=fun _=>false) (Γ:=sp0 _) (x:=true) (t:=σ) TB (j8 (n:=n)) Rm' O S₁ R₁ ?_ fun ω₂ s₂ l₂ S₂ R₂=>?_))
   · intro K hK
     repeat' walk_at "ev"
     exact hK
   refine rr (if_pos rfl) ?_
   conv=>arg 3;arg 1;whnf
   refine wpAny_execs_cons (wpAny_Return_some ?_)
   refine wpAny_Call_method (T:="str") (id:="str.translate") (u8 rfl) (M1 _ env rfl (by decide) _) (by decide) PySem.F.plainAttrs_str PySem.F.slot_str_translate PySem.F.type_str_translate ?_
   refine w4 (h:=.str [c]) (O.mono l₂) S₂ (by walk_at "nm") fun v8 r₈=>?_
   simp only[Rd] at r₈
   (refine y5 r₈ fun hz t8 z563=>?_;clear r₈;refine rr z563 ?_)
   refine⟨show typeOf _=_ from rfl,fun a e=>(by contradiction),?_⟩
   refine rr (j2 _ _ env rfl) ?_
   refine callWith_builtin (d8 _ env) (p7 (d8 _ env) (D2 (u7 (okE (mu:=fun _=>false) (Γ:=sp0 _) TB (j8 (n:=n)) _) C3 A' _ ω₂ s₂ _ (fun hs σ'=>hs=[.val (.ref d)]/\σ'=σ) env _ _ Rm' (O.mono l₂) S₂ R₂ ?_) fun hs ω₃ σ₃ vs s₃ l₃ S₃ R₃ r₃ hn3 k₃=>?_))
   · repeat' walk_at "ev"
     exact⟨rfl,rfl⟩
   obtain⟨rfl,rfl⟩:=k₃
   (refine c9 r₃.one fun u z527 ru=>?_;refine rr z527 ?_)
   simp only[Rd] at ru
   refine rr ru ?_
   have hm3:s₃.heap.MapOf (intKind prog w) d f:=by
    refine M8 hm fun o es ep g1 g2 g3=>?_
    exact⟨o,es,ep,S₃.top g1 (by refine rr g2.1 ?_;decide),g2,g3⟩
   refine b47 hm3 hf hds Rm'.handled hc fun h' tk t' hk=>?_
   refine⟨_,.str (a5l c),ω₃,_,gs,rfl,(l₂.trans l₃).s _,S₃.keeps hk tk,R₃,?_,rfl,rfl,rfl⟩
   simp only[Rd]
   refine⟨?_,t',rfl⟩
   unfold a5l
   refine ie rfl (fun _=>?_) fun _=>?_
   · exact show 2<=sizeLine by decide +kernel
   · exact show 1<=sizeLine by decide +kernel
 · subst h1 h2 h3
   exact⟨_,ω',_,l',S',R',r',hK⟩
end
end
section
section
variable {prog:Program}{w:World}{B0:Heap}{os:OsState}{gs:TQ}{mg mb:Str->Option Value}{n:Nat}{gt:Loc}
theorem a72 {A:Around}{s:Shared}{R:Result->Shared->Prop}{a:Addr}{o:Obj}{fd:FuncData}{e:Expr}{args:Args}{binds:List (Str×Value)}
 (hroom:A.depth<recursionLimit) (ho:s.heap.get? a=some o) (hdata:o.data=.func fd) (hlim:s.heap.NoLimit) (hcd:s.heap.CodeRec fd.code fd.qualname)
 (hbody:fd.body=.expr e) (hbind:BindsTo s fd args binds)
 (hcell:∀ x∈fd.scope.names,x.2≠.cell) (hloc:∀ x∈binds,fd.scope.names.lookup x.1=some .local)
 (h:∀ h₀,h₀.Ns s.heap.objs.size (fun x=>binds.reverse.lookup x)->(∀ b o,s.heap.get? b=some o->h₀.get? b=some o)->
  wpAny (model prog w) (A.deeper (callEnv fd s.heap.objs.size a)) (eval e (callEnv fd s.heap.objs.size a)) (fun v s'=>R (.ok (.ret v)) s')
   (fun e s'=>wpAny (model prog w) (A.deeper (callEnv fd s.heap.objs.size a)) (leaving (callEnv fd s.heap.objs.size a) e) (fun _ s''=>R (.error e) s'') (fun e' s''=>R (.error e') s'') s')
   { s with heap:=h₀,toks:=s.toks+binds.length })
 (hco:fd.scope.isCoroutine=false) (hgen:fd.scope.isGenerator=false) (hk:fd.scope.kind=.function) :
 codeAny (model prog w) A (.call (.ref a) args) R s:=by
 refine kla_callFunE hroom ho hdata hco hgen hbody hcd (hbind _ _ _ _ ?_)
 refine wpAny_newFunctionEnv hcell hloc (fun h₀ hns0 hsb0=>⟨hlim.fresh _ hsb0,kla_codeExpr (h h₀ hns0 fun b o e=>?_)⟩) hk
 exact hsb0.extBut b o (Nat.ne_of_lt (Heap.lt_size e)) (Heap.get?_push_of_some _ e)
theorem b4e {mu:Pos->Bool}{Γ:Spx}(T:TopB B0 mg mb) (X:u6 prog w B0 os gs Γ n){fd:FuncData}{ps:List Str}{e:Expr}{ρf:Loc}{a:Addr}{o:Obj}(D:N9 { fd with body:=.stmts [] } ps []) (hbody:fd.body=.expr e) (hg:I1 mg mb gt){A:Around}{ω:Own}{s:Shared}{σ:St}{K:KV}{E:Value->Shared->Prop}{hs:List HV}{vs args:List Value}
 (Rm:Room (n+1) A) (S:MS B0 os ω gs s) (R:RelS ω σ) (r:RdL ω hs vs) (hlen:hs.length=ps.length) (hbind:BindsTo s fd ⟨args,[]⟩ (ps.zip vs)) (ho:s.heap.get? a=some o) (hd:o.data=.func fd) (hcd:s.heap.CodeRec fd.code fd.qualname) (hfr:FreeOk ω fd.scope fd.closure ρf)
 (H:evE mu Γ e (C4 ρf ps hs) (d7 fd.scope gt) σ fun h σ'=>∃ h',frz σ σ' h=some h'/\K h' (within σ σ')) :
 wpAny (model prog w) A (call (.ref a) args []) (PostV B0 os gs ω K) E s:=by
 refine wpAny_call (a72 Rm.lim ho hd (T.lim S) hcd hbody hbind D.cells ?_ ?_ D.co D.gen D.kind)
 · intro x hx
   exact D.kinds x.1 (List.of_mem_zip (a:=x.1) (b:=x.2) hx).1
 · intro h₀ hns hk
   have S₁:MS B0 os ω gs { s with heap:=h₀,toks:=s.toks+(ps.zip vs).length }:=S.keeps hk _
   have hun:j3 σ ω s.heap.objs.size=none:=by
    rw[hide_none]
    induction q:ω s.heap.objs.size with
    | none=>rfl
    | some m=>exact absurd (S.hold _ _ q).lt (Nat.lt_irrefl _)
   have S₃:=(S₁.hide σ).adopt (a:=s.heap.objs.size) (m:=.ns _) hns S.size (fun o q=>by rw[hun] at q;exact c7 q)
   have R₃:=R.hide.new (m:=.ns fun x=>(ps.zip vs).reverse.lookup x) hun
   have fl:LeF ω ((j3 σ ω).set s.heap.objs.size (.ns fun x=>(ps.zip vs).reverse.lookup x)):=hide_f.trans (Le.new _ hun).f
   have other:∀ b m,ω b=some m->(∀ vs,m≠.lst vs)->((j3 σ ω).set s.heap.objs.size (.ns fun x=>(ps.zip vs).reverse.lookup x)) b=some m:=fun b m e hm=>by
    (refine rr (Own.set_ne _ _ (fun q=>by subst q;have:=hide_none.mp hun;rw[this] at e;exact c7 e)) ?_;refine rr (A9 (fun us q=>by rw[e] at q;(replace q:=Option.some.inj q;clear e;subst q);exact hm us rfl)) ?_;exact rr e rfl)
   refine wpAny_mono (H T X (A.deeper (callEnv fd s.heap.objs.size a)) _ _ _ _ Rm.deeper (Z9 (fd:={ fd with body:=.stmts [] }) (L:=s.heap.objs.size) (a:=a) D hg (r.monoF fl) (fun x h e=>by
    refine q9 (hfr x h e) fun k c v h1 h2 h3=>?_
    exact(u5 k c v h1 ⟨other _ _ h2 (fun _ q=>by contradiction),h3.monoF fl⟩)) (Own.set_self ..)) S₃ R₃) (fun v s' q=>?_) fun e s' q=>q
   obtain⟨h,ω',σ',l',S',R',rv,h',hf,hK⟩:=q
   have l6:Le (j3 σ ω) ω':=(((Le.new _ hun).s s.heap.objs.size).trans (l'.s _)).le hun
   exact⟨h',_,_,a5x l6,S₁.finish l6 S',R.last l6 R',a81 l6 S' R' rv hf,hK⟩
end
end
section
open PySem PySem.Sre
noncomputable def ampCode:Array Nat:=#[14,14,4,1,1,9,0,64,0,1342177280,0,0,0,0,0,17,0,13,11,9,0,64,0,1342177280,0,0,0,0,0,17,1,1]
noncomputable def y6 (c:Nat):Bool:=c==38||c==124||c==126
noncomputable def a31 (c:Nat):Bool:=decide (c<256)&&(ampCode.getD (5+(1+c / 32)) 0).testBit (c % 32)
theorem a9t (c:Nat):a31 c=y6 c:=by
 by_cases h:c<256
 · have:∀ i:Fin 256,a31 i=y6 i:=by decide +kernel
   exact this ⟨c,h⟩
 · have h1:¬c=38:=fun e=>h (e▸by decide)
   have h2:¬c=124:=fun e=>h (e▸by decide)
   have h3:¬c=126:=fun e=>h (e▸by decide)
   simp[a31,y6,h,h1,h2,h3]
theorem b0n (c fuel:Nat) (seen:Seen):inSet ampCode c (fuel+2) 5 true seen=.ok (y6 c,if y6 c then seen.add 9 else (seen.add 9).add 0):=by
 have e:inSet ampCode c (fuel+2) 5 true seen=if a31 c=true then .ok (true,seen.add 9) else .ok (false,(seen.add 9).add 0):=rfl
 (refine rr e ?_;refine rr (a9t ..) ?_)
 cases y6 c<;>rfl
noncomputable def a1p (c:Nat):Bool:=decide (c<256)&&(ampCode.getD (19+(1+c / 32)) 0).testBit (c % 32)
theorem b52 (c:Nat):a1p c=y6 c:=by
 by_cases h:c<256
 · have:∀ i:Fin 256,a1p i=y6 i:=by decide +kernel
   exact this ⟨c,h⟩
 · refine rl (a9t ..) ?_;simp[a31,a1p,h]
theorem a8o (c fuel:Nat) (seen:Seen):inSet ampCode c (fuel+2) 19 true seen=.ok (y6 c,if y6 c then seen.add 9 else (seen.add 9).add 0):=by
 have e:inSet ampCode c (fuel+2) 19 true seen=if a1p c=true then .ok (true,seen.add 9) else .ok (false,(seen.add 9).add 0):=rfl
 (refine rr e ?_;refine rr (b52 ..) ?_)
 cases y6 c<;>rfl
noncomputable def ampF (text:Array Nat) (lim:Nat):Nat->Nat->Option Nat
 | 0,_=>none
 | fuel+1,s=>if s ≥ lim then none else if y6 (text.getD s 0) then some s else ampF text lim fuel (s+1)
theorem a06 {m:M}(hc:m.code=ampCode):∀ (fuel s:Nat) (seen:Seen),∃ seen',M.admitted m fuel s seen=.ok (ampF m.text m.lim fuel s,seen'):=by
 intro xs0
 induction xs0 with
 | zero=>
  exact @fun _ seen=>⟨seen,rfl⟩
 | succ fuel ih=>
  exact @fun s seen=>by
   unfold M.admitted ampF
   by_cases h:s ≥ m.lim
   · (refine rr (if_pos h) ?_;refine rr (if_pos h) ?_);exact⟨seen,rfl⟩
   · (refine rr (if_neg h) ?_;refine rr (if_neg h) ?_;refine rr hc ?_)
     have e:ampCode.size=30+2:=rfl
     (refine rr e ?_;refine rr (b0n ..) ?_)
     induction ha:y6 (m.text.getD s 0) with
     | true=>exact⟨_,rfl⟩
     | false=>exact ih (s+1) _
noncomputable def b1u (s:Nat) (o:Bool):Sre.Frame:={ wait:=.nextStart,pc:=15,pos:=s,outermost:=o }
noncomputable def I3 (text:Array Nat) (lim s L:Nat) (seen:Seen):M:=
 { code:=ampCode,text,lim,start:=s,lastStart:=L,pc:=15,pos:=s,handed:=s,marks:=#[none,none],frames:=[b1u s true],weight:=1,seen }
noncomputable def a0q (text:Array Nat) (lim s L:Nat) (seen:Seen):M:=
 { code:=ampCode,text,lim,start:=s,lastStart:=L,pc:=15,pos:=s,handed:=s+1,marks:=#[some s,some (s+1)],lastmark:=1,lastindex:=1,frames:=[],weight:=0,answer:=some true,seen,outcome:=some .matched }
theorem c1h (text:Array Nat) (lim s L:Nat) (seen:Seen):(I3 text lim s L seen).step = { I3 text lim s L (seen.add 17) with pc:=17,marks:=#[some s,none],lastmark:=0 }:=by rfl
theorem b9e {text:Array Nat}{lim s:Nat}(L:Nat) (seen:Seen) (h:s<lim) (ha:y6 (text.getD s 0)=true) :
 M.step { I3 text lim s L seen with pc:=17,marks:=#[some s,none],lastmark:=0 } = { I3 text lim s L ((seen.add 13).add 9) with pc:=29,pos:=s+1,marks:=#[some s,none],lastmark:=0 }:=by
 have e:M.step { I3 text lim s L seen with pc:=17,marks:=#[some s,none],lastmark:=0 } = (if s ≥ lim then M.say { I3 text lim s L (seen.add 13) with pc:=17,marks:=#[some s,none],lastmark:=0 } false else
  match inSet ampCode (text.getD s 0) (30+2) 19 true (seen.add 13) with
  | .error why=>M.stick { I3 text lim s L (seen.add 13) with pc:=17,marks:=#[some s,none],lastmark:=0 } why
  | .ok (false,seen')=>M.say { I3 text lim s L seen' with pc:=17,marks:=#[some s,none],lastmark:=0 } false
  | .ok (true,seen')=>{ I3 text lim s L seen' with pc:=29,pos:=s+1,marks:=#[some s,none],lastmark:=0 }):=by rfl
 (refine rr e ?_;refine rr (if_neg (Nat.not_le_of_lt h)) ?_;refine rr (a8o ..) ?_;refine rr ha ?_)
 rfl
theorem c0d (text:Array Nat) (lim s L:Nat) (seen:Seen):M.step { I3 text lim s L seen with pc:=29,pos:=s+1,marks:=#[some s,none],lastmark:=0 } = { I3 text lim s L (seen.add 17) with pc:=31,pos:=s+1,marks:=#[some s,some (s+1)],lastmark:=1,lastindex:=1 }:=by kernel_rfl
theorem a0k {text:Array Nat}{lim:Nat}:∀ {fuel s r:Nat},ampF text lim fuel s=some r->s<=r/\r<lim/\y6 (text.getD r 0)=true/\∀ k,s<=k->k<r->y6 (text.getD k 0)=false:=by
 intro xs0
 induction xs0 with
 | zero=>
  exact @fun _ _ e=>nomatch e
 | succ fuel ih=>
  exact @fun s r e=>by
   dsimp only[ampF] at e
   by_cases h:s ≥ lim
   · have e:=(if_pos h)▸e;exact c7 e
   · rw[if_neg h] at e
     induction ha:y6 (text.getD s 0) with
     | true=>
       rw[ha,if_pos rfl] at e
       refine(Option.some.inj e)▸?_
       exact(Q5 (Nat.le_refl _) (Nat.lt_of_not_le h) ha (fun k h1 h2=>absurd h1 (Nat.not_le_of_lt h2)))
     | false=>
       rw[ha,if_neg Bool.false_ne_true] at e
       refine U0 (ih e) fun h1 h2 h3 h4=>?_
       refine(Q5 (Nat.le_of_succ_le h1) h2 h3 (fun k hk1 hk2=>?_))
       refine Or.elim (Nat.lt_or_eq_of_le hk1) (fun h5=>?_) fun h5=>?_
       · exact h4 k h5 hk2
       · exact h5▸ha
theorem b1b {text:Array Nat}{lim:Nat}:∀ {fuel s:Nat},lim<=s+fuel->ampF text lim fuel s=none->∀ k,s<=k->k<lim->y6 (text.getD k 0)=false:=by
 intro xs0
 induction xs0 with
 | zero=>
  exact @fun s hf _ k h1 h2=>absurd (Nat.lt_of_lt_of_le h2 hf) (Nat.not_lt_of_le h1)
 | succ fuel ih=>
  exact @fun s hf e k h1 h2=>by
   dsimp only[ampF] at e
   by_cases h:s ≥ lim
   · exact absurd (Nat.lt_of_lt_of_le h2 h) (Nat.not_lt_of_le h1)
   · rw[if_neg h] at e
     induction ha:y6 (text.getD s 0) with
     | true=>rw[ha,if_pos rfl] at e;exact B5 e
     | false=>
       rw[ha,if_neg Bool.false_ne_true] at e
       refine Or.elim (Nat.lt_or_eq_of_le h1) (fun h5=>?_) fun h5=>?_
       · exact ih (c6 hf (by simp +arith)) e k h5 h2
       · exact h5▸ha
theorem b6d {text:Array Nat}{lim s:Nat}(L:Nat) (seen:Seen) (h:s<lim) (ha:y6 (text.getD s 0)=true):∃ seen',((I3 text lim s L seen).runFor 4).runFor 4=a0q text lim s L seen':=by
 refine⟨((((seen.add 17).add 13).add 9).add 17).add 1,?_⟩
 have e1:(I3 text lim s L seen).runFor 4=M.runFor 3 (I3 text lim s L seen).step:=rfl
 rw[e1,c1h]
 have e2:M.runFor 3 { I3 text lim s L (seen.add 17) with pc:=17,marks:=#[some s,none],lastmark:=0 } = M.runFor 2 (M.step { I3 text lim s L (seen.add 17) with pc:=17,marks:=#[some s,none],lastmark:=0 }):=rfl
 rw[e2,b9e L _ h ha]
 have e3 (sn:Seen):M.runFor 2 { I3 text lim s L sn with pc:=29,pos:=s+1,marks:=#[some s,none],lastmark:=0 } = M.runFor 1 (M.step { I3 text lim s L sn with pc:=29,pos:=s+1,marks:=#[some s,none],lastmark:=0 }):=rfl
 rw[e3,c0d]
 rfl
noncomputable def a0x (text:Array Nat) (start lim:Nat) (must:Bool):M:=
 { code:=ampCode,text,lim,start:=start,lastStart:=lim,pc:=15,pos:=start,handed:=start,marks:=#[none,none],mustAdvance:=must,seen:=({}:Seen).add 14 }
theorem a4f (text:Array Nat) (start lim:Nat) (must:Bool):forSearch ampCode text 1 start lim must=if (decide (start > lim)||decide (lim-start<1))=true then M.say { a0x text start lim must with lastStart:=0 } false else (a0x text start lim must).attemptFrom start true:=by rfl
theorem a9i (text:Array Nat) (start lim:Nat) (must:Bool):(a0x text start lim must).attemptFrom start true=match M.admitted (a0x text start lim must) (lim+1-start) start (({}:Seen).add 14) with
 | .ok (some s,seen)=>I3 text lim s lim seen
 | .ok (none,seen)=>M.say { a0x text start lim must with seen:=seen } false
 | .error why=>M.stick (a0x text start lim must) why:=by rfl
theorem a69 {text:Array Nat}{start lim r:Nat}(must:Bool) (e:ampF text lim (lim+1-start) start=some r):∃ seen,forSearch ampCode text 1 start lim must=I3 text lim r lim seen:=by
 refine U0 (a0k e) fun h1 h2 _ _=>?_
 obtain⟨seen',ha⟩:=a06 (m:=a0x text start lim must) rfl (lim+1-start) start (({}:Seen).add 14)
 refine⟨seen',?_⟩
 (refine rr (a4f ..) ?_;refine rr (if_neg (show ¬(decide (start > lim)||decide (lim-start<1))=true from by simp;exact c4p h2 h1)) ?_;refine rr (a9i ..) ?_;refine rr ha ?_;exact rr e rfl)
theorem a0w {text:Array Nat}{start lim:Nat}(must:Bool) (e:ampF text lim (lim+1-start) start=none):((forSearch ampCode text 1 start lim must).runFor 4).outcome=some .failed:=by
 refine rr (a4f ..) ?_
 by_cases hn:(decide (start > lim)||decide (lim-start<1))=true
 · refine rr (if_pos hn) ?_;rfl
 · refine o_e (a06 (m:=a0x text start lim must) rfl (lim+1-start) start (({}:Seen).add 14)) fun seen' ha=>?_
   (refine rr (if_neg hn) ?_;refine rr (a9i ..) ?_;refine rr ha ?_;refine rr e ?_)
   rfl
end
section
open PySem PySem.Sre PySem.Builtin.Re
section
variable {M0:Model}{A:Around}{E:Value->Shared->Prop}{s:Shared}
theorem a4d {α:Type}{f:α->PUnit->Sem (ForInStep PUnit)}{Q:PUnit->Shared->Prop}(hf:∀ x (Q:ForInStep PUnit->Shared->Prop),Q (.yield ⟨⟩) s->wpAny M0 A (f x ⟨⟩) Q E s):∀ (l:List α),Q ⟨⟩ s->wpAny M0 A (forIn l (⟨⟩:PUnit) f) Q E s
 | [],h=>wpAny_pure h
 | x::l,h=>by
   refine rr (List.forIn_cons ..) ?_
   exact wpAny_bind (hf x _ (a4d hf l h))
theorem a2v (k:Nat) (m:M):reDrive (k+1) m=(if (m.runFor 4).outcome.isSome then pure (m.runFor 4) else do rule "sre.turn"; reDrive k (m.runFor 4)):=rfl
theorem a0t {m:M}{k:Nat}{Q:M->Shared->Prop}(h:(m.runFor 4).outcome.isSome=true) (q:Q (m.runFor 4) s):wpAny M0 A (reDrive (k+1) m) Q E s:=by
 rw[a2v,if_pos h]
 exact wpAny_pure q
theorem b16 {m:M}{k:Nat}{Q:M->Shared->Prop}(h0:(m.runFor 4).outcome.isSome=false) (h:((m.runFor 4).runFor 4).outcome.isSome=true) (q:Q ((m.runFor 4).runFor 4) s):wpAny M0 A (reDrive (k+2) m) Q E s:=by
 (refine rr (a2v ..) ?_;refine rr (if_neg (by refine rr h0 ?_;exact Bool.false_ne_true)) ?_)
 exact wpAny_bind (wpAny_rule (a0t h q))
theorem b4m {m:M}{Q:Option M->Shared->Prop}{m':M}(hd:∀ Q:M->Shared->Prop,Q m' s->wpAny M0 A (reDrive (2 ^ 64) m) Q E s)
 (h:(m'.outcome=some .matched/\Q (some m') s)\/(m'.outcome=some .failed/\Q none s)):wpAny M0 A (reRunToEnd m) Q E s:=by
 refine wpAny_bind (hd _ ?_)
 refine wpAny_bind (a4d (fun i Q h=>?_) _ ?_)
 · refine ie rfl (fun _=>?_) fun _=>?_
   · exact wpAny_bind (wpAny_rule (wpAny_pure h))
   · exact wpAny_pure h
 · rcases h with ⟨e,q⟩ | ⟨e,q⟩
   · refine rr e ?_;exact wpAny_pure q
   · refine rr e ?_;exact wpAny_pure q
theorem a95 {text:Array Nat}{start lim r:Nat}(must:Bool){Q:Option M->Shared->Prop}(e:ampF text lim (lim+1-start) start=some r) (q:∀ seen,Q (some (a0q text lim r lim seen)) s) :
 wpAny M0 A (reRunToEnd (forSearch ampCode text 1 start lim must)) Q E s:=by
 refine o_e (a69 must e) fun seen hs=>?_
 refine U0 (a0k e) fun h1 h2 h3 _=>?_
 obtain⟨seen',hr⟩:=b6d lim seen h2 h3
 rw[hs]
 refine b4m (m':=a0q text lim r lim seen') (fun Q q=>?_) (.inl ⟨rfl,q _⟩)
 have h64:(2:Nat) ^ 64=(2 ^ 64-2)+2:=by decide
 rw[h64]
 induction h0:((I3 text lim r lim seen).runFor 4).outcome.isSome with
 | false=>exact b16 h0 (by rw[hr];rfl) (by rw[hr];exact q)
 | true=>
   have e4:((I3 text lim r lim seen).runFor 4).runFor 4=(I3 text lim r lim seen).runFor 4:=by
    show (if ((I3 text lim r lim seen).runFor 4).outcome.isSome then (I3 text lim r lim seen).runFor 4 else _)=_
    rw[if_pos h0]
   rw[e4] at hr
   exact a0t h0 (by refine rr hr ?_;exact q)
theorem a8q {text:Array Nat}{start lim:Nat}(must:Bool){Q:Option M->Shared->Prop}(e:ampF text lim (lim+1-start) start=none) (q:Q none s) :
 wpAny M0 A (reRunToEnd (forSearch ampCode text 1 start lim must)) Q E s:=by
 refine b4m (m':=(forSearch ampCode text 1 start lim must).runFor 4) (fun Q q=>?_) (.inr ⟨(a0w must e),q⟩)
 exact a0t (by refine rr (a0w must e) ?_;rfl) q
end
end
section
theorem c0f:PlainAttrs "re.Pattern" :=
 ⟨⟨"object.__getattribute__",by rw[typeLookup_type,builtinLookup_eq_fast];kernel_rfl,by decide +kernel⟩,by kernel_rfl⟩
theorem c06:PlainAttrs "re.Match" :=
 ⟨⟨"object.__getattribute__",by kernel_rfl,by decide +kernel⟩,by kernel_rfl⟩
theorem slot_sub:Slot "re.Pattern" "sub" "re.Pattern.sub" :=
 .of (owner:="re.Pattern") (n:="sub") (by rw[typeLookup_type,builtinLookup_eq_fast];kernel_rfl) (by decide +kernel) (by decide +kernel) (by decide +kernel)
  (by first | exact .inl (by decide +kernel) | exact .inr (by decide +kernel)) (by kernel_rfl)
theorem a2m:Slot "re.Match" "group" "re.Match.group" :=
 .of (owner:="re.Match") (n:="group") (by rw[typeLookup_type,builtinLookup_eq_fast];kernel_rfl) (by decide +kernel) (by decide +kernel) (by decide +kernel)
  (by first | exact .inl (by decide +kernel) | exact .inr (by decide +kernel)) (by kernel_rfl)
theorem b2t:typeOf (.builtin "re.Pattern.sub")=pure (.type "method_descriptor"):=by kernel_rfl
theorem a87:typeOf (.builtin "re.Match.group")=pure (.type "method_descriptor"):=by kernel_rfl
theorem b1d:entryFor table "re.Pattern.sub" = some Builtin.«re.Pattern.sub»:=entryFor_of_tree (by kernel_rfl)
theorem a8z:entryFor table "re.Pattern.sub.loop" = some Builtin.«re.Pattern.sub.loop»:=entryFor_of_tree (by kernel_rfl)
theorem a75:entryFor table "re.Match.group" = some Builtin.«re.Match.group»:=entryFor_of_tree (by kernel_rfl)
theorem b31 (a b c:Value):argsOk "re.Pattern.sub" ⟨[a,b,c],[]⟩:=by
 kernel_rfl
theorem a8f (a b:Value):argsOk "re.Match.group" ⟨[a,b],[]⟩:=by
 kernel_rfl
theorem b6v:typeLookup (.type "function") "__call__" = pure (some (.builtin "function.__call__")):=by kernel_rfl
end
section
open PySem.Builtin.Re
section
variable {prog:Program}{w:World}{A:Around}{E:Value->Shared->Prop}{s:Shared}
theorem b3v {a t:Addr}{vs sp:Array Value}{Q:ReFound->Shared->Prop}(h1:s.heap.get? a=some { cls:=.type "re.Match",data:=.fields vs }) (h5:vs.getD 5 .none=.ref t) (h2:s.heap.get? t=some { cls:=.type "tuple",data:=.seq sp }) (q:Q { fields:=vs,spans:=sp.map reRawOf } s) :
 wpAny (model prog w) A (reFound (.ref a)) Q E s:=by
 refine wpAny_bind (wpAny_fieldsOf h1 rfl ?_)
 refine rr h5 ?_
 exact wpAny_bind (wpAny_bind (wpAny_seqItems h2 rfl (wpAny_pure (wpAny_pure q))))
theorem c20 (x:ReFound) (u:Tok) (h:x.spans.size=4):reGroupNumber x (.int 1 u)=pure 1:=by
 unfold reGroupNumber
 refine rr h ?_;rfl
theorem b2v {a t:Addr} {l:Array Nat} {tk u:Tok} {pat lim:Value} {r c:Nat} {Q:Value->Shared->Prop} (h1:s.heap.get? a=some { cls:=.type "re.Match",data:=.fields #[.str ⟨l⟩ tk,pat,rawInt 0,lim,rawInt 1,.ref t] })
 (h2:s.heap.get? t=some { cls:=.type "tuple",data:=.seq #[rawInt r,rawInt (r+1:Nat),rawInt r,rawInt (r+1:Nat)] }) (h3:l[r]? = some c) (H:∀ t' k,Q (.str ⟨#[c]⟩ t') { s with toks:=k }) :
 wpAny (model prog w) A (call (.builtin "re.Match.group") [.ref a,.int 1 u]) Q E s:=by
 refine wpAny_call_entry a2m (j1 _ h1 rfl) a75 ?_ (a8f _ _)
 refine wpAny_bind (wpAny_pure ?_)
 refine wpAny_bind (b3v h1 rfl h2 ?_)
 refine rr (show (#[rawInt r,rawInt (r+1:Nat),rawInt r,rawInt (r+1:Nat)]).map reRawOf = #[(r:Int),((r+1:Nat):Int),(r:Int),((r+1:Nat):Int)] from by simp[reRawOf,rawInt]) ?_
 refine wpAny_bind (wpAny_of_eq (c20 _ u rfl) ?_)
 refine wpAny_bind ?_
 dsimp only[reGroupText]
 refine wpAny_bind (m:=reTextOf (.str ⟨l⟩ tk)) (wpAny_of_eq (a:=(l,0)) rfl ?_)
 show wpAny _ _ (reSlice l 0 (r:Int).toNat ((r+1:Nat):Int).toNat) _ _ _
 unfold reSlice
 (refine rr (Int.toNat_natCast ..) ?_;refine rr (Int.toNat_natCast ..) ?_;refine rr (show l.extract r (r+1) = #[c] from by
  refine o_e (Array.getElem?_eq_some_iff.mp h3) fun hr he=>?_
  apply Array.ext'
  simp only[Array.toList_extract,List.extract]
  refine rr (List.drop_eq_getElem_cons (show r<l.toList.length from by exact hr)) ?_
  simp[he]) ?_)
 refine rr (if_pos (by decide)) ?_
 refine wpAny_mkStr ?_ ?_
 · exact wpAny_pure (j1 _ rfl (H _ _))
 show 1<=sizeLine
 decide
end
section
variable {mu:Pos->Bool}{Γ:Spx}{ρ:Loc}{G:GC}{σ:St}{K:KV}
theorem b5w {o:Expr}{ap p q:Pos}{k:Nat}(h1:T4 o=true) (h3:ap.endLine=p.line) (h:evE mu Γ o ρ G σ fun a σ1=>∃ c,a=.mt c/\K (.str [c]) σ1):evE mu Γ (.Call (.Attribute o (Str.ofString "group") ap) [.Constant (.int 1) k q] [] p) ρ G σ K:=fun prog w B0 os gs mg mb n T X A E ω s env Rm O S R=>by
 refine wpAny_Call_method (T:="re.Match") (id:="re.Match.group") (u8 h1) (M1 [.Constant (.int 1) k q] env rfl (Nat.le_add_left 1 19) p) (by refine rr h3 ?_;simp) c06 a2m a87 (j4 (h T X A E ω s env Rm O S R) fun a ω₁ σ1 va s₁ l₁ S₁ R₁ r₁ H₁=>?_)
 obtain⟨c,rfl,H₁⟩:=H₁
 (refine J4 r₁ fun a t l tk pat z360=>?_;clear r₁;refine c9 z360 fun lim z361 z362=>?_;refine rr z361 ?_;refine u9 z362 fun r g1 g2 g3=>?_)
 have ha:=S₁.hold _ _ g1
 refine(A8 ((j1 _ ha rfl)) (fun b e=>by injection e with e;subst e;exact(j1 _ ha rfl)) ?_)
 refine rr (j2 p [.Constant (.int 1) k q] env rfl) ?_
 refine callWith_builtin (d8 _ env) (p7 (d8 _ env) (spliced_cons (wpAny_Constant_int (spliced_nil ?_))))
 refine b2v (s:={ s₁ with toks:=_ }) ha (S₁.hold _ _ g2) g3 fun t' k=>?_
 exact⟨.str [c],ω₁,σ1,l₁,S₁.toks _,R₁,a2y (by exact Nat.le_add_left 1 16777215),H₁⟩
end
end
section
open PySem.Builtin.Re
noncomputable def D1:List Nat->List Nat
 | []=>[]
 | c::r=>(if y6 c then [92,c] else [c])++D1 r
theorem a3c (a b:List Nat):D1 (a++b)=D1 a++D1 b:=by
 induction a with
 | nil=>rfl
 | cons c r ih=>show (if y6 c then [92,c] else [c])++D1 (r++b)=_;rw[ih];show _=((if y6 c then [92,c] else [c])++D1 r)++D1 b;rw[List.append_assoc]
theorem a3q (a:List Nat) (h:∀ c∈a,y6 c=false):D1 a=a:=by
 induction a with
 | nil=>rfl
 | cons c r ih=>show (if y6 c then [92,c] else [c])++D1 r=_;(refine rr (h c (.head _)) ?_;refine rr (ih fun c hc=>h c (.tail _ hc)) ?_);rfl
theorem b3g (a:List Nat):(D1 a).length<=2*a.length:=by
 induction a with
 | nil=>exact Nat.le_refl _
 | cons c r ih=>show ((if y6 c then [92,c] else [c])++D1 r).length<=2*(r.length+1);cases y6 c<;>simp<;>lia
structure PatAt (h:Heap) (pat:Addr):Prop where
 at':∃ vs ct,h.get? pat=some { cls:=.type "re.Pattern",data:=.fields vs }/\vs.getD 5 .none=.ref ct/\reRawNat (vs.getD 2 .none)=1/\reRawNat (vs.getD 6 .none)=0/\
  ∃ oc items n,h.get? ct=some oc/\oc.cls≠.none/\oc.data=.seq items n/\(items.map reRawOf).map (·.toNat)=ampCode
theorem PatAt.now {B0:Heap}{os:OsState}{gs:TQ}{ω:Own}{s:Shared}{pat:Addr}(P:PatAt B0 pat) (S:MS B0 os ω gs s):PatAt s.heap pat:=by
 (refine H9 P.at' fun vs ct h1 h2 h3 h4 z515=>?_;refine E4 z515 fun oc items n h5 h6 h7 h8=>?_)
 exact⟨vs,ct,S.top h1 (fun q=>nomatch q),h2,h3,h4,oc,items,n,S.top h5 h6,h6,h7,h8⟩
section
variable {prog:Program}{w:World}{A:Around}{E:Value->Shared->Prop}{s:Shared}
theorem a4l {pat:Addr}{l:Array Nat}{tk:Tok}{Q:ReTarget->Shared->Prop}(P:PatAt s.heap pat) (q:Q { pattern:=.ref pat,string:=.str ⟨l⟩ tk,code:=ampCode,text:=l,kind:=0,groups:=1,pos:=0,lim:=l.size } s) :
 wpAny (model prog w) A (reWholeTarget (.ref pat) (.str ⟨l⟩ tk)) Q E s:=by
 (refine H9 P.at' fun vs ct h1 h2 h3 h4 z516=>?_;refine E4 z516 fun oc items n h5 h6 h7 h8=>?_)
 refine wpAny_bind (wpAny_fieldsOf h1 rfl ?_)
 refine wpAny_bind (m:=reTextOf (.str ⟨l⟩ tk)) (wpAny_of_eq (a:=(l,0)) rfl ?_)
 dsimp only
 (refine rr h4 ?_;refine rr (if_neg (by decide)) ?_;refine rr (if_neg (by decide)) ?_;refine rr h2 ?_;refine rr h3 ?_)
 refine wpAny_bind (m:=reNoCollectionInside _ _) (wpAny_of_eq (a:=()) rfl ?_)
 refine wpAny_bind (wpAny_bind (wpAny_seqItems h5 h7 (wpAny_pure ?_)))
 show wpAny _ _ (pure _) _ _ _
 refine wpAny_pure ?_
 (refine rr (show ((some items).getD #[])=items from rfl) ?_;refine rr h8 ?_)
 exact q
theorem a3i {l:Array Nat} {b e:Nat} {Q:Value->Shared->Prop} (hz:(l.extract b e).size<=sizeLine) (q:∀ t k,Q (.str ⟨l.extract b e⟩ t) { s with toks:=k }):wpAny (model prog w) A (reSlice l 0 b e) Q E s:=by
 exact wpAny_mkStr (q _ _) hz
theorem b0u {pat:Addr} {l:Array Nat} {tk:Tok} {r:Nat} {sn:Sre.Seen} {Q:Value->Shared->Prop}
 (q:∀ h',(∀ b o,s.heap.get? b=some o->h'.get? b=some o)->h'.get? (s.heap.objs.size+1)=some { cls:=.type "re.Match",data:=.fields #[.str ⟨l⟩ tk,.ref pat,rawInt 0,rawInt l.size,rawInt 1,.ref s.heap.objs.size] }->h'.get? s.heap.objs.size=some { cls:=.type "tuple",data:=.seq #[rawInt r,rawInt (r+1:Nat),rawInt r,rawInt (r+1:Nat)] }->h'=(s.heap.push { cls:=.type "tuple",data:=.seq #[rawInt r,rawInt (r+1:Nat),rawInt r,rawInt (r+1:Nat)] }).push { cls:=.type "re.Match",data:=.fields #[.str ⟨l⟩ tk,.ref pat,rawInt 0,rawInt l.size,rawInt 1,.ref s.heap.objs.size] }->Q (.ref (s.heap.objs.size+1)) { s with heap:=h' }) :
 wpAny (model prog w) A (reNewMatch (.ref pat) (.str ⟨l⟩ tk) 1 0 l.size (a0q l l.size r l.size sn)) Q E s:=by
 refine a7h ?_ ?_
 · show ((decide (((2*0+1:Nat):Int)<=1)&&decide (r+1<r))||false)=false
   simp
 refine wpAny_bind (wpAny_newObj_type ?_ (show (4:Nat)<=sizeLine from by decide))
 refine wpAny_newObj_type ?_ (show (6:Nat)<=sizeLine+2 from by exact Nat.le_add_left 6 16777212)
 simp only[Heap.size_push]
 exact q _ (fun b o e=>Heap.get?_push_of_some _ (Heap.get?_push_of_some _ e)) (by have:=Heap.get?_push_size (s.heap.push { cls:=.type "tuple",data:=.seq #[rawInt r,rawInt (r+1:Nat),rawInt r,rawInt (r+1:Nat)] }) (o:={ cls:=.type "re.Match",data:=.fields #[.str ⟨l⟩ tk,.ref pat,rawInt 0,rawInt l.size,rawInt 1,.ref s.heap.objs.size] }) rfl;simp only[Heap.size_push] at this;exact this) (Heap.get?_push_of_some _ (Heap.get?_push_size _ rfl)) rfl
end
end
section
noncomputable def P4 (c:Nat):List Nat:=if c=92 then [92,92] else if c=45 then [92,45] else [c]
noncomputable def rgS (b:Bool) (lo hi:Nat):List Nat:=(if b then [33] else [])++(if hi<lo then [] else (P4 lo++[45])++P4 hi)
noncomputable def a5g (s:List Nat):List Nat:=match s with
 | []=>[40,63,33,41]
 | h::r=>if h=33 then (if r=[] then [46] else 91::((94::r)++[93])) else if h=94\/h=91 then 91::((92::h::r)++[93]) else 91::((h::r)++[93])
noncomputable def pcF:Pz->List Nat
 | .qm=>[46]
 | .one c=>if [42,63,91].contains c then a5g [c] else a5l c
 | .rg b lo hi=>a5g (D1 (rgS b lo hi))
noncomputable def a33:List Nat->Bool
 | []=>true
 | c::r=>if c=92 then (match r with
   | []=>false
   | _::r=>a33 r) else c != 93&&a33 r
theorem a2n:∀ (n:Nat) (l:List Nat),l.length<=n->a33 l=true->a1d l
 | _,[],_,_=>.nil
 | 0,_::_,h,_=>absurd h (Nat.not_succ_le_zero _)
 | n+1,c::r,h,e=>by
  unfold a33 at e
  by_cases hc:c=92
  · rw[if_pos hc] at e
    refine rr hc ?_
    induction r using List.casesOn with
    | nil=>exact j0 e
    | cons d r=>exact .esc d r (a2n n r (by simp at h;exact Nat.le_of_lt h) e)
  · rw[if_neg hc] at e
    exact .lit c r hc (by simpa using (Bool.and_eq_true_iff.mp e).1) (a2n n r (by simp at h;omega) (Bool.and_eq_true_iff.mp e).2)
noncomputable def b5t (l:List Nat):Bool:=match l with
 | []=>false
 | [c]=>c != 92&&c != 91&&c != 40
 | c::r=>if c=92 then r.length==1 else if c=40 then r==[63,33,41] else c==91&&r.getLast?==some 93&&a33 r.dropLast
theorem b9w {l:List Nat}(h:b5t l=true):CutOk l:=by
 match l,h with
 | [c],h=>
  simp only[b5t,Bool.and_eq_true,bne_iff_ne] at h
  exact .one c h.1.1 h.1.2 h.2
 | c::d::r,h=>
  unfold b5t at h
  dsimp only at h
  by_cases h1:c=92
  · rw[if_pos h1] at h
    refine rr h1 ?_
    induction r using List.casesOn with
    | nil=>exact .esc d
    | cons _ _=>simp at h
  · rw[if_neg h1] at h
    by_cases h2:c=40
    · rw[if_pos h2] at h
      refine rr h2 ?_
      have e:d::r=[63,33,41]:=by simpa using h
      refine rr e ?_;exact .no
    · rw[if_neg h2] at h
      simp only[Bool.and_eq_true,beq_iff_eq] at h
      obtain⟨⟨h3,h4⟩,h5⟩:=h
      refine rr h3 ?_
      obtain⟨u,hu⟩:=List.getLast?_eq_some_iff.mp h4
      rw[hu] at h5 ⊢
      rw[List.dropLast_concat] at h5
      exact .cls u (a2n _ u (Nat.le_refl _) h5)
noncomputable def b06 (l:List Nat) (m:Mn):Bool:=match l with
 | []=>false
 | [c]=>if c=46 then m==(1,0,true) else !metas.contains c&&m==(c,c,false)
 | c::r=>if c=92 then (match r with
   | [d]=>!Unicode.isAlnum d&&m==(d,d,false)
   | _=>false)
  else if c=40 then r==[63,33,41]&&m==(1,0,false)
  else c==91&&r.getLast?==some 93&&(match r.dropLast with
   | []=>false
   | h::q=>decide (q.length<=50)&&(match T7 (h::q) (a2k (h::q)) with
     | ([x],p)=>if p=(h::q).length then m==(x,x,P9 (h::q)) else (h::q)[p]?==some 45&&(match T7 (h::q) (p+1) with
       | ([y],p2)=>p2==(h::q).length&&m==(x,y,P9 (h::q))
       | _=>false)
     | _=>false))
theorem b5u {l:List Nat}{m:Mn}(h:b06 l m=true):MeanOf l m:=by
 match l,h with
 | [c],h=>
  unfold b06 at h
  dsimp only at h
  by_cases h1:c=46
  · subst h1
    simp only[if_pos,beq_iff_eq] at h
    refine rr h ?_;exact .dot
  · rw[if_neg h1] at h
    simp only[Bool.and_eq_true,Bool.not_eq_true',beq_iff_eq] at h
    refine rr h.2 ?_;exact .one c h1 h.1
 | c::d::r,h=>
  unfold b06 at h
  dsimp only at h
  by_cases h1:c=92
  · rw[if_pos h1] at h
    refine rr h1 ?_
    induction r using List.casesOn with
    | nil=>
      simp only[Bool.and_eq_true,Bool.not_eq_true',beq_iff_eq] at h
      refine rr h.2 ?_;exact .esc d h.1
    | cons _ _=>exact j0 h
  · rw[if_neg h1] at h
    by_cases h2:c=40
    · rw[if_pos h2] at h
      refine rr h2 ?_
      simp only[Bool.and_eq_true,beq_iff_eq] at h
      (refine rr h.1 ?_;refine rr h.2 ?_);exact .no
    · rw[if_neg h2] at h
      have h':=Bool.and_eq_true_iff.mp h
      refine rr (show c=91 from by simpa using (Bool.and_eq_true_iff.mp h'.1).1) ?_
      obtain⟨u,hu⟩:=List.getLast?_eq_some_iff.mp (show (d::r).getLast? = some 93 from by simpa using (Bool.and_eq_true_iff.mp h'.1).2)
      have h4:=h'.2
      rw[hu] at h4 ⊢
      rw[List.dropLast_concat] at h4
      clear hu;induction u using List.casesOn with
      | nil=>exact j0 h4
      | cons x q=>
        dsimp only at h4
        have hq:q.length<=50:=by simpa using (Bool.and_eq_true_iff.mp h4).1
        have h6:=(Bool.and_eq_true_iff.mp h4).2
        generalize hs:T7 (x::q) (a2k (x::q))=sg at h6
        obtain⟨f,p⟩:=sg
        match f,h6 with
        | [],h6=>exact j0 h6
        | _::_::_,h6=>exact j0 h6
        | [y],h6=>
          dsimp only at h6
          by_cases hp:p=(x::q).length
          · rw[if_pos hp] at h6
            have:m=(y,y,P9 (x::q)):=by simpa using h6
            refine rr this ?_
            exact .cls1 x q y hq (by (refine rr hs ?_;exact rr hp rfl))
          · rw[if_neg hp] at h6
            have h7:=Bool.and_eq_true_iff.mp h6
            have h8:=h7.2
            generalize hs2:T7 (x::q) (p+1)=sg2 at h8
            obtain⟨f2,p2⟩:=sg2
            match f2,h8 with
            | [],h8=>exact j0 h8
            | _::_::_,h8=>exact j0 h8
            | [z],h8=>
              dsimp only at h8
              refine rr (show m=(y,z,P9 (x::q)) from by simpa using (Bool.and_eq_true_iff.mp h8).2) ?_
              exact .cls2 x q y z p hq hs (show (x::q)[p]? = some 45 from by simpa using h7.1) (by (refine rr hs2 ?_;exact rr (show p2=(x::q).length from by simpa using (Bool.and_eq_true_iff.mp h8).1) rfl))
noncomputable def b6l (t:Pz):Bool:=b5t (pcF t)&&b06 (pcF t) t.mean&&decide ((pcF t).length<=12)&&!(pcF t).isEmpty
theorem b7f:∀ c:Fin 256,b6l (.one c)=true:=by decide +kernel
theorem b2u:(endsL.all fun lo=>endsL.all fun hi=>b6l (.rg false lo hi)&&b6l (.rg true lo hi))=true:=by decide +kernel
theorem P5 (t:Pz) (h:t.good):CutOk (pcF t)/\MeanOf (pcF t) t.mean/\(pcF t).length<=12/\pcF t≠[]:=by
 have key:b6l t=true:=by
  induction t using Pz.casesOn with
  | qm=>rfl
  | one c=>exact b7f ⟨c,h⟩
  | rg b lo hi=>
   cases b
   · exact(Bool.and_eq_true_iff.mp (List.all_eq_true.mp (List.all_eq_true.mp b2u lo h.1) hi h.2)).1
   · exact(Bool.and_eq_true_iff.mp (List.all_eq_true.mp (List.all_eq_true.mp b2u lo h.1) hi h.2)).2
 have k2:=Bool.and_eq_true_iff.mp (Bool.and_eq_true_iff.mp key).1
 exact(Q5 (b9w (Bool.and_eq_true_iff.mp k2.1).1) (b5u (Bool.and_eq_true_iff.mp k2.1).2) (by simpa using k2.2) (by simpa using (Bool.and_eq_true_iff.mp key).2))
end
section
open Sem (wp)
theorem a0h {M:Model}{Γ:PySem.Ctx}{p:Pos}{t:Sem Fin}{fs:List Frame}{s s':Shared}{e:End}(h:Runs M Γ p t fs s e s'):s.toks<=s'.toks:=by
 induction h with
 | fresh _ ih=>exact Nat.le_trans (Nat.le_succ _) ih
 | call _ _ ih1 ih2=>exact Nat.le_trans ih1 ih2
 | resumeFresh _ _ _ _ ih1 ih2=>exact Nat.le_trans ih1 ih2
 | resumeSuspended _ _ _ _ ih1 ih2=>exact Nat.le_trans ih1 ih2
 | segRet _ _ ih1 ih2=>exact Nat.le_trans ih1 ih2
 | segGen _ _ ih1 ih2=>exact Nat.le_trans ih1 ih2
 | segSuspGen _ _ _ _ ih1 ih2=>exact Nat.le_trans ih1 ih2
 | done=>exact Nat.le_refl _
 | raise=>exact Nat.le_refl _
 | yield=>exact Nat.le_refl _
 | _=>assumption
theorem a8x {M:Model}{Γ:PySem.Ctx}{p:Pos}{g:Nat}{r:Resume}{s s':Shared}{res:GenResult}(h:Wakes M Γ p g r s res s'):s.toks<=s'.toks:=by
 unfold Wakes at h
 split at h
 · exact h.elim
 · split at h
   · (refine M6 h fun e₁ s₁ hr _ _ z710=>?_;clear h;subst z710);have q:=a0h hr;exact q
   · obtain⟨_,rfl⟩:=h;exact Nat.le_refl _
   · obtain⟨_,rfl⟩:=h;exact Nat.le_refl _
 · (refine M6 h fun e₁ s₁ hr _ _ z698=>?_;clear h;subst z698);have q:=a0h hr;exact q
 · obtain⟨_,rfl⟩:=h;exact Nat.le_refl _
 · obtain⟨_,rfl⟩:=h;exact Nat.le_refl _
theorem b6f {α:Type}{M:Model}{Γ:PySem.Ctx}{t:Sem α}:∀ {Q:α->Pos->Shared->Prop}{E:Value->Pos->Shared->Prop}{p:Pos}{s:Shared},wp M Γ t Q E p s->wp M Γ t (fun a p' s'=>s.toks<=s'.toks/\Q a p' s') (fun a p' s'=>s.toks<=s'.toks/\E a p' s') p s:=by
 have up:∀ {t:Sem α}{Q:α->Pos->Shared->Prop}{E:Value->Pos->Shared->Prop}{p:Pos}{s s0:Shared},s0.toks<=s.toks->wp M Γ t (fun a p' s'=>s.toks<=s'.toks/\Q a p' s') (fun a p' s'=>s.toks<=s'.toks/\E a p' s') p s->wp M Γ t (fun a p' s'=>s0.toks<=s'.toks/\Q a p' s') (fun a p' s'=>s0.toks<=s'.toks/\E a p' s') p s:=
  fun hle h=>Sem.wp_mono M Γ _ (fun _ _ _ x=>⟨Nat.le_trans hle x.1,x.2⟩) (fun _ _ _ x=>⟨Nat.le_trans hle x.1,x.2⟩) _ _ h
 induction t with
 | pure a=>intro Q E p s h;exact⟨Nat.le_refl _,h⟩
 | raise e=>intro Q E p s h;exact⟨Nat.le_refl _,h⟩
 | unsupported _=>intro Q E p s h;exact h
 | finish _=>intro Q E p s h;exact h
 | rule _ k ih=>intro Q E p s h;exact ih () h
 | «at» _ k ih=>intro Q E p s h;exact ih () h
 | load a _ k ih=>intro Q E p s h;refine c9 h fun o h1 h2=>?_;exact(j1 o h1 (ih o h2))
 | update a _ f k ih=>intro Q E p s h;exact⟨h.1,ih () h.2⟩
 | loadIfAlive a k ih=>intro Q E p s h;exact ih _ h
 | point _ k ih=>intro Q E p s h;exact ih () h
 | register _ _ _=>intro Q E p s h;exact h
 | alloc o k ih=>intro Q E p s h;exact ih _ h
 | fresh k ih=>intro Q E p s h;exact up (s:={ s with toks:=s.toks+1 }) (Nat.le_succ _) (ih _ h)
 | ask k ih=>intro Q E p s h;exact ih _ h
 | choose src n k ih=>intro Q E p s h;exact⟨h.1,ih _ h.2⟩
 | os q _ k ih=>intro Q E p s h;exact ih _ h
 | call c h _ _ k ih=>intro Q E p s h;refine I9 h fun r s' h1 h2=>?_;exact(M9 r s' h1 (up (a0h h1) (ih r h2)))
 | handled own k ih=>intro Q E p s h;exact ih _ h
 | genState g k ih=>intro Q E p s h;refine c9 h fun o h1 h2=>?_;exact(j1 o h1 (ih _ h2))
 | newGen c k ih=>intro Q E p s h;exact ih _ h
 | resume g r _ k ih=>intro Q E p s h;refine I9 h fun r s' h1 h2=>?_;exact(M9 r s' h1 (up (a8x h1) (ih r h2)))
 | stack k ih=>intro Q E p s h;exact ih _ h
 | thread k ih=>intro Q E p s h;exact ih _ h
 | _=>intro Q E p s h;exact h
theorem K2 {α:Type}{M:Model}{A:Around}{t:Sem α}{Q:α->Shared->Prop}{E:Value->Shared->Prop}{s:Shared}(h:wpAny M A t (fun a s'=>s.toks<=s'.toks->Q a s') E s):wpAny M A t Q E s:=fun Γ p hΓ=>
 Sem.wp_mono M Γ _ (fun _ _ _ x=>x.2 x.1) (fun _ _ _ x=>x.2) _ _ (b6f (h Γ p hΓ))
end
section
open PySem.Builtin.Re
theorem Y4:plainId "re.Pattern.sub.loop" = true:=by decide +kernel
section
variable {prog:Program}{w:World}{B0:Heap}{os:OsState}{gs:TQ}
theorem b3k {α:Type}{M:Model}{A:Around}{E:Value->Shared->Prop}{s:Shared}{p:Prop}{d:Decidable p}{a b:Sem α}{Q:α->Shared->Prop}(hc:decide p=true) (h:wpAny M A a Q E s):wpAny M A (@ite _ p d a b) Q E s:=by refine rr (if_pos (of_decide_eq_true hc)) ?_;exact h
theorem c1n {α:Type}{M:Model}{A:Around}{E:Value->Shared->Prop}{s:Shared}{p:Prop}{d:Decidable p}{a b:Sem α}{Q:α->Shared->Prop}(hc:decide p=false) (h:wpAny M A b Q E s):wpAny M A (@ite _ p d a b) Q E s:=by refine rr (if_neg (of_decide_eq_false hc)) ?_;exact h
theorem b2w {A:Around}{E:Value->Shared->Prop}{ω:Own}{s:Shared}{a:Addr}{v:Value}{vs:List Value}{Q:Unit->Shared->Prop}(S:MS B0 os ω gs s) (e:ω a=some (.hid vs)) (hz:vs.length<sizeLine)
 (H:∀ s',MS B0 os (ω.set a (.hid (vs++[v]))) gs s'->Q () s'):wpAny (model prog w) A (updateSeq a (·.push v)) Q E s:=by
 refine o_e (S.hold _ _ e) fun n ho=>?_
 refine wpAny_updateSeq ho rfl ?_ (by simp;exact ar9 hz) (by simp;exact ar9 hz)
 refine H _ (S.same e rfl (Heap.SameBut.update ..) (m:=.hid (vs++[v])) ?_ s.toks)
 refine⟨n+1,?_⟩
 have:=Heap.get?_update_self (Obj.mapSeq (·.push v)) ho rfl
 simp only[this]
 simp[Obj.mapSeq]
theorem b1t {pat pc f:Addr} {l:List Nat} {tk:Tok} {ω0:Own} (P:PatAt B0 pat) (hl:l.length<=100)
 (hcall:∀ (A:Around) (E:Value->Shared->Prop) (ω:Own) (s:Shared) (σ:St) (c:Nat) (v:Value),LeF ω0 ω->Room 2 A->MS B0 os ω gs s->RelS ω σ->Rd ω (.mt c) v->wpAny (model prog w) A (call (.ref f) [v]) (PostV B0 os gs ω fun h σ'=>h=.str [92,c]/\σ'=σ) E s) :
 ∀ (k:Nat) (A:Around) (R:Result->Shared->Prop) (ω:Own) (s:Shared) (σ:St) (n:Int) (d:Nat) (must:Bool) (ts:List (List Nat)) (ps:List Value),l.length-d=k->d<=l.length->Room 4 A->MS B0 os ω gs s->RelS ω σ->LeF ω0 ω->ω pc=some (.hid ps)->RdL ω (ts.map HV.str) ps->ts.flatten=D1 (l.take d)->ts.length<=2*d->
 (∀ ω' s' v,LeS pc ω ω'->MS B0 os ω' gs s'->RelS ω' σ->Rd ω' (.str (D1 l)) v->R (.ok (.ret v)) s')->
 codeAny (model prog w) A (.builtin "re.Pattern.sub.loop" ⟨[.ref pat,.str ⟨l.toArray⟩ tk,.ref f,rawInt 1,rawInt 0,rawInt n,rawInt d,rawInt d,.bool must,.ref pc,.bool false],[]⟩) R s:=by
 have ln:=c8
 intro k
 induction k using Nat.strongRecOn with
 | ind k ih=>
  intro A R ω s σ n d must ts ps hk hd Rm S Rl f0 hpc rps hts htl H
  have hps:=rps.length
  rw[List.length_map] at hps
  refine codeAny_builtin a8z ?_
  refine rr (Around.under_plainId Y4 _) ?_
  show wpAny _ A.in1 (Builtin.«re.Pattern.sub.loop» ⟨_,_⟩) _ _ s
  unfold Builtin.«re.Pattern.sub.loop»
  refine wpAny_bind (a4l (P.now S) ?_)
  refine a7h rfl ?_
  dsimp only
  refine rr (Int.toNat_natCast ..) ?_
  refine wpAny_bind (a7h rfl ?_)
  show wpAny _ _ (reRunToEnd (Sre.forSearch ampCode l.toArray 1 d l.toArray.size must)) _ _ _
  have hsz:l.toArray.size=l.length:=List.size_toArray ..
  have hget:∀ i,i<l.length->l.toArray.getD i 0=l.getD i 0:=fun i hi=>by simp
  refine rr hsz ?_
  have hpush:∀ {A:Around} {E:Value->Shared->Prop} {ω:Own} {s:Shared} {ps:List Value} {v:Value} {x:List Nat} {ts:List (List Nat)} {Q:Unit->Shared->Prop},MS B0 os ω gs s->RelS ω σ->LeF ω0 ω->ω pc=some (.hid ps)->RdL ω (ts.map HV.str) ps->ts.length<=300->Rd ω (.str x) v->
   (∀ ω' s',LeS pc ω ω'->LeF ω0 ω'->MS B0 os ω' gs s'->RelS ω' σ->ω' pc=some (.hid (ps++[v]))->RdL ω' ((ts++[x]).map HV.str) (ps++[v])->Q () s')->wpAny (model prog w) A (updateSeq pc fun y=>y.push v) Q E s:=fun {A E ω s ps v x ts Q} S Rl f0 hpc rps hn rv H=>by
   have hps:=rps.length
   rw[List.length_map] at hps
   refine b2w S hpc (c6 (ad (ad (lq ln.symm) (lq hps)) hn) (by simp +arith)) fun s' S'=>H _ s' (LeS.set _) (f0.trans (LeF.set _ hpc (fun _ q=>nomatch q))) S' (Rl.set _ hpc (fun _ q=>nomatch q) (fun _ q=>nomatch q)) (Own.set_self ..) ?_
   refine rr List.map_append ?_
   have lf:LeF ω (ω.set pc (.hid (ps++[v]))):=LeF.set _ hpc (fun _ q=>nomatch q)
   exact(rps.monoF lf).append (j7 v ([]) rfl (rv.monoF lf) rfl)
  induction hF:Mine.Internal.ampF l.toArray l.length (l.length+1-d) d with
  | none=>
   have hno:=b1b (Nat.le_trans (Nat.le_succ _) (Nat.sub_le_iff_le_add'.mp (Nat.le_refl _))) hF
   refine a8q must hF ?_
   have hE:D1 l=D1 (l.take d)++l.drop d:=by
    conv=>lhs;rw[← List.take_append_drop d l]
    rw[a3c,a3q (l.drop d) (fun c hc=>?_)]
    obtain⟨i,hi,rfl⟩:=List.mem_iff_getElem.mp hc
    have hi':d+i<l.length:=by simp at hi;exact Nat.add_lt_of_lt_sub' hi
    have:=hno (d+i) (b8o) hi'
    rw[hget _ hi'] at this
    simpa [List.getD_eq_getElem?_getD,hi'] using this
   have cont:∀ {ω1:Own} {s1:Shared} {ts1:List (List Nat)} {ps1:List Value},LeS pc ω ω1->MS B0 os ω1 gs s1->RelS ω1 σ->ω1 pc=some (.hid ps1)->RdL ω1 (ts1.map HV.str) ps1->ts1.flatten=D1 l->
    wpAny (model prog w) A.in1 (do
     let joiner ← reSlice l.toArray 0 0 0
     let text ← if ((← seqItems? (.ref pc)).getD #[]).isEmpty then pure joiner else call (.builtin (if (0:Nat)==0 then "str.join" else "bytes.join")) [joiner,.ref pc]
     if false then ret (← holding [text] do newTuple [text,← mkInt n]) else ret text)
     (fun fin s'=>match fin with | .done f=>R (.ok f) s' | .again c'=>c'.quiet=true/\codeAny (model prog w) A c' R s') (fun e s'=>R (.error e) s') s1:=fun {ω1 s1 ts1 ps1} l1 S1 R1 hp1 r1 ht1=>by
    have hlen:=b3g l
    refine wpAny_bind (a3i (by simp) fun t k=>?_)
    refine o_e (S1.hold _ _ hp1) fun m ho=>?_
    refine wpAny_bind (wpAny_seqItems ho rfl ?_)
    have ej:(⟨l.toArray.extract 0 0⟩:Str)=⟨([]:List Nat).toArray⟩:=by simp
    refine rr ej ?_
    induction ts1 using List.casesOn with
    | nil=>
     obtain rfl:ps1=[]:=r1
     refine rr (if_pos (by rfl)) ?_
     refine wpAny_bind (wpAny_pure ?_)
     show wpAny _ _ (ret _) _ _ _
     refine wpAny_pure (H ω1 _ _ l1 (S1.toks k) R1 ?_)
     refine rl ht1 ?_
     exact a2y (l:=[]) (Nat.zero_le _)
    | cons x xs=>
     (refine d9 (id r1) fun v q z29 h1 h2=>?_;refine rr z29 ?_)
     refine rr (if_neg (by simp)) ?_
     refine wpAny_bind ?_
     have hsum:((x::xs).map fun t=>t.length+([]:List Nat).length).sum<=sizeLine:=by
      have:((x::xs).map fun t=>t.length+([]:List Nat).length).sum=(x::xs).flatten.length:=a0d _
      (refine rr this ?_;refine rr ht1 ?_);exact c6 (ad (ad (ad (lq ln.symm) hlen) hl) hl) (by simp +arith)
     refine wpAny_mono (a5e (K:=fun h σ'=>h=.str (D1 l)/\σ'=σ) (S1.toks k) R1 (a:=pc) (y7 _ ho rfl ⟨m,rfl⟩) r1 (G3 (x::xs)) hsum ?_) (fun v s' q=>?_) fun _ _ e=>e
     · (refine rr (F8 ..) ?_;refine rr (ht1 ..) ?_);exact⟨rfl,rfl⟩
     · obtain⟨h,ω2,σ2,l2,S2,R2,rv,rfl,rfl⟩:=q
       show wpAny _ _ (ret _) _ _ _
       exact wpAny_pure (H ω2 _ _ (l1.trans (l2.s _)) S2 R2 rv)
   dsimp only
   by_cases hdl:d<l.length
   · refine rr (if_pos hdl) ?_
     have hex:(⟨l.toArray.extract d l.length⟩:Str)=⟨(l.drop d).toArray⟩:=by
      congr 1
      apply Array.ext'
      simp[List.extract]
      exact List.take_of_length_le (by simp)
     refine wpAny_bind (a3i (by simp;exact b8n ln hl) fun t k=>?_)
     refine rr hex ?_
     refine wpAny_bind (hpush (x:=l.drop d) (S.toks k) Rl f0 hpc rps (b8u htl hd hl) (a2y (by simp;exact b8n ln hl)) fun ω1 s1 l1 f1 S1 R1 hp1 r1=>?_)
     exact cont l1 S1 R1 hp1 r1 (by (refine rr List.flatten_append ?_;refine rr hts ?_;refine rr hE ?_);simp)
   · refine rr (if_neg hdl) ?_
     refine cont (.refl _ _) S Rl hpc rps ?_
     (refine rr hts ?_;rw[List.take_of_length_le (b3e hdl)])
  | some r=>
   refine U0 (a0k hF) fun g1 g2 g3 g4=>?_
   refine a95 must hF fun sn=>?_
   have hc:∃ c,l[r]? = some c:=⟨l[r],List.getElem?_eq_getElem g2⟩
   refine o_e hc fun c hc=>?_
   have hamp:y6 c=true:=by
    rw[hget r g2,List.getD_eq_getElem?_getD,hc] at g3;exact g3
   have hmid:∀ x∈(l.take r).drop d,y6 x=false:=fun x hx=>by
    obtain⟨i,hi,rfl⟩:=List.mem_iff_getElem.mp hx
    have hi1:d+i<r:=by simp at hi;exact Nat.lt_of_lt_of_le (Nat.add_lt_of_lt_sub' hi) (Nat.min_le_left _ _)
    have:=g4 (d+i) (b8o) hi1
    rw[hget _ (b87 hi1 g2)] at this
    have hi2:d+i<l.length:=b87 hi1 g2
    simpa [List.getD_eq_getElem?_getD,hi2] using this
   have hEr:D1 (l.take r)=D1 (l.take d)++(l.take r).drop d:=by
    conv=>lhs;rw[← List.take_append_drop d (l.take r)]
    rw[a3c,a3q _ hmid,List.take_take,Nat.min_eq_left g1]
   have hEc:D1 (l.take (r+1))=D1 (l.take r)++[92,c]:=by
    have e:l.take (r+1)=l.take r++[c]:=by
     (refine rr List.take_succ ?_;refine rr hc ?_);rfl
    (refine rr (e ..) ?_;refine rr (a3c ..) ?_)
    show _++((if y6 c then [92,c] else [c])++[])=_
    refine rr hamp ?_;rfl
   dsimp only
   have cont:∀ {ω1:Own} {s1:Shared} {ts1:List (List Nat)} {ps1:List Value},LeS pc ω ω1->LeF ω0 ω1->MS B0 os ω1 gs s1->RelS ω1 σ->ω1 pc=some (.hid ps1)->RdL ω1 (ts1.map HV.str) ps1->ts1.flatten=D1 (l.take r)->ts1.length<=2*d+1->
    wpAny (model prog w) A.in1 (do
     let found ← reNewMatch (.ref pat) (.str ⟨l.toArray⟩ tk) 1 0 l.length (a0q l.toArray l.length r l.length sn)
     let item ← holding [found] (call (.ref f) [found])
     if item != .none then updateSeq pc fun y=>y.push item
     again (.builtin "re.Pattern.sub.loop" ⟨[.ref pat,.str ⟨l.toArray⟩ tk,.ref f,rawInt 1,rawInt 0,rawInt (n+1),rawInt (r+1:Nat),rawInt (r+1:Nat),.bool ((r+1)==r),.ref pc,.bool false],[]⟩))
     (fun fin s'=>match fin with | .done f=>R (.ok f) s' | .again c'=>c'.quiet=true/\codeAny (model prog w) A c' R s') (fun e s'=>R (.error e) s') s1:=fun {ω1 s1 ts1 ps1} l1 f1 S1 R1 hp1 r1 ht1 hn1=>by
    have hsl:l.length=l.toArray.size:=hsz.symm
    refine rr hsl ?_
    refine wpAny_bind (b0u fun h' k1 k2 k3 k4=>?_)
    have S2:=(S1.push { cls:=.type "tuple",data:=.seq #[rawInt r,rawInt (r+1:Nat),rawInt r,rawInt (r+1:Nat)] } (m:=.fz _) (Heap.get?_push_size _ rfl))
    have L2:=Le.new (OM.fz { cls:=.type "tuple",data:=.seq #[rawInt r,rawInt (r+1:Nat),rawInt r,rawInt (r+1:Nat)] }) S1.unused
    have R2:=R1.new (m:=OM.fz { cls:=.type "tuple",data:=.seq #[rawInt r,rawInt (r+1:Nat),rawInt r,rawInt (r+1:Nat)] }) S1.unused
    have S3:=(S2.push { cls:=.type "re.Match",data:=.fields #[.str ⟨l.toArray⟩ tk,.ref pat,rawInt 0,rawInt l.toArray.size,rawInt 1,.ref s1.heap.objs.size] } (m:=.fz _) (Heap.get?_push_size _ rfl))
    have L3:=Le.new (OM.fz { cls:=.type "re.Match",data:=.fields #[.str ⟨l.toArray⟩ tk,.ref pat,rawInt 0,rawInt l.toArray.size,rawInt 1,.ref s1.heap.objs.size] }) S2.unused
    have R3:=R2.new (m:=OM.fz { cls:=.type "re.Match",data:=.fields #[.str ⟨l.toArray⟩ tk,.ref pat,rawInt 0,rawInt l.toArray.size,rawInt 1,.ref s1.heap.objs.size] }) S2.unused
    have rm:Rd _ (.mt c) (.ref (s1.heap.objs.size+1)):=(D4 (s1.heap.objs.size+1) s1.heap.objs.size l.toArray tk (M9 (.ref pat) (rawInt l.toArray.size) rfl (y7 r ((by
     have:=Own.set_self (Own.set ω1 s1.heap.objs.size (OM.fz { cls:=.type "tuple",data:=.seq #[rawInt r,rawInt (r+1:Nat),rawInt r,rawInt (r+1:Nat)] })) (s1.heap.objs.size+1) (.fz { cls:=.type "re.Match",data:=.fields #[.str ⟨l.toArray⟩ tk,.ref pat,rawInt 0,rawInt l.toArray.size,rawInt 1,.ref s1.heap.objs.size] })
     exact this)) ((by refine rr (Own.set_ne _ _ (Nat.ne_of_lt (Nat.lt_succ_self _))) ?_;exact Own.set_self ..)) (by simpa using hc))))
    simp only[Heap.size_push] at S3 L3 R3
    rw[← k4] at S3
    have L23:=L2.trans L3
    have hp3:=L23 _ _ hp1
    have r3:=r1.mono L23
    have f3:=f1.trans L23.f
    generalize (Own.set ω1 s1.heap.objs.size _).set (s1.heap.objs.size+1) _=ω3 at S3 R3 L23 rm hp3 r3 f3
    refine wpAny_bind (wpAny_holding (j4 (hcall A.in1 _ ω3 _ σ c _ f3 ((Rm.in1).le (by decide)) S3 R3 rm) fun h ω4 σ4 v s4 l4 S4 R4 rv q=>?_))
    (refine o_a q fun z9 z10=>?_;clear q;subst z9;subst z10)
    have hp4:=l4 _ _ hp3
    (refine y5 (id rv) fun hz4 t4 z5=>?_;subst z5)
    show wpAny _ _ (updateSeq pc (fun y=>y.push _) >>= fun _=>again _) _ _ _
    refine wpAny_bind (hpush (x:=[92,c]) S4 R4 (f3.trans l4.f) hp4 (r3.mono l4) (c6 (ad (ad (ad (ad hn1 hd) hd) hl) hl) (by simp +arith)) rv fun ω5 s5 l5 f5 S5 R5 hp5 r5=>?_)
    have l15:LeS pc ω ω5:=((l1.trans (L23.s _)).trans (l4.s _)).trans l5
    refine wpAny_pure ⟨plainId_quiet Y4 _,ih (l.length-(r+1)) (hk▸Nat.sub_lt_sub_left (Nat.lt_of_le_of_lt g1 g2) (Nat.lt_succ_of_le g1)) A R ω5 s5 _ (n+1) (r+1) _ (ts1++[[92,c]]) _ rfl g2 Rm S5 R5 f5 hp5 r5 ?_ ?_ fun ω' s' v l' S' R' rv'=>H ω' s' v (l15.trans l') S' R' rv'⟩
    · (refine rr List.flatten_append ?_;refine rr ht1 ?_;refine rr hEc ?_);simp
    · simp;exact c6 (ad (ad hn1 g1) g1) (by simp +arith)
   by_cases hdr:d<r
   · refine b3k (by exact decide_eq_true hdr) ?_
     have hex:(⟨l.toArray.extract d (a0q l.toArray l.length r l.length sn).start⟩:Str)=⟨((l.take r).drop d).toArray⟩:=by
      show (⟨l.toArray.extract d r⟩:Str)=_
      congr 1
      apply Array.ext'
      simp[List.extract,List.drop_take]
     refine wpAny_bind (a3i (by simp;exact Nat.le_trans (Nat.min_le_right _ _) (Nat.le_trans (Nat.sub_le _ _) (Nat.le_trans hl (Nat.le_trans (by decide) (lq ln.symm))))) fun t k=>?_)
     show wpAny _ _ (updateSeq pc (fun y=>y.push _) >>= _) _ _ _
     refine rr hex ?_
     refine wpAny_bind (hpush (x:=(l.take r).drop d) (S.toks k) Rl f0 hpc rps (b8u htl hd hl) (a2y (by simp;exact Nat.le_trans (Nat.min_le_right _ _) (Nat.le_trans hl (Nat.le_trans (by decide) (Nat.le_trans (lq ln.symm) (Nat.le_add_right _ _)))))) fun ω1 s1 l1 f1 S1 R1 hp1 r1=>?_)
     exact cont l1 f1 S1 R1 hp1 r1 (by simp only[List.flatten_append,hts,hEr];simp) (by simp;omega)
   · have e:d=r:=(Nat.le_antisymm (c6 g1 (by simp +arith)) (c6 (Nat.le_of_not_lt hdr) (by simp +arith)))
     refine c1n (by exact decide_eq_false hdr) ?_
     exact cont (.refl _ _) f0 S Rl hpc rps (by (refine rr hts ?_;exact rr e rfl)) (c6 htl (by simp +arith))
end
end
section
open PySem.Builtin.Re
noncomputable def trW:Expr×List Stmt:=N8 (kid (stm 11) 3)
noncomputable def c4w:Stmt:=(b1m ((b1m (trW.2.getD 2 noS)).getD 0 noS)).getD 0 noS
noncomputable def brTail:List Stmt:=b1m ((n7 c4w).getD 4 noS)
noncomputable def b7i:Stmt:=brTail.getD 2 noS
noncomputable def exI (e:Expr):Expr×List Expr×Arguments×Scope×Pos×List Comprehension:=
 let d:Expr×List Expr×Arguments×Scope×Pos×List Comprehension:=(default,[],default,default,default,[])
 @Expr.casesOn (fun _=>Expr×List Expr×Arguments×Scope×Pos×List Comprehension) e (fun _ _ _=>d) (fun _ _ _=>d) (fun _ _ _ _=>d) (fun _ _ _=>d) (fun a b s p=>(b,[],a,s,p,[])) (fun _ _ _ _=>d) (fun _ _ _=>d) (fun _ _ _=>d) (fun _ _ _ _=>d) (fun _ _ _ _=>d) (fun _ _ _ _ _=>d) (fun e g s p=>(e,[],default,s,p,g)) (fun _ _=>d) (fun _ _=>d) (fun _ _=>d) (fun _ _ _ _=>d) (fun f a _ p=>(f,a,default,default,p,[])) (fun _ _ _ _=>d) (fun _ _=>d) (fun _ _ _=>d) (fun o _ p=>(o,[],default,default,p,[])) (fun _ _ _=>d) (fun _ _=>d) (fun _ _=>d) (fun _ _=>d) (fun _ _ _=>d) (fun _ _ _ _=>d)
noncomputable def T6 (e:Expr):Arguments×Expr×Scope×Pos:=let x:=exI ((exI e).2.1.headD default);(x.2.2.1,x.1,x.2.2.2.1,x.2.2.2.2.1)
noncomputable def lmA:Arguments:=(T6 (z0 b7i)).1
noncomputable def lmB:Expr:=(T6 (z0 b7i)).2.1
noncomputable def lmS:Scope:=(T6 (z0 b7i)).2.2.1
noncomputable def lmP:Pos:=(T6 (z0 b7i)).2.2.2
structure a3g (B0:Heap) (c P:Addr):Prop where
 hd:CodeHd B0 c P
 tab:∃ ps,B0.get? P=some (tabObj ps)
theorem lmD {qual:Str} {pm cv ctv:Value}:N9 { kla_fn "<lambda>" qual lmA lmB lmS [] pm cv ctv with body:=.stmts [] } [Str.ofString "_m"] []:=by
 refine⟨rfl,rfl,rfl,rfl,rfl,rfl,by trivial,?_,?_,?_⟩
 · show ∀ x∈lmS.names,x.2≠.cell
   decide +kernel
 · show ∀ x∈[Str.ofString "_m"],lmS.names.lookup x=some .local
   decide +kernel
 · refine(U4 (by decide +kernel) ?_ (by decide +kernel) ?_ ?_)
   · show lmS.names.lookup ("__debug__" : Str)≠some .globalImplicit
     decide +kernel
   · show lmS.names.lookup ("__debug__" : Str)≠some .free
     decide +kernel
   · show lmS.names.lookup ("__classdict__" : Str)≠some .free
     decide +kernel
theorem b5j (qual:Str) (pm cv ctv v:Value):bindArgs (kla_fn "<lambda>" qual lmA lmB lmS [] pm cv ctv) ⟨[v],[]⟩=pure [(Str.ofString "_m",v)]:=by
 with_unfolding_all rfl
theorem b6u {Γ:Spx}{gt:Loc}{c:Nat}{σ:St}{K:KV}(h:K (.str [92,c]) σ):evE (fun _=>false) Γ lmB (upd (fun _=>none) (Str.ofString "_m") (.mt c)) (d7 lmS gt) σ K:=by
 conv=>arg 3;whnf
 conv=>arg 4;arg 1;whnf
 repeat' walk_at "ev"
 refine b5w rfl rfl (X5 (by walk_at "nm") (j1 c rfl ?_))
 refine(j1 true rfl ?_)
 repeat' walk_at "ev"
 refine y9 (by exact Nat.le_add_left 2 16777214) ?_
 exact h
end
section
open PySem.Builtin.Re
theorem b9y:isSubtype (.type "str") (.type "bytearray")=pure false:=by kernel_rfl
theorem b1e (f x:Value):reNamed "re.Pattern.sub" "sub" ["repl", "string", "count"] 2 [f,x] []=pure [some f,some x,none]:=by
 with_unfolding_all rfl
section
variable {prog:Program}{w:World}{B0:Heap}{os:OsState}{gs:TQ}
theorem b4f {pat f:Addr} {l:List Nat} {tk:Tok} {A:Around} {E:Value->Shared->Prop} {ω:Own} {s:Shared} {σ:St} {o:Obj} {K:KV} (P:PatAt B0 pat) (hl:l.length<=100) (hf:s.heap.get? f=some o) (hfc:o.cls=.type "function")
 (hcall:∀ (A:Around) (E:Value->Shared->Prop) (ω':Own) (s:Shared) (σ:St) (c:Nat) (v:Value),LeF ω ω'->Room 2 A->MS B0 os ω' gs s->RelS ω' σ->Rd ω' (.mt c) v->wpAny (model prog w) A (call (.ref f) [v]) (PostV B0 os gs ω' fun h σ'=>h=.str [92,c]/\σ'=σ) E s)
 (Rm:Room 4 A) (S:MS B0 os ω gs s) (R:RelS ω σ) (hK:K (.str (D1 l)) σ) :
 wpAny (model prog w) A (call (.builtin "re.Pattern.sub") [.ref pat,.ref f,.str ⟨l.toArray⟩ tk]) (PostV B0 os gs ω K) E s:=by
 refine I9 ((P.now S).at') fun vs ct h1 _=>?_
 refine wpAny_call (codeAny_call_builtin slot_sub.plain b1d (slot_sub.check _ _ _ _ _ _ _ _ (j1 _ h1 rfl) (b31 _ _ _) ?_))
 refine wpAny_bind (wpAny_of_eq (b1e _ _) ?_)
 refine wpAny_bind (wpAny_pure ?_)
 refine wpAny_bind (wpAny_specialOf (j1 o hf hfc) b6v ?_)
 refine wpAny_bind (wpAny_pure ?_)
 refine wpAny_bind (wpAny_pure ?_)
 refine wpAny_bind (wpAny_holding (a4l (P.now S) ?_))
 refine b3k rfl ?_
 dsimp only[reNotHeld]
 refine wpAny_bind (wpAny_bind (wpAny_isInstance (typeIs_str _ _ _) b9y ?_))
 refine a7h rfl (wpAny_pure ?_)
 refine wpAny_bind (wpAny_newObj_type ?_ (Nat.zero_le _))
 have S₁:=S.push { cls:=.type "list",data:=.seq ([]:List Value).toArray } (m:=.hid []) ⟨0,Heap.get?_push_size _ rfl⟩
 have R₁:=R.new (m:=OM.hid []) S.unused
 refine wpAny_pure ⟨plainId_quiet Y4 _,b1t (ω0:=ω) P hl hcall _ _ _ _ _ σ 0 0 false [] [] rfl (Nat.zero_le _) Rm S₁ R₁ (Le.new (OM.hid []) S.unused).f (Own.set_self ..) rfl rfl (Nat.zero_le _) fun ω' s' v l' S' R' rv=>?_⟩
 exact⟨.str (D1 l),ω',σ,(((Le.new (OM.hid []) S.unused).s _).trans l').le S.unused,S',R',rv,hK⟩
theorem a91 {ω ω':Own}{s':Shared}{P f:Addr}{qs:List (Pos×Str)}{fo:Obj}{σ:St}(N:NewFn B0 os gs ω P qs ω' s' f fo) (h:TabI ω P qs) (R:RelS ω σ):∃ ω₂,Le ω ω₂/\MS B0 os ω₂ gs s'/\RelS ω₂ σ/\ω₂ f=some (.fz fo)/\LeF ω' ω₂:=by
 have S₂:=N.ms.turn (m:=.fz fo) N.at' rfl (show s'.heap.get? f=some _ from N.ms.hold _ _ N.at')
 exact(N6 _ (N.le.setNew _ N.new) S₂ (((N.rel (fun vs q=>by refine o_e h fun ps h=>?_;have q:=h▸q;cases q) R).set (.fz fo) N.at' (fun _ q=>nomatch q) (fun _ q=>nomatch q))) (Own.set_self ..) (LeF.set _ N.at' (fun _ q=>nomatch q)))
section
variable {mu:Pos->Bool}{Γ:Spx}{ρ:Loc}{G:GC}{σ:St}{K:KV}
theorem b61 {tw x q0:Str}{ap sq wq p:Pos}{l:List Nat}{pat c P:Addr}{qs:List (Pos×Str)}(h3:ap.endLine=p.line) (e0:ρ tw=none) (e1:G.g tw=some (.val (.ref pat))) (e2:ρ x=some (.str l)) (hl:l.length<=100) (hcd:G.cd=some (c,q0))
 (hP:∀ B0,Γ.hp B0->PatAt B0 pat/\a3g B0 c P) (hs:P≠cStatics) (hTq:(P,qs)∈Γ.tq) (hq:G2 qs) (hin:(lmP,q0++"<lambda>")∈qs) (hlv:6<=Γ.lv) (h:K (.str (D1 l)) σ) :
 evE mu Γ (.Call (.Attribute (.Name tw wq) (Str.ofString "sub") ap) [.Lambda lmA lmB lmS lmP,.Name x sq] [] p) ρ G σ K:=fun prog w B0 os gs mg mb n T X A E ω s env Rm O S R=>by
 (refine o_a X fun z421 X2=>?_;clear X;(refine M4 z421 fun z431 hhp hn=>?_;clear z421;clear X2;subst z431))
 refine o_a (hP B0 hhp) fun PA CA=>?_
 refine I9 ((PA.now S).at') fun vs ct h1 _=>?_
 refine o_a (O.cd _ _ hcd) fun hcode hqual=>?_
 refine o_e CA.tab fun ps0 t₀=>?_
 refine wpAny_Call_method (T:="re.Pattern") (id:="re.Pattern.sub") (u8 rfl) (M1 [.Lambda lmA lmB lmS lmP,.Name x sq] env rfl (Nat.le_add_left 2 18) p) (by refine rr h3 ?_;simp) c0f slot_sub b2t (B8 T O S e1 fun v r=>?_)
 (injection r with r;subst r)
 refine(A8 ((j1 _ h1 rfl)) (fun b e=>by injection e with e;subst e;exact(j1 _ h1 rfl)) ?_)
 refine rr (j2 p [.Lambda lmA lmB lmS lmP,.Name x sq] env rfl) ?_
 refine callWith_builtin (d8 _ env) (p7 (d8 _ env) (spliced_cons (kla_eval rfl ?_)))
 refine a59 T T.m S CA.hd t₀ hs hq (by refine rr hqual ?_;exact hin) (S.tq _ hTq) (clos:=[]) (by with_unfolding_all rfl) O.glob hcode fun f ctv pm cv ω₁ s₁ N hcv=>?_
 (refine K8 (a91 N (S.tq _ hTq) R) fun ω₂ l₂ S₂ R₂ z419=>?_;refine o_a z419 fun hf f₂=>?_)
 refine spliced_cons (w4 (O.mono l₂) S₂ e2 fun v r=>spliced_nil ?_)
 (refine y5 r fun hz tk z416=>?_;clear r;subst z416)
 refine U1 (b4f (o:=_) PA hl (S₂.hold _ _ hf) rfl (fun A E ω' s σ c v lf Rm' S' R' rm=>?_) (Rm.le (c6 (ad hlv hn) (by simp +arith))) S₂ R₂ h) l₂
 have hcd':=(hcv.monoF f₂).monoF lf
 (refine y1 hcd' fun cc oc cvs t z414 g1 g2 g3=>?_;clear hcd';clear z419 hcv N;subst z414)
 refine b4e (mu:=fun _=>false) (n:=0) (Γ:=sp0 _) (ρf:=fun _=>none) (gt:=fun _=>none) (ps:=[Str.ofString "_m"]) (hs:=[.mt c]) T j8 lmD rfl (fun x h e=>c7 e) ((Rm').le (by decide)) S' R' (j7 v ([]) rfl rm rfl) rfl (BindsTo.of_eq (b5j _ _ _ _ _)) (S'.hold _ _ (lf _ _ hf)) rfl (C6 cc oc cvs t rfl (S'.hold _ _ g1) g2 g3) (FreeOk.none _ _ _) ?_
 exact b6u (y7 _ rfl rfl o0)
end
end
end
section
noncomputable def c4t (C:Addr) (fp wr:List Addr) (n₀:Nat) (F:Nat->Value->Prop):Protocol:=fun m s0 v s kap=>
 F (n₀-1-m) v/\GenSince C wr s0 s/\∀ s'':Shared,(∀ b∈C::fp,∀ o,s.heap.get? b=some o->s''.heap.get? b=some o)->0<s''.toks->kap (.send .none) s''
section
variable {prog:Program}{w:World}{A:Around}
theorem segT {elt iter:Expr}{x:Str}{px:Pos}{scope:Scope}{pos:Pos}{I:Addr}{fp wr:List Addr}{n₀:Nat}{P:Nat->Value->Prop}{St0:Nat->Heap->Prop}{cenv:Env}
 (hh:A.handled=none) (W0:∀ A':Around,A'.handled=none->Walks prog w A' I fp wr n₀ P St0) (F:Nat->Value->Prop)
 (hx:cenv.kindOf x=some .local) (hp:(cenv.scope.kind==.class||(cenv.scope.kind==.module&&cenv.locals != cenv.globals))=false)
 (hco:cenv.scope.isCoroutine=false) (hCf:cenv.locals ∉ fp)
 (hq:∀ (A':Around) E' i v (s₂:Shared) m₂,A'.handled=none->P i v->s₂.heap.Ns cenv.locals m₂->m₂ x=some v->0<s₂.toks->wpAny (model prog w) A' (eval elt cenv) (fun y s₃=>F i y/\PySem.Keeps s₂ s₃) E' s₂) :
 ∀ (k i:Nat) (s0 s:Shared) (m:Str->Option Value),n₀-i=k->i<=n₀->St0 i s.heap->s.heap.Ns cenv.locals m->GenSince cenv.locals wr s0 s->0<s.toks->
  Seg (model prog w) A (fun n s0 r s₁=>r=.ok .next/\(n=0/\GenSince cenv.locals wr s0 s₁)) (c4t cenv.locals fp wr n₀ F) k s0
   (.compLoop (.GeneratorExp elt [⟨.Name x px,iter,[],0⟩] scope pos) 0 (.ref I) .none cenv)
   ((model prog w).den (.compLoop (.GeneratorExp elt [⟨.Name x px,iter,[],0⟩] scope pos) 0 (.ref I) .none cenv)) [] s:=by
 have hh':(A.over (.compLoop (.GeneratorExp elt [⟨.Name x px,iter,[],0⟩] scope pos) 0 (.ref I) .none cenv) []).handled=none:=hh
 intro k
 induction k with
 | zero=>
  intro i s0 s m hk hi hst hn hsince ht
  obtain rfl:i=n₀:=(Nat.le_antisymm hi (Nat.le_of_sub_eq_zero hk))
  show Seg _ A _ _ _ s0 _ ((compTurn (.GeneratorExp elt [⟨.Name x px,iter,[],0⟩] scope pos) 0 (.ref I) .none cenv).onRaise (leaving cenv)) [] s
  (refine rr (compTurn_gen ..) ?_;refine rr (Sem.onRaise_eq_wrap ..) ?_)
  refine seg_bind_wrap (wpAny_standAt ?_)
  refine seg_bind_wrap ((W0 _ hh').done s _ _ hst fun h' tk hk'=>?_)
  exact seg_end (.ok .next) (A8 rfl rfl (hsince.step fun b o _ hw e=>hk' b o hw e))
 | succ k ih=>
  intro i s0 s m hk hi hst hn hsince ht
  have hlt:i<n₀:=(Nat.sub_pos_iff_lt.mp (Nat.lt_of_lt_of_eq (Nat.succ_pos _) hk.symm))
  show Seg _ A _ _ _ s0 _ ((compTurn (.GeneratorExp elt [⟨.Name x px,iter,[],0⟩] scope pos) 0 (.ref I) .none cenv).onRaise (leaving cenv)) [] s
  (refine rr (compTurn_gen ..) ?_;refine rr (Sem.onRaise_eq_wrap ..) ?_)
  refine seg_bind_wrap (wpAny_standAt ?_)
  refine seg_bind_wrap (K2 ((W0 _ hh').item i s _ _ hlt hst fun v h₁ tk1 hPv hst1 hk₁ htk=>?_))
  refine seg_bind_wrap (wpAny_of_eq (rfl:letOwnedTupleGo (.Name x px) (.ref I) v=pure ()) ?_)
  refine seg_bind_wrap (K2 (wpAny_assign_Name (wpAny_storeName_local hx (hn.at' fun o e=>hk₁ _ o (fun h=>hCf ((W0 A hh).sub _ h)) e) (fun h₂ hn₂ hs₂ htk2=>?_) hp)))
  refine seg_bind_wrap (wpAny_of_eq (a:=true) rfl ?_)
  simp only[(fun v=>by simp only[yieldOut,hco,Bool.false_eq_true,if_false]:∀ v,yieldOut cenv v=yieldValue v)]
  (refine rr (Sem.bind_eq_wrap' ..) ?_;refine rr (Sem.bind_eq_wrap' ..) ?_;refine rr (Sem.wrap_wrap ..) ?_;refine rr (Sem.wrap_wrap ..) ?_)
  refine seg_wrap (wpAny_mono (hq _ _ i v _ _ hh' hPv hn₂ (by simp) (Nat.lt_of_lt_of_le (Nat.lt_of_lt_of_le ht htk) htk2)) (fun y s₄ h₄=>?_) fun _ _ e=>e)
  (refine G0 h₄ fun hFy h₄ tk4 z347 hk4=>?_;refine rr z347 ?_)
  refine seg_at (seg_yield rfl rfl rfl (A8 ?_ (hsince.step fun b o hbC hbw e=>hk4 b o ((fun b o hbC hbw e=>hs₂.extBut b o hbC (hk₁ b o hbw e)) b o hbC hbw e)) (fun s'' hal ht''=>?_)))
  · have:n₀-1-k=i:=((Nat.sub_sub _ 1 _).trans ((congrArg (_ - ·) ((Nat.add_comm 1 _).trans hk.symm)).trans (Nat.sub_sub_self (Nat.le_of_lt (Nat.sub_pos_iff_lt.mp (Nat.lt_of_lt_of_eq (Nat.succ_pos _) hk.symm))))))
    refine rr this ?_;exact hFy
  refine seg_again rfl (ih (i+1) s'' s'' _ (b9a hk) hlt ((W0 A hh).frame _ _ _ ((W0 A hh).frame _ _ _ hst1 fun b hb o e=>hs₂.extBut b o (fun h=>hCf (h▸hb)) e) fun b hb o e=>hal b (List.mem_cons_of_mem _ hb) o (hk4 b o e))
   ((hn₂.keeps hk4).at' fun o e=>hal _ (List.mem_cons_self ..) o e) (GenSince.refl _ _ _) ht'')
end
end
section
noncomputable def b1w (prog:Program) (w:World) (A:Around) (a:Addr) (g:Nat) (C:Addr) (fp wr:List Addr) (n₀:Nat) (F:Nat->Value->Prop) (j:Nat) (s:Shared):Prop:=
 s.heap.IsGen a g/\s.heap.NoLimit/\0<s.toks/\∃ gs,s.gens[g]? = some gs/\∀ s'':Shared,(∀ b∈C::fp,∀ o,s.heap.get? b=some o->s''.heap.get? b=some o)->0<s''.toks->
  gs.Goes (model prog w) A.in1 (fun n s0 r s₁=>r=.ok .next/\(n=0/\GenSince C wr s0 s₁)) (c4t C fp wr n₀ F) (n₀-j) (.send .none) s''
section
variable {prog:Program}{w:World}{A:Around}
theorem c1b (hh:A.handled=none) (a:Addr) (g:Nat) (C:Addr) (fp wr:List Addr) (n₀:Nat) (F:Nat->Value->Prop) (haC:a≠C) (haf:a ∉ fp) (hsub:∀ b∈wr,b∈fp)
 (hroom:A.depth<recursionLimit) (hcs:cStatics∈fp) (hcC:cStatics≠C) (hcw:cStatics ∉ wr) :
 WalksS prog w A a (a::C::fp) (C::wr) (GenOnlyQ g) n₀ F (b1w prog w A a g C fp wr n₀ F) where
 sub:=fun b hb=>by
  rcases List.mem_cons.mp hb with rfl | hb
  · simp
  · exact List.mem_cons_of_mem _ (List.mem_cons_of_mem _ (hsub b hb))
 grefl:=fun _=>.inl rfl
 gtrans:=fun _ _ _ x y=>x.trans y
 frame:=fun j s h' tk st htk hk=>
  (Q5 (let ⟨o,nm,qn,ho,r⟩:=st.1;(I5 o nm qn (hk a (List.mem_cons_self ..) o ho) r)) ((let ⟨mc,hns,hnn⟩:=st.2.1;(j1 mc (hns.at' fun o e=>hk cStatics (List.mem_cons_of_mem _ (List.mem_cons_of_mem _ hcs)) o e) hnn))) (Nat.lt_of_lt_of_le st.2.2.1 htk) (let ⟨gs,hgs,hgo⟩:=st.2.2.2;(j1 gs hgs (fun s'' hal=>hgo s'' fun b hb o e=>hal b hb o (hk b (List.mem_cons_of_mem _ hb) o e)))))
 item:=fun j s Q E hj st hQ=>by
  (refine U0 st fun hg hl ht z251=>?_;refine c9 z251 fun gs hgs hgo=>?_)
  obtain⟨m,hm⟩:∃ m,n₀-j=m+1:=⟨n₀-j-1,((Nat.sub_add_cancel (Nat.sub_pos_of_lt hj)).symm)⟩
  rw[hm] at hgo
  refine K2 (wpAny_pyNext_genexpQ (P:=fun n s0 s₁=>n=0/\GenSince C wr s0 s₁) hh hl hroom hg hgs (hgo _ (fun _ _ _ e=>e) ht) (fun v s₁ gs' hb hv=>?_) (fun s₁ hp h' hk=>?_))
  · (refine M4 hv fun hF z250 hkap=>?_;clear hv;(refine I9 z250 fun h₁ tk1 z264 hk₁=>?_;clear z250;subst z264))
    have hidx:n₀-1-(m+1-1)=j:=((Nat.sub_sub _ 1 _).trans ((congrArg (_ - ·) ((Nat.add_comm 1 _).trans hm.symm)).trans (Nat.sub_sub_self (Nat.le_of_lt (Nat.sub_pos_iff_lt.mp (Nat.lt_of_lt_of_eq (Nat.succ_pos _) hm.symm))))))
    rw[hidx] at hF
    intro htk
    refine hQ v _ hF (Q5 (let ⟨o,nm,qn,ho,r⟩:=hg;(I5 o nm qn (hk₁ a o haC (fun h=>haf (hsub a h)) ho) r)) ((let ⟨mc,hns,hnn⟩:=hl;(j1 mc (hns.at' fun o e=>hk₁ cStatics o hcC hcw e) hnn))) (Nat.lt_of_lt_of_le ht htk) ⟨gs',setGen_self (gs:=.running) (setGen_self hgs),fun s'' hal ht''=>?_⟩)
     ⟨fun b o hb e=>hk₁ b o (fun h=>hb (h▸List.mem_cons_self ..)) (fun h=>hb (List.mem_cons_of_mem _ h)) e,.of ((GenOnly.setGen s g .running).trans (GenOnly.setGen _ g gs')) (setGen_self (gs:=.running) (setGen_self hgs)) hb,rfl,rfl,htk⟩
    refine rr (b9a hm) ?_
    exact hkap s'' hal ht''
  · exact absurd hp.1 (Nat.succ_ne_zero m)
 done:=fun s Q E st hQ=>by
  (refine U0 st fun hg hl ht z247=>?_;refine c9 z247 fun gs hgs hgo=>?_)
  rw[Nat.sub_self] at hgo
  refine K2 (wpAny_pyNext_genexpQ (P:=fun n s0 s₁=>n=0/\GenSince C wr s0 s₁) hh hl hroom hg hgs (hgo _ (fun _ _ _ e=>e) ht) (fun v s₁ gs' hb hv=>?_) (fun s₁ hp h' hk=>?_))
  · (refine M4 hv fun _ z246 hkap=>?_;clear hv;(refine I9 z246 fun h₁ tk1 z260 _=>?_;clear z246;subst z260))
    intro htk
    exact False.elim (hkap { s with heap:=h₁,toks:=tk1+1 } (fun _ _ _ e=>e) (Nat.succ_pos _))
  · (refine G0 hp fun _ h₁ tk1 z242 hk₁=>?_;clear hp;subst z242)
    intro htk
    exact hQ _ ⟨fun b o hb e=>hk b o (hk₁ b o (fun h=>hb (h▸List.mem_cons_self ..)) (fun h=>hb (List.mem_cons_of_mem _ h)) e),.of ((GenOnly.setGen s g .running).trans (GenOnly.setGen _ g .finished)) (setGen_self (gs:=.running) (setGen_self hgs)) rfl,rfl,rfl,htk⟩
 self:=fun _ _ _ _ st hQ=>wpAny_pyIter_gen st.1 hQ
theorem c0r {elt iter:Expr}{x:Str}{px:Pos}{scope:Scope}{pos:Pos}{I a:Addr}{g:Nat}{fp wr:List Addr}{n₀:Nat}{P:Nat->Value->Prop}{St0:Nat->Heap->Prop}{cenv:Env}
 (hh:A.handled=none) (W0:∀ A':Around,A'.handled=none->Walks prog w A' I fp wr n₀ P St0) (F:Nat->Value->Prop)
 (hx:cenv.kindOf x=some .local) (hp:(cenv.scope.kind==.class||(cenv.scope.kind==.module&&cenv.locals != cenv.globals))=false)
 (hco:cenv.scope.isCoroutine=false) (hCf:cenv.locals ∉ fp){s:Shared}{m:Str->Option Value}
 (hq:∀ (A':Around) E' i v (s₂:Shared) m₂,A'.handled=none->P i v->s₂.heap.Ns cenv.locals m₂->m₂ x=some v->0<s₂.toks->wpAny (model prog w) A' (eval elt cenv) (fun y s₃=>F i y/\PySem.Keeps s₂ s₃) E' s₂)
 (hg:s.heap.IsGen a g) (hgs:s.gens[g]? = some (.fresh (.compStart (.GeneratorExp elt [⟨.Name x px,iter,[],0⟩] scope pos) 0 (.ref I) .none cenv)))
 (hst:St0 0 s.heap) (hn:s.heap.Ns cenv.locals m) (hl:s.heap.NoLimit) (ht:0<s.toks):b1w prog w A a g cenv.locals fp wr n₀ F 0 s:=
 (Q5 hg hl ht ⟨_,hgs,fun s'' hal ht''=>by
  have hst'':St0 0 s''.heap:=(W0 A hh).frame _ _ _ hst fun b hb o e=>hal b (List.mem_cons_of_mem _ hb) o e
  have loop:=segT (A:=A.in1) (iter:=iter) (px:=px) (scope:=scope) (pos:=pos) hh W0 F hx hp hco hCf hq n₀ 0 s'' s'' m (Nat.sub_zero _) (Nat.zero_le _) hst'' (hn.at' fun o e=>hal _ (List.mem_cons_self ..) o e) (GenSince.refl _ _ _) ht''
  refine⟨rfl,?_⟩
  simp only[Nat.sub_zero]
  have hh':((A.in1).over (.compStart (.GeneratorExp elt [⟨.Name x px,iter,[],0⟩] scope pos) 0 (.ref I) .none cenv) []).handled=none:=hh
  show Seg _ A.in1 _ _ _ s'' _ ((compStart (.GeneratorExp elt [⟨.Name x px,iter,[],0⟩] scope pos) 0 (.ref I) .none cenv).onRaise (leaving cenv)) [] s''
  refine rr (Sem.onRaise_eq_wrap ..) ?_
  refine seg_bind_wrap (wpAny_askSetting ?_)
  refine ie rfl (fun _=>?_) fun _=>?_
  · exact seg_again rfl loop
  · refine seg_bind_wrap (wpAny_rule ?_)
    exact seg_bind_wrap (wpAny_standAt (seg_bind_wrap ((W0 _ hh').self 0 s'' _ _ hst'' (seg_again rfl loop))))⟩)
end
end
section
section
variable {B0:Heap}{os:OsState}{gs:TQ}{ω:Own}{s:Shared}{mg mb:Str->Option Value}{M:Model}{A:Around}{E:Value->Shared->Prop}
theorem MS.moved (S:MS B0 os ω gs s){wr:List Addr}{s':Shared}(k:∀ b o,b ∉ wr->s.heap.get? b=some o->s'.heap.get? b=some o) (h1:∀ b∈wr,ω b=none) (h2:∀ b∈wr,B0.objs.size<=b) (hg:PyProof.Rows.AllBare s'.gens) (ho:s'.os=s.os):MS B0 os ω gs s':=by
 refine⟨fun a m e=>?_,?_,S.lo,hg,ho.trans S.os,S.last,S.tabs,S.tq⟩
 · by_cases ha:a∈wr
   · rw[h1 a ha] at e;exact c7 e
   · exact(S.hold a m e).keep fun ob x=>k a ob ha x
 · have ne:∀ b o,B0.get? b=some o->b ∉ wr:=fun b o e q=>Nat.lt_irrefl _ (Nat.lt_of_lt_of_le (Heap.lt_size e) (h2 b q))
   refine⟨fun b o e=>?_,fun b o e=>let ⟨o',ho'⟩:=S.old.there b o e;⟨o',k b o' (ne b o e) ho'⟩⟩
   rcases S.old.old b o e with x | ⟨t,hc,vs,more,hv,x⟩ | ⟨rfl,hc,⟨o',es,n,ho',r⟩,z⟩
   · exact .inl (k b _ (ne b o e) x)
   · exact .inr (.inl ⟨t,hc,vs,more,hv,k b _ (ne b o e) x⟩)
   · exact .inr (.inr (Q5 rfl hc ((I5 o' es n ((k _ _ (ne _ o e) ho')) r)) (fun key=>by refine rr (OldK.staticOf_congr ((k _ _ (ne _ o e) ho').trans ho'.symm) key) ?_;exact z key)))
theorem b43 {Q:Value->Shared->Prop}{env:Env}{c P:Addr}{ps0:Array Value}{pos:Pos}{qual:Str}{scope:Scope}{qs:List (Pos×Str)}(S:MS B0 os ω gs s) (C:CodeHd B0 c P) (t₀:B0.get? P=some (tabObj ps0)) (hs:P≠cStatics) (hq:G2 qs) (hin:(pos,qual)∈qs) (I:TabI ω P qs) (hcode:env.code=.ref c)
 (H:∀ code ω' s',Le ω ω'->(∀ a vs,ω a=some (.lst vs)->ω' a=some (.lst vs))->(∀ b,b<s.heap.objs.size->ω b=none->ω' b=none)->MS B0 os ω' gs s'->s'.gens=s.gens->s'.os=s.os->s.heap.objs.size<=s'.heap.objs.size->(∀ b o,ω b=none->s.heap.get? b=some o->s'.heap.get? b=some o)->Q code s'):wpAny M A (genexprCode env pos qual scope) Q E s:=by
 (refine o_e I fun ps eP=>?_;clear I)
 refine o_a (S.tabs _ _ _ eP) fun ht hI=>?_
 have hp:=S.hold _ _ eP
 have C':=P6 S C
 rcases hI _ hin with hnf | ⟨cv,hf,hcv⟩
 · refine wpAny_genexprCodeX hcode (C'.code hp ht) (C'.tab hp) hnf fun c' h' tk hx hge hlt _ hrec htb _=>?_
   refine y1 hrec fun c₂ oc vs t e2 hoc hd hv=>?_
   (injection e2 with e2;subst e2)
   have hcn:ω c'=none:=by
    induction q:ω c' with
    | none=>rfl
    | some m=>exact absurd (S.hold _ _ q).lt (Nat.not_lt.mpr hge)
   refine H _ _ _ ((Le.tab eP).trans (Le.new (.fz oc) (show (ω.set P (.tab qs (ps++#[rawInt pos.line,rawInt pos.col,.ref c']))) c'=none from by refine rr (Own.set_ne _ _ (fun q=>by clear htb hx C' hp hs t₀;subst q;rw[hcn] at eP;exact c7 eP)) ?_;exact hcn))) (fun a vs e=>?_) (fun b hb e=>?_) (S.table C t₀ eP hx htb.2 hs hcn hoc (a6o hq hin (LeF.set' _ (fun o q=>by rw[hcn] at q;exact c7 q)) (S.tabs P qs ps eP) (C6 c' oc vs t rfl (Own.set_self ..) hd hv)) tk) rfl rfl (Nat.le_of_lt (Nat.lt_of_le_of_lt hge hlt)) fun b o e eo=>?_
   · (refine rr (Own.set_ne _ _ (fun q=>by rw[q,hcn] at e;exact c7 e)) ?_;refine rr (Own.set_ne _ _ (fun q=>by rw[q] at e;rw[e] at eP;exact absurd eP nofun)) ?_);exact e
   · (refine rr (Own.set_ne _ _ (fun q=>by cases q;exact Nat.lt_irrefl _ (Nat.lt_of_lt_of_le hb hge))) ?_;refine rr (Own.set_ne _ _ (fun q=>by rw[q,eP] at e;exact c7 e.symm)) ?_);exact e
   · exact hx b o (fun q=>by rw[q,eP] at e;exact c7 e.symm) eo
 · refine wpAny_genexprCode_hit hcode (C'.code hp ht) hf ?_
   exact H cv ω s (.refl _) (fun _ _ e=>e) (fun _ _ e=>e) S rfl rfl (Nat.le_refl _) fun _ _ _ e=>e
end
noncomputable def gjS:Stmt:=((b1m (brTail.getD 1 noS)).getLast?).getD noS
noncomputable def c03 (e:Expr):Expr×Pos×Str×Expr×Expr×Scope×Pos:=let c:=exI e;let x:=exI (c.2.1.headD default);(x.1,x.2.2.2.2.1,default,(x.2.2.2.2.2.headD ⟨default,default,[],0⟩).iter,(exI c.1).1,x.2.2.2.1,c.2.2.2.2.1)
noncomputable def a6y:Expr:=(c03 (z0 gjS)).1
noncomputable def gjP:Pos:=(c03 (z0 gjS)).2.1
noncomputable def gjSc:Scope:=(c03 (z0 gjS)).2.2.2.2.2.1
noncomputable def chR (l:List Nat):Str:=Txt.replace (Txt.replace ⟨l.toArray⟩ (Str.ofString "\\") (Str.ofString "\\\\")) (Str.ofString "-") (Str.ofString "\\-")
noncomputable def chB (l:List Nat):Bool:=chR l==⟨(l.flatMap P4).toArray⟩&&decide ((Txt.replace (⟨l.toArray⟩:Str) (Str.ofString "\\") (Str.ofString "\\\\")).length<=100)&&decide (l.length<=10)
end
section
theorem b1n (sep:Str):∀ (l:List Str) (n:Nat),l.toArray.foldl (· + ·.length+sep.length) n=n+(l.map fun x=>x.length+sep.length).sum:=by
 intro l
 induction l with
 | nil=>intro n;rfl
 | cons x l ih=>
  intro n
  have:=ih (n+x.length+sep.length)
  simp only[List.foldl_toArray',List.foldl_cons,List.map_cons,List.sum_cons,List.size_toArray] at this ⊢
  simp only[this]
  exact b85
section
variable {prog:Program}{w:World}{A:Around}{E:Value->Shared->Prop}{s:Shared}
theorem c14 {cenv:Env}{m:Str->Option Value}{l:List Nat}{t:Tok}(hk:cenv.scope.kind=.function) (hx:cenv.kindOf (Str.ofString "s")=some .local) (hn:s.heap.Ns cenv.locals m) (hm:m (Str.ofString "s")=some (.str ⟨l.toArray⟩ t)) (ht:0<s.toks) (hb:chB l=true) :
 wpAny (model prog w) A (eval a6y cenv) (fun y s₃=>(∃ t,y=.str ⟨(l.flatMap P4).toArray⟩ t)/\PySem.Keeps s s₃) E s:=by
 have hb2:=Bool.and_eq_true_iff.mp (Bool.and_eq_true_iff.mp hb).1
 conv=>arg 3;arg 1;whnf
 refine wpAny_Call_method (T:="str") (id:="str.replace") (by with_unfolding_all rfl) (M1 _ cenv (by with_unfolding_all rfl) (by with_unfolding_all decide) _) (by with_unfolding_all rfl) F.plainAttrs_str F.slot_str_replace F.type_str_replace ?_
 refine wpAny_Call_method (T:="str") (id:="str.replace") (by with_unfolding_all rfl) (M1 _ cenv (by with_unfolding_all rfl) (by with_unfolding_all decide) _) (by with_unfolding_all rfl) F.plainAttrs_str F.slot_str_replace F.type_str_replace ?_
 refine wpAny_Name (wpAny_loadName_local hk hx hn hm ?_) (by with_unfolding_all decide +kernel)
 refine(A8 (typeIs_str _ _ _) (fun a e=>(by contradiction)) ?_)
 refine rr (j2 _ _ cenv (by with_unfolding_all rfl)) ?_
 refine callWith_builtin (d8 _ cenv) (p7 (d8 _ cenv) (spliced_cons (wpAny_Constant_str (spliced_cons (wpAny_Constant_str (spliced_nil ?_))))))
 refine K2 (SC.replace (by exact b86 ht) (by exact c3u) (by exact b80) (by with_unfolding_all decide +kernel) (by
  exact c59 (show l.length<=10 from by simpa using (Bool.and_eq_true_iff.mp hb).2)) fun t' k hk'=>?_)
 refine(A8 (typeIs_str _ _ _) (fun a e=>(by contradiction)) ?_)
 refine rr (j2 _ _ cenv (by with_unfolding_all rfl)) ?_
 refine callWith_builtin (d8 _ cenv) (p7 (d8 _ cenv) (spliced_cons (wpAny_Constant_str (spliced_cons (wpAny_Constant_str (spliced_nil ?_))))))
 refine SC.replace (by exact b86 (Nat.lt_of_lt_of_le (by exact(by simp +arith)) hk')) (by exact c3u) (by exact b80) (by with_unfolding_all decide +kernel) (by
  exact c1u (show (Txt.replace (⟨l.toArray⟩:Str) (Str.ofString "\\") (Str.ofString "\\\\")).length<=100 from by simpa using hb2.2)) fun t'' k'=>?_
 exact(u5 ⟨t'',by refine rl (show chR l=⟨(l.flatMap P4).toArray⟩ from by simpa using hb2.1) ?_;rfl⟩ _ _ rfl (fun _ _ e=>e))
end
end
section
noncomputable def chJ (ls:List (List Nat)):List Nat:=[45].intercalate (ls.map fun l=>l.flatMap P4)
theorem b4l:gjSc.isCoroutine=false/\gjSc.kind=.function/\(∀ y∈gjSc.names,y.2≠.cell)/\gjSc.names.lookup (".0" : Str)=some NameKind.local/\gjSc.names.lookup (Str.ofString "s")=some NameKind.local:=by
 refine(U4 (by with_unfolding_all rfl) (by with_unfolding_all rfl) ?_ (by with_unfolding_all rfl) (by with_unfolding_all rfl))
 with_unfolding_all decide +kernel
theorem b7h (env:Env):closureFor gjSc env=pure []:=by with_unfolding_all rfl
section
variable {mu:Pos->Bool}{Γ:Spx}{ρ:Loc}{G:GC}{σ:St}{K:KV}
theorem b5f {y q0 : Str} {ap cp sp px yp : Pos} {k : Nat} {ac c P : Addr} {qs : List (Pos × Str)} {ls : List (List Nat)} (h3 : ap.endLine = cp.line) (e2 : ρ y = some (.obj ac)) (hls : σ ac = some (ls.map .str)) (hb : ∀ l ∈ ls, chB l = true) (hn : ls.length <= 20) (hcd : G.cd = some (c, q0))
 (hP : ∀ B0, Γ.hp B0 -> a3g B0 c P) (hs : P ≠ cStatics) (hTq : (P, qs) ∈ Γ.tq) (hq : G2 qs) (hin : (gjP, q0 ++ "<genexpr>") ∈ qs) (h : K (.str (chJ ls)) σ) :
 evE mu Γ (.Call (.Attribute (.Constant (.str (Str.ofString "-")) k sp) (Str.ofString "join") ap) [.GeneratorExp a6y [⟨.Name (Str.ofString "s") px, .Name y yp, [], 0⟩] gjSc gjP] [] cp) ρ G σ K := fun prog w B0 os gs mg mb n T X A E ω s env Rm O S R => by
 (refine o_a X fun z148 X2 => ?_; (refine M4 z148 fun z9 hhp _ => ?_; subst z9))
 have CA := hP B0 hhp
 refine o_a (O.cd _ _ hcd) fun hcode hqual => ?_
 refine o_e CA.tab fun ps0 t₀ => ?_
 have hTI : TabI ω P qs := S.tq _ hTq
 refine D9 (R ac _ hls) fun hz vs h1 h2 => ?_
 refine Q8 b4l fun g1 g2 g3 g4 g5 => ?_
 have TM := T.m
 refine wpAny_Call_method (T := "str") (id := "str.join") (u8 rfl) (M1 [.GeneratorExp a6y [⟨.Name (Str.ofString "s") px, .Name y yp, [], 0⟩] gjSc gjP] env rfl (Nat.le_add_left 1 19) cp) (by refine rr h3 ?_; simp) F.plainAttrs_str F.slot_str_join F.type_str_join (wpAny_Constant_str ?_)
 refine (A8 (typeIs_str _ _ _) (fun a e => (by contradiction)) ?_)
 refine rr (j2 cp _ env rfl) ?_
 refine callWith_builtin (d8 _ env) (p7 (d8 _ env) (spliced_cons ?_))
 refine wpAny_GeneratorExp_make g1 (b7h env) g3 g4 g2 Rm.lim (w4 O (S.toks (s.toks + 1)) e2 fun v r => ?_) (fun _ => rfl)
 obtain rfl : v = .ref ac := by simpa [Rd] using r
 refine o_e (S.hold _ _ h1) fun nl hol => ?_
 have hl : s.heap.IsList ac vs.toArray := (y7 _ hol rfl ⟨nl, rfl⟩)
 refine wpAny_pyIter_list hl ?_
 have S₂ := (S.toks (s.toks + 1)).keeps (h' := s.heap.push { cls := .type "list_iterator", data := .fields #[.ref ac, .int 0 0] }) (fun b o e => Heap.get?_push_of_some _ e) (s.toks + 1)
 have hIn : ω s.heap.objs.size = none := S.unused
 have hIsz : B0.objs.size <= s.heap.objs.size := S.size
 have hIo : (s.heap.push { cls := .type "list_iterator", data := .fields #[.ref ac, .int 0 0] }).get? s.heap.objs.size = some { cls := .type "list_iterator", data := .fields #[.ref ac, .int 0 0] } := Heap.get?_push_size _ rfl
 have hIlt : s.heap.objs.size < (s.heap.push { cls := .type "list_iterator", data := .fields #[.ref ac, .int 0 0] }).objs.size := by refine rr (Heap.size_push ..) ?_; exact Nat.lt_succ_self _
 have hac : ac ≠ s.heap.objs.size := fun q => by rw [q] at h1; rw [h1] at hIn; exact c7 hIn.symm
 refine ⟨T.lim S₂, ?_⟩
 refine b43 S₂ CA.hd t₀ hs hq (by refine rr hqual ?_; exact hin) hTI hcode fun code ω₃ s₃ l₃ o₃ n₃ S₃ ge3 os3 sz3 k₃ => ?_
 refine o_e (S₃.tq _ hTq) fun ps eP => ?_
 (refine o_a (a29 T TM S₃ (S₃.hold _ _ eP)) fun z150 hgP => ?_; (refine H9 z150 fun bm ob b1 b2 b3 b4 z15 => ?_; refine U0 z15 fun b5 b6 b7 b8 => ?_))
 refine O.glob ▸ ?_
 refine wpAny_builtinsFor (T.g.now S₃) b1 b2 b5 b6 b7 b8 ?_
 intro h' hns hsb
 have hz' : h'.objs.size = s₃.heap.objs.size + 1 := hsb.1.trans (Heap.size_push ..)
 have hCn : ω₃ s₃.heap.objs.size = none := S₃.unused
 have hIC : s.heap.objs.size < s₃.heap.objs.size := Nat.lt_of_lt_of_le hIlt sz3
 have kp : ∀ (o' : Obj) b o, s₃.heap.get? b = some o -> (h'.push o').get? b = some o := fun o' b o e => Heap.get?_push_of_some _ ((hsb.2 b (Nat.ne_of_lt (Heap.lt_size e))).trans (Heap.get?_push_of_some _ e))
 have hst0 : s₃.heap.IsListIter s.heap.objs.size ac 0 ∧ s₃.heap.IsList ac vs.toArray := by
  refine o_e (S₃.hold _ _ (o₃ _ _ h1)) fun nl' ho' => ?_
  exact ⟨(y7 _ (k₃ _ _ hIn hIo) rfl rfl), (y7 _ ho' rfl ⟨nl', rfl⟩)⟩
 have hcs : cStatics < B0.objs.size := by
  refine c9 T.st fun mc hns' _ => ?_
  exact hns'.lt
 refine spliced_nil ?_
 generalize hgenE : genEnv gjSc [] s₃.heap.objs.size code builtinsNs env = cenv
 have hcl : cenv.locals = s₃.heap.objs.size := by refine rl hgenE ?_; rfl
 have hck : cenv.scope.kind = .function := by refine rl hgenE ?_; exact g2
 have hcx : cenv.kindOf (Str.ofString "s") = some .local := by refine rl hgenE ?_; exact g5
 have hcco : cenv.scope.isCoroutine = false := by refine rl hgenE ?_; exact g1
 let gobj : Obj := { cls := .type "generator", data := .fields #[.int s₃.gens.size 0, .str "<genexpr>" (s₃.toks + 1), .str (env.qual ++ "<genexpr>") (s₃.toks + 1 + 1)] }
 let s₅ : Shared := { s₃ with gens := s₃.gens.push (.fresh (.compStart (.GeneratorExp a6y [⟨.Name (Str.ofString "s") px, .Name y yp, [], 0⟩] gjSc gjP) 0 (.ref s.heap.objs.size) .none cenv)), toks := s₃.toks + 1 + 1 + 1, heap := h'.push gobj }
 have S₅ : MS B0 os ω₃ Γ.tq s₅ := S₃.moved (wr := []) (s' := s₅) (fun b o _ e => kp gobj b o e) (fun _ h => nomatch h) (fun _ h => nomatch h) (S₃.gens.push rfl) rfl
 have hfp : ∀ b ∈ [cStatics, s.heap.objs.size, ac], b < s₃.heap.objs.size := by
  intro b hb
  simp only [List.mem_cons, List.not_mem_nil, or_false] at hb
  rcases hb with rfl | rfl | rfl
  · exact Nat.lt_of_lt_of_le hcs S₃.size
  · exact hIC
  · exact (S₃.hold _ _ (o₃ _ _ h1)).lt
 have hIcs : s.heap.objs.size ≠ cStatics := fun q => Nat.lt_irrefl _ (Nat.lt_of_lt_of_le (q ▸ hcs) hIsz)
 have W0 : ∀ A' : Around, A'.handled = none -> Walks prog w A' s.heap.objs.size [cStatics, s.heap.objs.size, ac] [s.heap.objs.size] vs.toArray.size (fun i v => vs.toArray[i]? = some v) (fun i h => h.IsListIter s.heap.objs.size ac i ∧ h.IsList ac vs.toArray) := fun A' hA =>
  let W := Walks.list (prog := prog) (w := w) (A := A') hA s.heap.objs.size ac hac vs.toArray
  { W with sub := fun b hb => List.mem_cons_of_mem _ (W.sub b hb), frame := fun i h h' st hk => W.frame i h h' st fun b hb => hk b (List.mem_cons_of_mem _ hb) }
 have hln : vs.length = ls.length := by refine rr h2.length ?_; simp
 have W := c1b (prog := prog) (w := w) (A := A.in1.in1) Rm.handled h'.objs.size s₃.gens.size cenv.locals [cStatics, s.heap.objs.size, ac] [s.heap.objs.size] vs.toArray.size (fun i v => ∃ l t, ls[i]? = some l ∧ v = .str ⟨(l.flatMap P4).toArray⟩ t)
  (by (refine rr hcl ?_; refine rr hz' ?_); exact Nat.succ_ne_self _) (fun h => by have := hfp _ h; rw [hz'] at this; exact Nat.not_lt.mpr (Nat.le_succ _) this) (fun b hb => by simp at hb; simp [hb]) Rm.lim (by simp) (by refine rr hcl ?_; exact fun q => by have := hfp cStatics (by simp); rw [q] at this; exact Nat.lt_irrefl _ this) (by simpa using hIcs.symm)
 have hn5 : s₅.heap.Ns cenv.locals (fun y => if y = (".0" : Str) then some (.ref s.heap.objs.size) else none) := by
  refine rr hcl ?_
  exact hns.at' fun o e => Heap.get?_push_of_some _ e
 have hst := c0r (prog := prog) (w := w) (A := A.in1.in1) (elt := a6y) (iter := .Name y yp) (px := px) (scope := gjSc) (pos := gjP) (cenv := cenv) (a := h'.objs.size) (g := s₃.gens.size) (x := Str.ofString "s") (s := s₅) Rm.handled W0 (fun i v => ∃ l t, ls[i]? = some l ∧ v = .str ⟨(l.flatMap P4).toArray⟩ t)
  hcx (by refine rr hck ?_; rfl) hcco (by refine rr hcl ?_; exact fun q => Nat.lt_irrefl _ (hfp _ q)) (fun A' E' i v s₂ m₂ hA hv hnn hm ht => by
   have hv' : vs[i]? = some v := by simpa using hv
   have hi : i < ls.length := by
    have := (List.getElem?_eq_some_iff.mp hv').1; rw [hln] at this; exact this
   have hl' : ls[i]? = some ls[i] := List.getElem?_eq_getElem hi
   refine c9 (h2.get (k := i) (c := .str ls[i]) (by simp [hl'])) fun v' q1 q2 => ?_
   rw [hv'] at q1
   (replace q1 := Option.some.inj q1; subst q1)
   (refine y5 q2 fun _ t z24 => ?_; clear q2; subst z24)
   exact wpAny_mono (c14 hck hcx hnn hm ht (hb _ (List.getElem_mem hi))) (fun y s₃ q => ⟨let ⟨t, e⟩ := q.1; (M9 _ t hl' e), q.2⟩) fun _ _ e => e)
  (Z4 gobj _ _ (Heap.get?_push_size _ rfl) rfl rfl rfl) (by show (s₃.gens.push _)[s₃.gens.size]? = _; simp) (by exact ⟨Heap.IsListIter.at hst0.1 fun o e => kp _ _ _ e, Heap.IsList.at hst0.2 fun o e => kp _ _ _ e⟩) hn5 (T.lim S₅) (Nat.succ_pos _)
 have hlen : ∀ l ∈ ls, (l.flatMap P4).length <= 20 := fun l hl => by
  have h10 : l.length <= 10 := by
   have := (Bool.and_eq_true_iff.mp (hb l hl)).2; simpa using this
  have : ∀ l : List Nat, (l.flatMap P4).length <= 2 * l.length := fun l => by
   induction l with
   | nil => exact Nat.le_refl _
   | cons c r ih =>
    (refine rr List.flatMap_cons ?_; refine rr List.length_append ?_; refine rr List.length_cons ?_)
    have : (P4 c).length <= 2 := by unfold P4; refine ie rfl (fun _ => ?_) fun _ => ?_ <;> (try refine ie rfl (fun _ => ?_) fun _ => ?_) <;> simp
    exact c6 (ad ih this) (by simp +arith)
  have := this l; exact c6 (ad (ad this h10) h10) (by simp +arith)
 have hsum : ((ls.map fun l => l.flatMap P4).map (fun t => t.length + 1)).sum <= 21 * ls.length := by
  have : ∀ l : List (List Nat), (∀ x ∈ l, x.length <= 20) -> (l.map (fun t => t.length + 1)).sum <= 21 * l.length := fun l => by
   induction l with
   | nil => intro _; exact Nat.le_refl _
   | cons c r ih =>
    intro hx
    have h1 := ih fun x hx' => hx x (List.mem_cons_of_mem _ hx')
    have h2 := hx c (List.mem_cons_self ..)
    simp only [List.map_cons, List.sum_cons, List.length_cons]; exact c6 (ad h1 h2) (by simp +arith)
  have := this (ls.map fun l => l.flatMap P4) (fun x hx => by (refine c9 (List.mem_map.mp hx) fun l hl z21 => ?_; subst z21); exact hlen l hl)
  rwa [List.length_map] at this
 refine SC.joinGen (s := s₅) W (fun i s h => h.1.typeIs) hst (fun b hb => ?_) (List.mem_cons_self ..) (fun j v hv => let ⟨_, t, _, e⟩ := hv; (a86 _ t e)) (fun s' lt hm hacc => ?_) ?_
 · show b < (h'.push gobj).objs.size
   rw [Heap.size_push, hz']
   refine Or.elim (List.mem_cons.mp hb) (fun z19 => ?_) fun hb => ?_
   · refine rr z19 ?_; refine rr hz' ?_; exact Nat.lt_succ_self _
   · rcases List.mem_cons.mp hb with rfl | hb
     · refine rr hcl ?_; exact Nat.lt_succ_of_lt (Nat.lt_succ_self _)
     · exact Nat.lt_succ_of_lt (Nat.lt_succ_of_lt (hfp _ hb))
 · have hl : lt.map (·.1) = (ls.map fun l => l.flatMap P4).map fun t => (⟨t.toArray⟩ : Str) := by
    apply List.ext_getElem?
    intro j
    have hsz : lt.length = ls.length := by have := hacc.1; simpa [strValues, hln] using this
    by_cases hj : j < lt.length
    · refine I9 (hacc.2 j (.str lt[j].1 lt[j].2) (by simp [strValues, List.getElem?_eq_getElem hj])) fun l t e1 e2 => ?_
      injection e2 with e2 _
      simp [List.getElem?_eq_getElem hj, e1, e2]
    · rw [List.getElem?_eq_none (by simpa using Nat.le_of_not_lt hj), List.getElem?_eq_none (by simpa [← hsz] using Nat.le_of_not_lt hj)]
   refine rr hl ?_
   have hinter := W3 [45] (ls.map fun l => l.flatMap P4)
   have hinter : (chJ ls).length <= 21 * ls.length := Nat.le_trans hinter hsum
   have hbig : 21 * ls.length <= sizeLine := by have : sizeLine = 16777216 := by decide +kernel
                                                refine rr this ?_; exact Nat.le_trans (Nat.mul_le_mul_left 21 hn) (by decide)
   refine ⟨?_, fun t' k => ?_⟩
   · unfold JoinOk
     rw [b1n, Nat.zero_add, List.map_map]
     rw [Bool.not_eq_true']
     exact decide_eq_false (Nat.not_lt.mpr (Nat.le_trans hsum hbig))
   · have hS' : MS B0 os ω₃ Γ.tq s' := S₅.moved (wr := [cenv.locals, s.heap.objs.size]) hm.heap (fun b hb => by
      simp only [List.mem_cons, List.not_mem_nil, or_false] at hb
      rcases hb with rfl | rfl
      · refine rr hcl ?_; exact hCn
      · exact n₃ _ hIlt hIn) (fun b hb => by
      simp only [List.mem_cons, List.not_mem_nil, or_false] at hb
      rcases hb with rfl | rfl
      · refine rr hcl ?_; exact S₃.size
      · exact hIsz) (PyProof.Rows.AllBare.movedS S₅.gens hm) hm.os
     refine ⟨.str (chJ ls), ω₃, σ, l₃, hS'.toks k, R.keep l₃ o₃, (Y7 (Nat.le_trans hinter hbig) t' ?_), h⟩
     congr 1
     show Builtin.Str.glued _ _ = _
     exact (StrLaws.glued_eq_join ..).trans (N3 [45] _)
 · have : sizeLine = 16777216 := by decide +kernel
   refine rr this ?_; simp [hln]; exact Nat.le_trans hn (by decide)
end
end
section
open PySem.Builtin PySem.Builtin.Str
theorem a1h (x y:Str) (i j:Int) (t u v v':Tok):Gives («str.find» ⟨[.str x t,.str y u,.int i v,.int j v'],[]⟩) (.int (match occurrences x y (fromIndex x.length i) (min (fromIndex x.length j) x.length) 1 with | k::_=>(k:Int) | []=>-1)):=by
 show Gives (match occurrences x y (fromIndex x.length i) (min (fromIndex x.length j) x.length) 1 with | k::_=>retInt k | []=>(do rule "str.find.not-found"; retInt (-1))) _
 induction occurrences x y (fromIndex x.length i) (min (fromIndex x.length j) x.length) 1 using List.casesOn with
 | nil=>exact .rule (.of_eq rfl)
 | cons k _=>exact .of_eq rfl
theorem Z1 (n k:Nat):fromIndex n (k:Int)=k:=by
 exact rfl
theorem b9o {p : List Nat} {c k j : Nat} (hk : k < j) (hj : j <= p.length) (h : p[k]? = some c) : ∃ r, occurrences ⟨p.toArray⟩ ⟨#[c]⟩ k j 1 = k :: r := by
 have hat : StrLaws.At (⟨p.toArray⟩ : Str) ⟨#[c]⟩ j k := ⟨hk, ((StrLaws.subAt_one (⟨p.toArray⟩ : Str) c k).mpr h).2⟩
 have hr : List.range' k (j + 1 - k) = k :: List.range' (k + 1) (j - k) := by
  obtain ⟨d, hd⟩ : ∃ d, j + 1 - k = d + 1 := ⟨j - k, (Nat.succ_sub (Nat.le_of_lt hk))⟩
  have : d = j - k := ((congrArg (· - 1) hd.symm : _ = _).trans (Nat.sub_right_comm (_+1) _ 1))
  (refine rr hd ?_; refine rr List.range'_succ ?_; exact rr this rfl)
 refine rr (StrLaws.occ_eq ..) ?_
 refine Or.elim (StrLaws.occ_first (⟨p.toArray⟩ : Str) ⟨#[c]⟩ j 1 (Nat.le_refl _) (List.range' k (j + 1 - k)) k (fun i hi => by have := List.mem_range'_1.mp hi; exact by simp_all)) (fun z552 => ?_) fun z553 => ?_
 · exact absurd hat (z552.2 k (by refine rr hr ?_; exact List.mem_cons_self ..))
 · refine E4 z553 fun pre a post e h0 ha hn => ?_; have hpre : pre = [] := by
    induction pre using List.casesOn with
    | nil => rfl
    | cons b pre =>
     rw [hr] at e
     injection e with e1 _
     subst e1
     exact absurd hat (hn _ (List.mem_cons_self ..))
   clear hn; subst hpre
   rw [hr] at e
   injection e with e1 _
   clear ha; subst e1
   generalize (forIn (List.range' k (j + 1 - k)) ((#[] : Array Nat), k) (StrLaws.occBody (⟨p.toArray⟩ : Str) ⟨#[c]⟩ j 1)).run.fst = arr at h0
   have h1 : arr.toList[0]? = some k := by simpa using h0
   induction hL : arr.toList using List.casesOn with
   | nil => rw [hL] at h1; exact c7 h1
   | cons b t => rw [hL] at h1; simp at h1; exact ⟨t, by exact rr h1 rfl⟩
theorem b9u {x y:Str}{k j:Nat}(hk:j<k):occurrences x y k j 1=[]:=by
 (refine rr (StrLaws.occ_eq ..) ?_;refine rr (Nat.sub_eq_zero_of_le hk) ?_)
 rfl
section
variable {σ:St}{K:KV}
theorem b79 {p:List Nat}{c k j:Nat}(hk:k<j) (hj:j<=p.length) (e:p[k]? = some c) (h:K (.int k) σ):biH "str.find" [.str p,.str [c],.int (k:Nat),.int (j:Nat)] σ K:=fun _ _ _ _ _ _ A E ω s vs Rm S R r=>by
 obtain⟨v,r0,rfl,⟨_,t,rfl⟩,r⟩:=r
 obtain⟨v,r0,rfl,⟨_,u,rfl⟩,r⟩:=r
 obtain⟨v,r0,rfl,⟨v1,rfl⟩,r⟩:=r
 obtain⟨v,r0,rfl,⟨v2,rfl⟩,r⟩:=r
 subst r
 refine call_gives PySem.F.slot_str_find (typeIs_str _ _ _) PySem.F.entry_str_find (PySem.F.args_str_find_4 _ _ _ _) (a1h _ _ _ _ _ _ _ _) ?_
 refine o_e (b9o hk hj e) fun r hr=>?_
 (refine rr (Z1 ..) ?_;refine rr (Z1 ..) ?_;refine rr (show min j (⟨p.toArray⟩:Str).length=j from Nat.min_eq_left hj) ?_;refine rr hr ?_)
 exact m9 (h:=.int (k:Nat)) S R ⟨_,rfl⟩ h _
theorem b70 {p:List Nat}{c k j:Nat}(hk:j<k) (h:K (.int (-1)) σ):biH "str.find" [.str p,.str [c],.int (k:Nat),.int (j:Nat)] σ K:=fun _ _ _ _ _ _ A E ω s vs Rm S R r=>by
 obtain⟨v,r0,rfl,⟨_,t,rfl⟩,r⟩:=r
 obtain⟨v,r0,rfl,⟨_,u,rfl⟩,r⟩:=r
 obtain⟨v,r0,rfl,⟨v1,rfl⟩,r⟩:=r
 obtain⟨v,r0,rfl,⟨v2,rfl⟩,r⟩:=r
 subst r
 refine call_gives PySem.F.slot_str_find (typeIs_str _ _ _) PySem.F.entry_str_find (PySem.F.args_str_find_4 _ _ _ _) (a1h _ _ _ _ _ _ _ _) ?_
 (refine rr (Z1 ..) ?_;refine rr (Z1 ..) ?_;refine rr (b9u (Nat.lt_of_le_of_lt (Nat.min_le_left _ _) hk)) ?_)
 exact m9 (h:=.int (-1)) S R ⟨_,rfl⟩ h _
section
variable {mu:Pos->Bool}{Γ:Spx}{ρ:Loc}{G:GC}
theorem b4v {o:Expr}{ap p:Pos}{es:List Expr}(h1:T4 o=true) (h3:ap.endLine=p.line) (h4:es.length<=20) (h5:es.all n8=true) (h:evE mu Γ o ρ G σ fun a σ1=>∃ l,a=.str l/\M5 mu Γ es ρ G σ1 fun hs σ₂=>biH "str.find" (.str l::hs) σ₂ K):evE mu Γ (.Call (.Attribute o (Str.ofString "find") ap) es [] p) ρ G σ K:=
 a83 (id:="str.find") (fun _ _=>u8 h1) F.slot_str_find F.type_str_find h3 h4 h5 h
end
end
end
section
noncomputable def brB:List Stmt:=n7 c4w
noncomputable def brW:Expr×List Stmt:=N8 (brB.getD 3 noS)
section
variable {Γ:Spx}{gt:Loc}{cd:Option (Addr×Str)}
theorem a77 {p pre post:List Nat}(hz:p.length<=200):∀ (r done:List Nat) (ρ:Loc) (σ:St) (n:Nat) (KF:KS),p=(pre++done)++(r++93::post)->93 ∉ r->ρ (Str.ofString "pat")=some (.str p)->ρ (Str.ofString "n")=some (.int (p.length:Nat))->ρ (Str.ofString "j")=some (.int ((pre++done).length:Nat))->r.length<n->
 (∀ ρ',ρ' (Str.ofString "j")=some (.int (((pre++done)++r).length:Nat))->(∀ x,x≠Str.ofString "j" -> ρ' x=ρ x)->KF .nx ρ' σ)->
 whL (fun ρ σ K=>evT (fun _=>true) Γ brW.1 ρ (y0 (b0 (stm 11)) gt cd) σ K) (fun ρ σ K=>evB (fun _=>true) Γ brW.2 ρ (y0 (b0 (stm 11)) gt cd) σ K) n ρ σ KF:=by
 intro r
 induction r with
 | nil=>
  intro done ρ σ n KF hp h93 e1 e2 e3 hn hK
  obtain⟨n,rfl⟩:∃ m,n=m+1:=⟨n-1,ar8 hn⟩
  refine V3 ?_
  conv=>arg 3;whnf
  conv=>arg 5;arg 1;whnf
  repeat' walk_at "ev"
  have hlen:p.length=(pre++done).length+(1+post.length):=by refine rr hp ?_;simp;exact by simp +arith
  have ha:at? p (((pre++done).length:Nat):Int)=some 93:=by (refine rr hp ?_;refine rr at_nat ?_);simp
  refine o7 (by simp only[decide_eq_true_eq];exact Int.ofNat_lt.mpr ((c6 (lq hlen.symm) (by simp +arith)):_ < _)) ?_
  repeat' walk_at "ev"
  refine A6 (c1x hlen hz) ha ?_
  repeat' walk_at "ev"
  (refine rr y4 ?_;refine k6 (by decide) ?_)
  exact hK ρ (by refine rr e3 ?_;simp) fun _ _=>rfl
 | cons c r ih=>
  intro done ρ σ n KF hp h93 e1 e2 e3 hn hK
  obtain⟨n,rfl⟩:∃ m,n=m+1:=⟨n-1,ar8 hn⟩
  refine V3 ?_
  conv=>arg 3;whnf
  conv=>arg 5;arg 1;whnf
  repeat' walk_at "ev"
  have hlen:p.length=(pre++done).length+(r.length+2+post.length):=by refine rr hp ?_;simp;exact by simp +arith
  have ha:at? p (((pre++done).length:Nat):Int)=some c:=by (refine rr hp ?_;refine rr at_nat ?_);simp
  refine o7 (by simp only[decide_eq_true_eq];exact Int.ofNat_lt.mpr ((c6 (lq hlen.symm) (by simp +arith)):_ < _)) ?_
  repeat' walk_at "ev"
  refine A6 (c5n hlen hz) ha ?_
  repeat' walk_at "ev"
  have hc:c≠93:=fun q=>h93 (q▸List.mem_cons_self ..)
  (refine rr y4 ?_;refine o7 (by simpa using hc) ?_)
  repeat' walk_at "ev"
  conv=>arg 3;whnf
  conv=>arg 5;arg 1;whnf
  repeat' walk_at "ev"
  refine ih (done++[c]) _ σ n KF (by refine rr hp ?_;simp) (fun h=>h93 (List.mem_cons_of_mem _ h)) (by walk_at "nm") (by walk_at "nm") ?_ (by simp at hn;omega) fun ρ' q1 q2=>hK ρ' ?_ fun x hx=>?_
  · refine rr i5 ?_;simp;exact b7w
  · refine rr q1 ?_;simp
  · refine rr (q2 x hx) ?_;exact i8 hx rfl
end
end
section
theorem c2g (h:Nat) (r:List Nat):slc (h::r) (some 1) none=r:=by
 unfold slc
 simp only[Option.elim]
 (refine rr (show ((1:Int))=((1:Nat):Int) from rfl) ?_;refine rr (a8n (h::r).length 1 (by simp)) ?_)
 simp
structure b0p (Γ:Spx) (gt:Loc) (c P:Addr) (q0:Str) (pat:Addr) (qs:List (Pos×Str)):Prop where
 e1:gt (Str.ofString "_twin_re_1")=some (.val (.ref pat))
 hP:∀ B0,Γ.hp B0->PatAt B0 pat/\a3g B0 c P
 hs:P≠cStatics
 tq:(P,qs)∈Γ.tq
 ap:G2 qs
 h1:(lmP,q0++"<lambda>")∈qs
 h2:(gjP,q0++"<genexpr>")∈qs
 lv:6<=Γ.lv
section
variable {Γ:Spx}{gt:Loc}{c P pat:Addr}{q0:Str}{qs:List (Pos×Str)}(X:b0p Γ gt c P q0 pat qs)
include X
theorem b4s {ρ:Loc}{σ:St}{KF:KS}{s:List Nat}{J:Nat}{ar:Addr}{l:List HV}(e1:ρ (Str.ofString "stuff")=some (.str s)) (hs:s.length<=90) (e2:ρ (Str.ofString "j")=some (.int (J:Nat))) (e3:ρ (Str.ofString "add")=some (.bm ar)) (e4:σ ar=some l) (hl:l.length<=200) (e5:ρ (Str.ofString "_twin_re_1")=none)
 (hamp:(D1 s).length<=1000)
 (hK:∀ ρ',ρ' (Str.ofString "i")=some (.int ((J:Int)+1))->(∀ x,x≠Str.ofString "stuff" -> x≠Str.ofString "i" -> ρ' x=ρ x)->KF .nx ρ' (σ.put ar (l++[.str (a5g (D1 s))]))) :
 evB (fun _=>true) Γ (brTail.drop 2) ρ (y0 (b0 (stm 11)) gt (some (c,q0))) σ KF:=by
 have ln:=c8
 conv=>arg 3;whnf
 conv=>arg 5;arg 1;whnf
 refine m5 (by with_unfolding_all rfl) (by kernel_rfl) (b61 (c:=c) (P:=P) (qs:=qs) (q0:=q0) (pat:=pat) rfl e5 (a9l (by decide +kernel) X.e1) e1 (Nat.le_trans hs (by decide)) rfl X.hP X.hs X.tq X.ap X.h1 X.lv ?_)
 generalize D1 s=t at *
 repeat' walk_at "ev"
 have fin:∀ (t':List Nat) (ρ2:Loc),t'=a5g t->ρ2 (Str.ofString "i")=some (.int ((J:Int)+1))->(∀ x,x≠Str.ofString "stuff" -> x≠Str.ofString "i" -> ρ2 x=ρ x)->KF .nx ρ2 (σ.put ar (l++[.str t'])):=fun t' ρ2 q1 q2 q3=>by refine rr q1 ?_;exact hK ρ2 q2 q3
 induction t using List.casesOn with
 | nil=>
  repeat' walk_at "ev"
  refine o7 (by decide) ?_
  repeat' walk_at "ev"
  refine a02 e4 (a73 ln hl) ?_
  repeat' walk_at "ev"
  refine fin _ _ U6 (by walk_at "nm") fun x h1 h2=>?_
  refine rr (i8 h2 rfl) ?_;exact i8 h1 rfl
 | cons h r=>
  repeat' walk_at "ev"
  refine k6 (by simp) ?_
  repeat' walk_at "ev"
  refine rr U7 ?_
  by_cases hq:h::r=[33]
  · refine o7 (by refine rr hq ?_;decide) ?_
    repeat' walk_at "ev"
    refine a02 e4 (a73 ln hl) ?_
    repeat' walk_at "ev"
    refine fin _ _ (by refine rr hq ?_;exact N0) (by walk_at "nm") fun x h1 h2=>?_
    refine rr (i8 h2 rfl) ?_;exact i8 h1 rfl
  · refine k6 (by simpa using hq) ?_
    repeat' walk_at "ev"
    refine A6 (c:=h) (by decide) rfl ?_
    repeat' walk_at "ev"
    refine rr U7 ?_
    by_cases h33:h=33
    · subst h33
      refine o7 (by decide) ?_
      repeat' walk_at "ev"
      refine rr (c2g ..) ?_
      refine y9 (by refine rr a1o ?_;simp at hamp ⊢;exact c6 (ad (lq ln.symm) hamp) (by simp +arith)) ?_
      repeat' walk_at "ev"
      refine rr a1o ?_
      refine a3z (by refine rr t9 ?_;decide) ?_
      repeat' walk_at "ev"
      refine(y7 _ rfl (by refine rr t9 ?_;simp at hamp ⊢;exact b1z ln hamp) ?_)
      repeat' walk_at "ev"
      refine a3z (by (refine rr t9 ?_;refine rr y4 ?_);simp at hamp ⊢;exact b8e ln hamp) ?_
      repeat' walk_at "ev"
      refine a02 e4 (a73 ln hl) ?_
      repeat' walk_at "ev"
      refine fin _ _ ?_ (by walk_at "nm") fun x h1 h2=>?_
      · (refine rr t9 ?_;refine rr y4 ?_)
        have hr:r≠[]:=fun q=>hq (by rw[q])
        unfold a5g
        dsimp only
        (refine rr (if_pos rfl) ?_;refine rr (if_neg hr) ?_);simp
      · (refine rr (i8 h1 rfl) ?_;refine rr (i8 h2 rfl) ?_);exact i8 h1 rfl
    · refine k6 (by simpa using h33) ?_
      repeat' walk_at "ev"
      refine A6 (c:=h) (by decide) rfl ?_
      repeat' walk_at "ev"
      (refine rr a1o ?_;refine rr t9 ?_)
      by_cases h2:h=94\/h=91
      · refine o7 (by rcases h2 with rfl | rfl<;>decide) ?_
        repeat' walk_at "ev"
        refine y9 (by refine rr P2 ?_;simp at hamp ⊢;exact b1z ln hamp) ?_
        repeat' walk_at "ev"
        refine rr P2 ?_
        refine a3z (by refine rr t9 ?_;decide) ?_
        repeat' walk_at "ev"
        refine(y7 _ rfl (by refine rr t9 ?_;simp at hamp ⊢;exact c6 (ad (lq ln.symm) hamp) (by simp +arith)) ?_)
        repeat' walk_at "ev"
        refine a3z (by (refine rr t9 ?_;refine rr y4 ?_);simp at hamp ⊢;exact c6 (ad (lq ln.symm) hamp) (by simp +arith)) ?_
        repeat' walk_at "ev"
        refine a02 e4 (by exact a73 ln hl) ?_
        repeat' walk_at "ev"
        refine fin _ _ ?_ (by walk_at "nm") fun x h1 h2=>?_
        · (refine rr t9 ?_;refine rr y4 ?_)
          unfold a5g
          dsimp only
          (refine rr (if_neg h33) ?_;refine rr (if_pos h2) ?_);simp
        · (refine rr (i8 h1 rfl ..) ?_;refine rr (i8 h2 rfl ..) ?_);exact i8 h1 rfl
      · refine k6 (by simpa [not_or] using h2) ?_
        repeat' walk_at "ev"
        refine a3z (by refine rr t9 ?_;decide) ?_
        repeat' walk_at "ev"
        refine(y7 _ rfl (by refine rr t9 ?_;simp at hamp ⊢;exact b1z ln hamp) ?_)
        repeat' walk_at "ev"
        refine a3z (by (refine rr t9 ?_;refine rr y4 ?_);simp at hamp ⊢;exact b8e ln hamp) ?_
        repeat' walk_at "ev"
        refine a02 e4 (by exact a73 ln hl) ?_
        repeat' walk_at "ev"
        refine fin _ _ ?_ (by walk_at "nm") fun x h1 h2=>?_
        · (refine rr t9 ?_;refine rr y4 ?_)
          unfold a5g
          dsimp only
          (refine rr (if_neg h33) ?_;refine rr (if_neg h2) ?_);simp
        · refine rr (i8 h2 rfl ..) ?_;exact i8 h1 rfl
end
end
section
theorem b6r {l y z:List Nat}{σ:St}{K:KV}(h0:(Builtin.Str.occurrences ⟨l.toArray⟩ ⟨y.toArray⟩ 0 (⟨l.toArray⟩:Str).length ((⟨l.toArray⟩:Str).length+1)).isEmpty=true) (hz:l.length<=100) (h:K (.str l) σ):biH "str.replace" [.str l,.str y,.str z] σ K:=fun _ _ _ _ _ _ A E ω s vs Rm S R r=>by
 have ln:=c8
 obtain⟨v,r0,rfl,⟨_,t,rfl⟩,r⟩:=r
 obtain⟨v,r0,rfl,⟨_,u,rfl⟩,r⟩:=r
 obtain⟨v,r0,rfl,⟨_,u2,rfl⟩,r⟩:=r
 subst r
 refine call_gives F.slot_str_replace (typeIs_str _ _ _) F.entry_str_replace (F.args_str_replace_3 _ _ _) (gives_str_replace _ _ _ _ _ _ fun hc=>?_) ?_
 · rw[h0] at hc;simp at hc
 · refine rr h0 ?_
   exact j6 (h:=.str l) S R ⟨by omega,_,rfl⟩ h
section
variable {Γ:Spx}{gt:Loc}{c P pat:Addr}{q0:Str}{qs:List (Pos×Str)}(X:b0p Γ gt c P q0 pat qs)
include X
noncomputable def P3:List Str:=[Str.ofString "j",Str.ofString "stuff",Str.ofString "chunks",Str.ofString "k",Str.ofString "i",Str.ofString "chunk"]
theorem b57 {ρ:Loc}{σ:St}{KF:KS}{p:List Nat}{d:Nat}{I:Nat}{ar:Addr}{l:List HV}(hd:[42,63,91].contains d=true) (e0:ρ (Str.ofString "pat")=some (.str p)) (ei:ρ (Str.ofString "i")=some (.int (I:Nat))) (e2:ρ (Str.ofString "j")=some (.int ((I+1:Nat):Int))) (hsl:slc p (some (I:Int)) (some ((I+1:Nat):Int))=[d])
 (e3:ρ (Str.ofString "add")=some (.bm ar)) (e4:σ ar=some l) (hl:l.length<=200) (e5:ρ (Str.ofString "_twin_re_1")=none)
 (hK:∀ ρ' σ',ρ' (Str.ofString "i")=some (.int ((I+1:Nat)+1:Int))->(∀ x,x ∉ P3->ρ' x=ρ x)->σ' ar=some (l++[.str (a5g [d])])->(∀ x,x≠ar->(σ x).isSome=true->σ' x=σ x)->KF .nx ρ' σ') :
 evB (fun _=>true) Γ brTail ρ (y0 (b0 (stm 11)) gt (some (c,q0))) σ KF:=by
 have h3:d=42\/d=63\/d=91:=by simpa using hd
 refine rr (show brTail=brTail.getD 0 noS::brTail.getD 1 noS::brTail.drop 2 from by with_unfolding_all rfl) ?_
 conv=>arg 3;arg 1;whnf
 conv=>arg 5;arg 1;whnf
 refine m5 (by with_unfolding_all rfl) (by kernel_rfl) ?_
 repeat' walk_at "ev"
 refine rr hsl ?_
 conv=>arg 3;whnf
 repeat' walk_at "ev"
 refine rr E6 ?_
 refine a2j ?_
 repeat' walk_at "ev"
 refine o7 (by rcases h3 with rfl | rfl | rfl<;>decide) ?_
 repeat' walk_at "ev"
 refine a83 (id:="str.replace") (fun _ _=>u8 rfl) F.slot_str_replace F.type_str_replace rfl (by with_unfolding_all decide) (by with_unfolding_all rfl) ?_
 repeat' walk_at "ev"
 refine(j1 _ rfl ?_)
 repeat' walk_at "ev"
 refine b6r (by rcases h3 with rfl | rfl | rfl<;>decide +kernel) (by simp) ?_
 repeat' walk_at "ev"
 have ham:D1 [d]=[d]:=by rcases h3 with rfl | rfl | rfl<;>decide +kernel
 refine b4s X (s:=[d]) (J:=I+1) (ar:=ar) (l:=l) (by walk_at "nm") (by simp) (by walk_at "nm") (by walk_at "nm") e4 hl (by walk_at "nm") (by refine rr ham ?_;simp) fun ρ' q1 q2=>?_
 refine rr ham ?_
 refine hK ρ' _ q1 (fun x hx=>?_) g0 fun x hx _=>j5 hx
 simp only[P3,List.mem_cons,List.not_mem_nil,or_false,not_or] at hx
 (refine rr (q2 x hx.2.1 hx.2.2.2.2.1) ?_;refine rr (i8 hx.2.1 rfl) ?_)
 exact i8 hx.2.1 rfl
end
end
section
theorem a09 (pre p rest:List Nat):slc (pre++(p++rest)) (some (pre.length:Int)) (some ((pre.length+p.length:Nat):Int))=p:=by
 exact b02 ..
noncomputable def p8 (b:Bool):List Nat:=if b then [33] else []
theorem b19:(endsL.all fun lo=>endsL.all fun hi=>[true,false].all fun b=>decide (chJ [p8 b++[lo],[hi]]=(p8 b++(P4 lo++[45])++P4 hi))&&decide (chJ [p8 b]=p8 b)&&decide ((D1 (rgS b lo hi)).length<=1000)&&decide ((rgS b lo hi).length<=90)&&chB (p8 b++[lo])&&chB [hi]&&chB (p8 b))=true:=by decide +kernel
section
variable {Γ:Spx}{gt:Loc}{c P pat:Addr}{q0:Str}{qs:List (Pos×Str)}(X:b0p Γ gt c P q0 pat qs)
include X
theorem a48 {ρ:Loc}{σ σ0:St}{KF KG:KS}{b:Bool}{lo hi J:Nat}{ar ac:Addr}{l:List HV}{ls:List (List Nat)}(e1:ρ (Str.ofString "chunks")=some (.obj ac)) (hls:σ ac=some (ls.map .str)) (hb:∀ l∈ls,chB l=true) (hn:ls.length<=20) (hj:chJ ls=rgS b lo hi) (h1:(D1 (rgS b lo hi)).length<=1000) (h2:(rgS b lo hi).length<=90)
 (e2:ρ (Str.ofString "j")=some (.int (J:Nat))) (e3:ρ (Str.ofString "add")=some (.bm ar)) (hca:ar≠ac) (h0:σ0 ac=none) (hoth:∀ x,x≠ac->σ x=σ0 x) (e4:σ0 ar=some l) (hl:l.length<=200) (e5:ρ (Str.ofString "_twin_re_1")=none)
 (hK:∀ ρ' σ',ρ' (Str.ofString "i")=some (.int ((J:Nat)+1:Int))->(∀ x,x ∉ P3->ρ' x=ρ x)->σ' ar=some (l++[.str (pcF (.rg b lo hi))])->(∀ x,x≠ar->(σ0 x).isSome=true->σ' x=σ0 x)->KF .nx ρ' σ')
 (hG:∀ ρ' σ',evB (fun _=>true) Γ (brTail.drop 2) ρ' (y0 (b0 (stm 11)) gt (some (c,q0))) σ' KF->KG .nx ρ' σ') :
 evB (fun _=>true) Γ [gjS] ρ (y0 (b0 (stm 11)) gt (some (c,q0))) σ KG:=by
 conv=>arg 3;arg 1;whnf
 conv=>arg 5;arg 1;whnf
 refine m5 (by with_unfolding_all rfl) (by kernel_rfl) (b5f (c:=c) (P:=P) (qs:=qs) (q0:=q0) rfl e1 hls hb hn rfl (fun B0 h=>(X.hP B0 h).2) X.hs X.tq X.ap X.h2 ?_)
 rw[hj]
 repeat' walk_at "ev"
 refine hG _ _ ?_
 refine b4s X (s:=rgS b lo hi) (J:=J) (ar:=ar) (l:=l) (by walk_at "nm") h2 (by walk_at "nm") (by walk_at "nm") (by rw[hoth _ hca];exact e4) hl (by walk_at "nm") h1 fun ρ' q1 q2=>?_
 refine hK ρ' _ q1 (fun x hx=>?_) g0 fun x hx hs=>?_
 · simp only[P3,List.mem_cons,List.not_mem_nil,or_false,not_or] at hx
   refine rr (q2 x hx.2.1 hx.2.2.2.2.1) ?_
   exact i8 hx.2.1 rfl
 · have:x≠ac:=fun q=>by rw[q,h0] at hs;exact j0 hs
   (refine rr (j5 hx) ?_;exact rr (hoth x this) rfl)
end
section
variable {Γ:Spx}{gt:Loc}{c P pat:Addr}{q0:Str}{qs:List (Pos×Str)}(X:b0p Γ gt c P q0 pat qs) (g1:gt (Str.ofString "len")=some (.val (.builtin "len"))) (g2:gt (Str.ofString "range")=some (.val (.type "range")))
include X g1 g2
set_option maxHeartbeats 2000000 in
theorem b72 {ρ:Loc}{σ:St}{KF:KS}{p pre post:List Nat}{b:Bool}{lo hi:Nat}{I J:Nat}{ar:Addr}{l:List HV}(hlo:lo∈endsL) (hhi:hi∈endsL) (hp:p=pre++((p8 b++[lo,45,hi])++post)) (hz:p.length<=200) (hI:pre.length=I) (hJ:I+(p8 b++[lo,45,hi]).length=J)
 (e0:ρ (Str.ofString "pat")=some (.str p)) (ei:ρ (Str.ofString "i")=some (.int (I:Nat))) (e2:ρ (Str.ofString "j")=some (.int (J:Nat)))
 (e3:ρ (Str.ofString "add")=some (.bm ar)) (e4:σ ar=some l) (hl:l.length<=200) (e5:ρ (Str.ofString "_twin_re_1")=none) (e6:ρ (Str.ofString "len")=none) (e7:ρ (Str.ofString "range")=none)
 (hK:∀ ρ' σ',ρ' (Str.ofString "i")=some (.int ((J:Nat)+1:Int))->(∀ x,x ∉ P3->ρ' x=ρ x)->σ' ar=some (l++[.str (pcF (.rg b lo hi))])->(∀ x,x≠ar->(σ x).isSome=true->σ' x=σ x)->KF .nx ρ' σ') :
 evB (fun _=>true) Γ brTail ρ (y0 (b0 (stm 11)) gt (some (c,q0))) σ KF:=by
 have hbl:(p8 b).length<=1:=by cases b<;>decide
 have hlen:p.length=I+((p8 b).length+(3+post.length)):=by (refine rr hp ?_;refine rl hI ?_);simp;exact by simp +arith
 have hJ':J=I+(p8 b).length+3:=by refine rl hJ ?_;simp;exact rfl
 have hsl:slc p (some (I:Int)) (some (J:Int))=p8 b++[lo,45,hi]:=by
  (refine rr hp ?_;refine rl hJ ?_;refine rl hI ?_);exact a09 ..
 refine rr (show brTail=brTail.getD 0 noS::brTail.getD 1 noS::brTail.drop 2 from by with_unfolding_all rfl) ?_
 conv=>arg 3;arg 1;whnf
 conv=>arg 5;arg 1;whnf
 refine m5 (by with_unfolding_all rfl) (by kernel_rfl) ?_
 repeat' walk_at "ev"
 refine rr hsl ?_
 conv=>arg 3;whnf
 repeat' walk_at "ev"
 refine rr E6 ?_
 refine a2j ?_
 repeat' walk_at "ev"
 refine k6 (by simp) ?_
 conv=>arg 3;whnf
 refine m5 (by with_unfolding_all rfl) (by kernel_rfl) (a3v rfl (by decide) rfl (V9 fun ac hac=>?_))
 have hara:ar≠ac:=fun q=>by rw[q,hac] at e4;exact c7 e4
 refine m5 (by with_unfolding_all rfl) (by kernel_rfl) ?_
 refine a1f (x:=.int ((I+(p8 b).length+1:Nat):Int)) (σ':=σ.put ac []) ?_ ?_
 · repeat' walk_at "ev"
   refine A6 (c:=(p8 b++[lo]).headD 0) (c3r hlen hz) (by (refine rr hp ?_;refine rl hI ?_;refine rr at_nat ?_);cases b<;>simp[p8]) ?_
   repeat' walk_at "ev"
   refine rr U7 ?_
   cases b with
   | true=>
    refine o7 (by rfl) ?_
    repeat' walk_at "ev"
    exact⟨by congr 1,rfl⟩
   | false=>
    have:lo≠33:=fun q=>by rw[q] at hlo;revert hlo;decide
    refine k6 (by simpa [p8] using this) ?_
    repeat' walk_at "ev"
    exact⟨by congr 1,rfl⟩
 generalize hk0:I+(p8 b).length+1=k0
 have h45:p[k0]? = some 45:=by
  rw[hp,← hk0,← hI,Nat.add_assoc,List.getElem?_append_right (Nat.le_add_right ..),Nat.add_sub_cancel_left];cases b<;>rfl
 have hJ2:J=k0+2:=c3a hk0 hJ'
 have hp0:(σ.put ac []) ac=some []:=g0
 repeat' walk_at "ev"
 refine⟨3,?_⟩
 refine V3 ?_
 refine a0g ?_
 refine o7 rfl ?_
 refine m5 (by with_unfolding_all rfl) (by kernel_rfl) (b4v rfl rfl (by decide) rfl ?_)
 repeat' walk_at "ev"
 refine(j1 _ rfl ?_)
 repeat' walk_at "ev"
 refine rr E6 ?_
 refine b79 (c6 (ad (lq hk0.symm) (lq hJ'.symm)) (by simp +arith)) (c6 (ad (lq hJ') (lq hlen.symm)) (by simp +arith)) h45 ?_
 repeat' walk_at "ev"
 refine k6 (by simp) ?_
 repeat' walk_at "ev"
 have hc1:slc p (some (I:Int)) (some (k0:Int))=p8 b++[lo]:=by
  have:=a09 pre (p8 b++[lo]) ([45,hi]++post)
  rw[hI] at this
  rw[show p=pre++((p8 b++[lo])++([45,hi]++post)) from by refine rr hp ?_;simp,show k0=I+(p8 b++[lo]).length from by refine rl hk0 ?_;simp;exact rfl]
  exact this
 refine rr hc1 ?_
 refine D0 hp0 (by decide +kernel) ?_
 repeat' walk_at "ev"
 dsimp only
 refine V3 ?_
 refine a0g ?_
 refine o7 rfl ?_
 refine m5 (by with_unfolding_all rfl) (by kernel_rfl) (b4v rfl rfl (by decide) rfl ?_)
 repeat' walk_at "ev"
 refine(j1 _ rfl ?_)
 repeat' walk_at "ev"
 (refine rr E6 ?_;refine rr (show ((k0:Int)+3)=((k0+3:Nat):Int) from rfl) ?_)
 refine b70 (c6 (ad (lq hk0) (lq hJ')) (by simp +arith)) ?_
 repeat' walk_at "ev"
 refine o7 (by decide) ?_
 repeat' walk_at "ev"
 have hc2:slc p (some ((k0:Int)+1)) (some (J:Int))=[hi]:=by
  have:=a09 (pre++(p8 b++[lo,45])) [hi] post
  rw[show ((k0:Int)+1)=(((pre++(p8 b++[lo,45])).length:Nat):Int) from by (refine rl hk0 ?_;refine rl hI ?_);simp;exact rfl,show J=(pre++(p8 b++[lo,45])).length + [hi].length from by (refine rr hJ' ?_;refine rl hI ?_);simp;exact rfl,show p=(pre++(p8 b++[lo,45]))++([hi]++post) from by refine rr hp ?_;simp]
  exact this
 refine rr hc2 ?_
 rw[if_pos (by simp)]
 have hp1:((σ.put ac []).put ac ([]++[HV.str (p8 b++[lo])])) ac=some ([]++[HV.str (p8 b++[lo])]):=g0
 repeat' walk_at "ev"
 have ln:=c8
 refine D0 hp1 (by show 1<sizeLine;exact c2c ln) ?_
 have hp2:(((σ.put ac []).put ac ([]++[HV.str (p8 b++[lo])])).put ac (([]++[HV.str (p8 b++[lo])])++[HV.str [hi]])) ac=some (([]++[HV.str (p8 b++[lo])])++[HV.str [hi]]):=g0
 repeat' walk_at "ev"
 have hoth:∀ x,x≠ac->(((σ.put ac []).put ac ([]++[HV.str (p8 b++[lo])])).put ac (([]++[HV.str (p8 b++[lo])])++[HV.str [hi]])) x=σ x:=fun x hx=>by rw[j5 hx,j5 hx,j5 hx]
 clear hp0 hp1
 generalize (((σ.put ac []).put ac ([]++[HV.str (p8 b++[lo])])).put ac (([]++[HV.str (p8 b++[lo])])++[HV.str [hi]]))=σ3 at hp2 hoth ⊢
 replace hp2:σ3 ac=some [HV.str (p8 b++[lo]),HV.str [hi]]:=hp2
 refine b30 (i:=1) (by decide) (by decide) ?_
 refine b2s ?_
 show V4 _ [HV.int 1] _ _ _
 unfold V4
 repeat' walk_at "ev"
 refine a05 (by decide) hp2 (c:=.str (p8 b++[lo])) rfl ?_
 repeat' walk_at "ev"
 refine A6 (by decide) (c:=lo) (by cases b<;>rfl) ?_
 repeat' walk_at "ev"
 refine a05 (by decide) hp2 (c:=.str [hi]) rfl ?_
 repeat' walk_at "ev"
 refine A6 (by decide) (c:=hi) rfl ?_
 repeat' walk_at "ev"
 have hfa:=List.all_eq_true.mp (List.all_eq_true.mp (List.all_eq_true.mp b19 lo hlo) hi hhi) b (by cases b<;>simp)
 simp only[Bool.and_eq_true,decide_eq_true_eq] at hfa
 obtain⟨⟨⟨⟨⟨⟨f1,f2⟩,f3⟩,f4⟩,f5⟩,f6⟩,f7⟩:=hfa
 by_cases hlt:hi<lo
 · rw[if_pos (by simpa using hlt)]
   repeat' walk_at "ev"
   refine a6v (by with_unfolding_all rfl) ?_
   repeat' walk_at "ev"
   refine a05 (by decide) hp2 (c:=.str (p8 b++[lo])) rfl ?_
   repeat' walk_at "ev"
   refine a05 (by decide) hp2 (c:=.str [hi]) rfl ?_
   repeat' walk_at "ev"
   rw[show slc (p8 b++[lo]) none (some (-1))=p8 b from by cases b<;>rfl,show slc [hi] (some 1) none=[] from rfl]
   refine y9 (by show _+0<=_;exact c5m ln hbl) ?_
   repeat' walk_at "ev"
   refine⟨ac,_,0,rfl,rfl,hp2,by decide,(by show 0<2;decide),?_⟩
   repeat' walk_at "ev"
   refine b66 ?_
   repeat' walk_at "ev"
   refine⟨ac,_,1,rfl,rfl,g0,(by show 1<2;decide),(by show 2<1000;decide),?_⟩
   dsimp only
   repeat' walk_at "ev"
   unfold V4
   dsimp only
   show evB _ Γ [gjS] _ (y0 (b0 (stm 11)) gt (some (c,q0))) _ _
   have hr:rgS b lo hi=p8 b:=by
    show p8 b++(if hi<lo then [] else _)=_
    rw[if_pos hlt,List.append_nil]
   refine a48 X (KF:=KF) (σ0:=σ) (b:=b) (lo:=lo) (hi:=hi) (J:=J) (ls:=[p8 b]) (l:=l) (ac:=ac) (ar:=ar) (by walk_at "nm") (by rw[g0];simp) (fun l hl=>by rw[List.mem_singleton.mp hl];exact f7) (by simp) (by rw[hr];exact f2) f3 f4 (by walk_at "nm") (by walk_at "nm") hara hac (fun x hx=>by rw[j5 hx,j5 hx];exact hoth x hx) e4 hl (by walk_at "nm") (fun ρ' σ' q1 q2 q3 q4=>?_) (fun ρ' σ' h=>h)
   refine hK ρ' σ' q1 (fun x hx=>?_) q3 q4
   rw[q2 x hx]
   simp only[P3,List.mem_cons,List.not_mem_nil,or_false,not_or] at hx
   obtain⟨n1,n2,n3,n4,n5,n6⟩:=hx
   simp only[upd,if_neg n1,if_neg n2,if_neg n3,if_neg n4,if_neg n5,if_neg n6]
 · rw[if_neg (by simpa using hlt)]
   repeat' walk_at "ev"
   unfold V4
   dsimp only
   show evB _ Γ [gjS] _ (y0 (b0 (stm 11)) gt (some (c,q0))) _ _
   have hr:rgS b lo hi=p8 b++(P4 lo++[45])++P4 hi:=by
    show p8 b++(if hi<lo then [] else _)=_
    rw[if_neg hlt,List.append_assoc];simp
   refine a48 X (KF:=KF) (σ0:=σ) (b:=b) (lo:=lo) (hi:=hi) (J:=J) (ls:=[p8 b++[lo],[hi]]) (l:=l) (ac:=ac) (ar:=ar) (by walk_at "nm") (by rw[hp2];simp) (fun l hl=>by rcases List.mem_cons.mp hl with rfl | hl;exact f5;rw[List.mem_singleton.mp hl];exact f6) (by simp) (by rw[hr];exact f1) f3 f4 (by walk_at "nm") (by walk_at "nm") hara hac hoth e4 hl (by walk_at "nm") (fun ρ' σ' q1 q2 q3 q4=>?_) (fun ρ' σ' h=>h)
   refine hK ρ' σ' q1 (fun x hx=>?_) q3 q4
   rw[q2 x hx]
   simp only[P3,List.mem_cons,List.not_mem_nil,or_false,not_or] at hx
   obtain⟨n1,n2,n3,n4,n5,n6⟩:=hx
   simp only[upd,if_neg n1,if_neg n2,if_neg n3,if_neg n4,if_neg n5,if_neg n6]
end
end
section
theorem at_1 (pre:List Nat) (a c:Nat) (r:List Nat):at? (pre++a::c::r) ((pre.length+1:Nat):Int)=some c:=by
 rw[at_nat,List.getElem?_append_right (Nat.le_add_right ..),Nat.add_sub_cancel_left];rfl
theorem at_2 (pre:List Nat) (a b c:Nat) (r:List Nat):at? (pre++a::b::c::r) (((pre.length+1:Nat):Int)+1)=some c:=by
 (refine rr (show ((pre.length+1:Nat):Int)+1=((pre.length+2:Nat):Int) from rfl) ?_;refine rr at_nat ?_;refine rr (List.getElem?_append_right (Nat.le_add_right ..)) ?_;refine rr (Nat.add_sub_cancel_left ..) ?_);rfl
section
variable {Γ:Spx}{gt:Loc}{cd:Option (Addr×Str)}
theorem a6j {ρ:Loc}{σ:St}{KF:KS}{p pre post core:List Nat}{b:Bool}{x:Nat}(hc:core.head? = some x) (hx:x≠33) (h93:93 ∉ core) (hp:p=pre++(91::((p8 b++core)++93::post))) (hz:p.length<=200)
 (e1:ρ (Str.ofString "pat")=some (.str p)) (e2:ρ (Str.ofString "n")=some (.int (p.length:Nat))) (e3:ρ (Str.ofString "i")=some (.int ((pre.length+1:Nat):Int)))
 (hK:∀ ρ',ρ' (Str.ofString "j")=some (.int ((pre.length+1+(p8 b++core).length:Nat):Int))->(∀ x,x≠Str.ofString "j" -> ρ' x=ρ x)->evB (fun _=>true) Γ brTail ρ' (y0 (b0 (stm 11)) gt cd) σ KF) :
 evB (fun _=>true) Γ brB ρ (y0 (b0 (stm 11)) gt cd) σ KF:=by
 obtain⟨core',rfl⟩:∃ c',core=x::c':=by
  induction core using List.casesOn with
  | nil=>first | exact c7 hc | exact B5 hc | exact B2 hc | exact j0 hc | contradiction | subst hc
  | cons y c'=>injection hc with hc;exact⟨c',by rw[hc]⟩
 have hbl:(p8 b).length<=1:=by clear hp hK;cases b<;>decide
 have hlen:p.length=pre.length+((p8 b).length+(core'.length+(3+post.length))):=by refine rr hp ?_;simp;exact by simp +arith
 have hx93:x≠93:=fun q=>h93 (q▸List.mem_cons_self ..)
 conv=>arg 3;whnf
 conv=>arg 5;arg 1;whnf
 repeat' walk_at "ev"
 refine o7 (by simp only[decide_eq_true_eq];exact Int.ofNat_lt.mpr ((c6 (lq hlen.symm) (by simp +arith)):(_+1) < _)) ?_
 repeat' walk_at "ev"
 refine A6 (c:=(p8 b++[x]).headD 0) (b8d hlen hz) (by (refine rr (hp ..) ?_;refine rr (at_nat ..) ?_;refine rr (List.getElem?_append_right (Nat.le_add_right ..) ..) ?_;refine rr (Nat.add_sub_cancel_left ..) ?_);cases b<;>simp[p8]) ?_
 repeat' walk_at "ev"
 refine rr U7 ?_
 cases b with
 | true=>
  refine o7 (by rfl) ?_
  repeat' walk_at "ev"
  refine o7 (by simp only[decide_eq_true_eq];simp[p8] at hlen;exact Int.ofNat_lt.mpr ((c6 (lq hlen.symm) (by simp +arith)):((_+1)+1) < _)) ?_
  repeat' walk_at "ev"
  refine A6 (c:=x) (c51 hlen hz) (by refine rr hp ?_;exact at_2 pre 91 33 _ _) ?_
  repeat' walk_at "ev"
  (refine rr y4 ?_;refine k6 (by simpa using hx93) ?_)
  repeat' walk_at "ev"
  refine⟨core'.length+2,?_⟩
  refine a77 (pre:=pre++(91::p8 true)) (post:=post) hz (x::core') [] _ σ _ _ (by refine rr hp ?_;simp) h93 (by walk_at "nm") (by walk_at "nm") (by refine rr i5 ?_;simp[p8];try exact rfl) (by simp) fun ρ' q1 q2=>?_
  have o2:ρ' (Str.ofString "n")=some (.int (p.length:Nat)):=by refine rr (q2 _ (d6 (by decide +kernel))) ?_;walk_at "nm"
  dsimp only
  repeat' walk_at "ev"
  refine k6 (by simp[p8] at hlen ⊢;exact Int.ofNat_lt.mpr ((c6 (lq hlen.symm) (by simp +arith)):(_+(((_+1)+1)+1)) < _)) ?_
  refine hK ρ' (by refine rr q1 ?_;simp[p8];exact by simp +arith) fun x hx=>?_
  refine rr (q2 x hx) ?_
  simp only[upd,if_neg hx]
 | false=>
  refine k6 (by simpa [p8] using hx) ?_
  repeat' walk_at "ev"
  refine o7 (by simp only[decide_eq_true_eq];simp[p8] at hlen;exact Int.ofNat_lt.mpr ((c6 (lq hlen.symm) (by simp +arith)):(_+1) < _)) ?_
  repeat' walk_at "ev"
  refine A6 (c:=x) (b8d hlen hz) (by refine rr hp ?_;exact at_1 pre 91 _ _) ?_
  repeat' walk_at "ev"
  (refine rr y4 ?_;refine k6 (by simpa using hx93) ?_)
  repeat' walk_at "ev"
  refine⟨core'.length+2,?_⟩
  refine a77 (pre:=pre++(91::p8 false)) (post:=post) hz (x::core') [] _ σ _ _ (by refine rr hp ?_;simp) h93 (by walk_at "nm") (by walk_at "nm") (by refine rr i5 ?_;simp[p8];try omega) (by simp) fun ρ' q1 q2=>?_
  have o2:ρ' (Str.ofString "n")=some (.int (p.length:Nat)):=by refine rr (q2 _ (d6 (by decide +kernel))) ?_;walk_at "nm"
  dsimp only
  repeat' walk_at "ev"
  refine k6 (by simp[p8] at hlen ⊢;exact Int.ofNat_lt.mpr ((c6 (lq hlen.symm) (by simp +arith)):(_+((_+1)+1)) < _)) ?_
  refine hK ρ' (by refine rr q1 ?_;simp[p8];exact by simp +arith) fun x hx=>?_
  refine rr (q2 x hx) ?_
  simp only[upd,if_neg hx]
end
end
section
noncomputable abbrev Tk:=Option Pz
noncomputable def tkT:Tk->List Nat
 | none=>[42]
 | some t=>t.txt
noncomputable def trS (acc:List (Option (List Nat))):Tk->List (Option (List Nat))
 | none=>if acc.getLast? = some none then acc else acc++[none]
 | some t=>acc++[some (pcF t)]
noncomputable def prS (st:HV):Option (List Nat)->HV
 | none=>st
 | some s=>.str s
theorem at_0 (pre:List Nat) (c:Nat) (r:List Nat):at? (pre++c::r) (pre.length:Int)=some c:=by
 rw[at_nat,List.getElem?_append_right (Nat.le_refl _),Nat.sub_self];rfl
theorem c0u {α:Type}(l:List α) (x:α):at? (l++[x]) (-1)=some x:=by
 unfold at?
 (refine rr (if_neg (by decide)) ?_;refine rr (show ((l++[x]).length:Int) + -1=((l.length:Nat):Int) from by simp;exact by simp +arith) ?_;refine rr (if_neg (Int.not_lt.mpr (Int.ofNat_le.mpr ((by simp +arith):0<=_)))) ?_);simp
theorem a39:v9 (Str.ofString "*")=[42]:=by kernel_rfl
theorem b07:v9 (Str.ofString "?")=[63]:=by kernel_rfl
theorem b64 (acc:List (Option (List Nat))) (t:Tk):(trS acc t).length<=acc.length+1:=by
 induction t with
 | none=>
  show (if acc.getLast? = some none then acc else acc++[none]).length<=_
  by_cases h:acc.getLast? = some none
  · rw[if_pos h];exact Nat.le_succ _
  · rw[if_neg h,List.length_append];exact Nat.le_refl _
 | some t=>show (acc++[_]).length<=_;rw[List.length_append];exact Nat.le_refl _
theorem a98:∀ x∈endsL,x≠33/\x≠93:=by decide +kernel
theorem b6t (t:Tk):1<=(tkT t).length:=by
 rcases t with _ | (_ | c | ⟨b,lo,hi⟩)
 · decide
 · decide
 · show 1<=(if [42,63,91].contains c=true then [91,c,93] else [c]).length;refine ie rfl (fun _=>?_) fun _=>?_<;>exact Nat.succ_le_succ (Nat.zero_le _)
 · exact Nat.succ_le_succ (Nat.zero_le _)
section
variable {Γ:Spx}{gt:Loc}{c P pat:Addr}{q0:Str}{qs:List (Pos×Str)}{ax:Addr}(X:b0p Γ gt c P q0 pat qs) (g1:gt (Str.ofString "len")=some (.val (.builtin "len"))) (g2:gt (Str.ofString "range")=some (.val (.type "range"))) (g3:gt (Str.ofString "escape")=some (.val (.ref ax))) (hΓ:Γ.f (.ref ax)=some a47)
include X g1 g2 g3 hΓ
theorem b6n {ar:Addr}{st:HV}{p:List Nat}(hp:p.length<=100) :
 ∀ (r:List Tk) (pre:List Nat) (acc:List (Option (List Nat))) (ρ:Loc) (σ:St) (n:Nat) (KF:KS),(∀ t,some t∈r->t.good)->(none∈r->∃ a,st=.val (.ref a))->p=pre++r.flatMap tkT->ρ (Str.ofString "pat")=some (.str p)->ρ (Str.ofString "i")=some (.int (pre.length:Nat))->ρ (Str.ofString "n")=some (.int (p.length:Nat))->
  ρ (Str.ofString "STAR")=some st->ρ (Str.ofString "QUESTION_MARK")=some (.str [46])->ρ (Str.ofString "res")=some (.obj ar)->ρ (Str.ofString "add")=some (.bm ar)->ρ (Str.ofString "escape")=none->ρ (Str.ofString "len")=none->ρ (Str.ofString "range")=none->ρ (Str.ofString "_twin_re_1")=none->σ ar=some (acc.map (prS st))->
  r.length<n->acc.length+r.length<=200->
  (∀ ρ' σ',ρ' (Str.ofString "i")=some (.int (p.length:Nat))->ρ' (Str.ofString "n")=some (.int (p.length:Nat))->ρ' (Str.ofString "res")=some (.obj ar)->σ' ar=some ((r.foldl trS acc).map (prS st))->(∀ x,x≠ar->(σ x).isSome=true->σ' x=σ x)->KF .nx ρ' σ')->
  whL (fun ρ σ K=>evT (fun _=>true) Γ trW.1 ρ (y0 (b0 (stm 11)) gt (some (c,q0))) σ K) (fun ρ σ K=>evB (fun _=>true) Γ trW.2 ρ (y0 (b0 (stm 11)) gt (some (c,q0))) σ K) n ρ σ KF:=by
 have ln:=c8
 intro r
 induction r with
 | nil=>
   intro pre acc ρ σ n KF hg hs hu e1 e2 e3 e4 e5 e6 e7 e8 e9 e10 e11 hl hn hz hK
   obtain⟨n,rfl⟩:∃ m,n=m+1:=⟨n-1,ar8 hn⟩
   refine V3 ?_
   conv=>arg 3;whnf
   conv=>arg 5;arg 1;whnf
   repeat' walk_at "ev"
   have hpl:pre.length=p.length:=by refine rr hu ?_;simp
   refine k6 (by refine rr hpl ?_;simp) ?_
   repeat' walk_at "ev"
   exact hK ρ σ (by refine rl hpl ?_;exact e2) e3 e6 (by simpa using hl) fun _ _ _=>rfl
 | cons t r ih=>
   intro pre acc ρ σ n KF hg hs hu e1 e2 e3 e4 e5 e6 e7 e8 e9 e10 e11 hl hn hz hK
   simp only[List.length_cons] at hn hz
   obtain⟨n,rfl⟩:∃ m,n=m+1:=⟨n-1,ar7 hn⟩
   have hu':p=pre++(tkT t++r.flatMap tkT):=by refine rr hu ?_;simp
   have hlen:p.length=pre.length+((tkT t).length+(r.flatMap tkT).length):=by refine rr hu' ?_;simp
   have ht1:=b6t t
   have go:∀ (ρ2:Loc) (σ₂:St),ρ2 (Str.ofString "i")=some (.int ((pre.length+(tkT t).length:Nat):Int))->(∀ x,x ∉ Str.ofString "c" :: P3->ρ2 x=ρ x)->σ₂ ar=some ((trS acc t).map (prS st))->(∀ x,x≠ar->(σ x).isSome=true->σ₂ x=σ x)->
    whL (fun ρ σ K=>evT (fun _=>true) Γ trW.1 ρ (y0 (b0 (stm 11)) gt (some (c,q0))) σ K) (fun ρ σ K=>evB (fun _=>true) Γ trW.2 ρ (y0 (b0 (stm 11)) gt (some (c,q0))) σ K) n ρ2 σ₂ KF:=fun ρ2 σ₂ f1 f2 f9 f10=>by
    have k:∀ x,decide (x ∉ Str.ofString "c" :: P3)=true->ρ2 x=ρ x:=fun x hx=>f2 x (by simpa using hx)
    refine ih (pre++tkT t) (trS acc t) ρ2 σ₂ n KF (fun t h=>hg t (List.mem_cons_of_mem _ h)) (fun h=>hs (List.mem_cons_of_mem _ h)) (by refine rr hu' ?_;simp) (by refine rr (k _ (by decide +kernel)) ?_;exact e1) (by refine rr List.length_append ?_;exact f1) (by refine rr (k _ (by decide +kernel)) ?_;exact e3) (by refine rr (k _ (by decide +kernel)) ?_;exact e4) (by refine rr (k _ (by decide +kernel)) ?_;exact e5) (by refine rr (k _ (by decide +kernel)) ?_;exact e6) (by refine rr (k _ (by decide +kernel)) ?_;exact e7) (by refine rr (k _ (by decide +kernel)) ?_;exact e8) (by refine rr (k _ (by decide +kernel)) ?_;exact e9) (by refine rr (k _ (by decide +kernel)) ?_;exact e10) (by refine rr (k _ (by decide +kernel)) ?_;exact e11) f9 (ar0 hn) ?_ fun ρ' σ' q1 q2 q3 q4 q5=>hK ρ' σ' q1 q2 q3 q4 fun x hx hsx=>?_
    · have:=b64 acc t;exact c6 (ad hz this) (by simp +arith)
    · (refine rr (q5 x hx (by refine rr (f10 x hx hsx) ?_;exact hsx)) ?_;rw[f10 x hx hsx])
   obtain⟨c0,w0,hw⟩:∃ c0 w0,tkT t=c0::w0:=by
    induction h:tkT t using List.casesOn with
    | nil=>rw[h] at ht1;exact absurd ht1 (by decide)
    | cons c0 w0=>exact(a86 c0 w0 rfl)
   have hat:at? p (pre.length:Int)=some c0:=by (refine rr hu' ?_;refine rr hw ?_);exact at_0 pre c0 _
   refine V3 ?_
   conv=>arg 3;whnf
   conv=>arg 5;arg 1;whnf
   repeat' walk_at "ev"
   refine o7 (by simp;exact b7x ht1 hlen) ?_
   refine a3l fun KF' hKF'=>?_
   conv=>arg 3;whnf
   conv=>arg 5;arg 1;whnf
   repeat' walk_at "ev"
   refine A6 (c2j hlen hp) hat ?_
   repeat' walk_at "ev"
   refine rr a39 ?_
   rcases t with _ | t
   · obtain⟨rfl,rfl⟩:c0=42/\w0=[]:=by injection hw with h1 h2;exact⟨h1.symm,h2.symm⟩
     (refine o_e (hs (List.mem_cons_self ..)) fun star z98=>?_;subst z98)
     refine o7 (by rfl) ?_
     repeat' walk_at "ev"
     have fin:∀ (ρ2:Loc) (σ₂:St),ρ2 (Str.ofString "i")=some (.int ((pre.length:Int)+1))->(∀ x,x ∉ Str.ofString "c" :: P3->ρ2 x=ρ x)->σ₂ ar=some ((trS acc none).map (prS (.val (.ref star))))->(∀ x,x≠ar->(σ x).isSome=true->σ₂ x=σ x)->whL (fun ρ σ K=>evT (fun _=>true) Γ trW.1 ρ (y0 (b0 (stm 11)) gt (some (c,q0))) σ K) (fun ρ σ K=>evB (fun _=>true) Γ trW.2 ρ (y0 (b0 (stm 11)) gt (some (c,q0))) σ K) n ρ2 σ₂ KF:=fun ρ2 σ₂ f1 f2 f3 f4=>go ρ2 σ₂ f1 f2 f3 f4
     rcases List.eq_nil_or_concat acc with rfl | ⟨acc',x,hax⟩
     · refine o7 (by rfl) ?_
       repeat' walk_at "ev"
       refine a02 hl (by simp;exact c50 ln) ?_
       repeat' walk_at "ev"
       refine fin _ _ ?_ ?_ ?_ ?_
       · walk_at "nm"
       · intro x hx
         simp only[P3,List.mem_cons,List.not_mem_nil,or_false,not_or] at hx
         refine E8 hx fun n0 n1 n2 n3 n4 n5 n6=>?_
         simp only[upd,if_neg n0,if_neg n5]
       · refine rr g0 ?_;simp[trS,prS]
       · intro x hx _;exact j5 hx
     · rw[List.concat_eq_append] at hax
       subst hax
       refine k6 (by simp) ?_
       repeat' walk_at "ev"
       have hla:at? ((acc'++[x]).map (prS (.val (.ref star)))) (-1)=some (prS (.val (.ref star)) x):=by refine rr List.map_append ?_;exact c0u _ _
       refine a05 (by decide) hl hla ?_
       repeat' walk_at "ev"
       induction x with
       | none=>
         refine W2 rfl ?_
         repeat' walk_at "ev"
         refine fin _ _ ?_ ?_ ?_ ?_
         · walk_at "nm"
         · intro x hx
           simp only[P3,List.mem_cons,List.not_mem_nil,or_false,not_or] at hx
           refine E8 hx fun n0 n1 n2 n3 n4 n5 n6=>?_
           simp only[upd,if_neg n0,if_neg n5]
         · refine rr hl ?_;simp[trS]
         · intro x hx _;rfl
       | some s=>
         refine Q7 ?_
         repeat' walk_at "ev"
         refine a02 hl (by refine rr (List.length_map ..) ?_;exact c0v hz ln) ?_
         repeat' walk_at "ev"
         refine fin _ _ ?_ ?_ ?_ ?_
         · walk_at "nm"
         · intro x hx
           simp only[P3,List.mem_cons,List.not_mem_nil,or_false,not_or] at hx
           refine E8 hx fun n0 n1 n2 n3 n4 n5 n6=>?_
           simp only[upd,if_neg n0,if_neg n5]
         · refine rr g0 ?_;simp[trS,prS]
         · intro x hx _;exact j5 hx
   · induction t using Pz.casesOn with
     | qm=>
      obtain⟨rfl,rfl⟩:c0=63/\w0=[]:=by injection hw with h1 h2;exact⟨h1.symm,h2.symm⟩
      refine k6 (by decide) ?_
      repeat' walk_at "ev"
      (refine rr b07 ?_;refine o7 (by rfl) ?_)
      repeat' walk_at "ev"
      refine a02 hl (by simp;exact c0v hz ln) ?_
      repeat' walk_at "ev"
      refine go _ _ ?_ ?_ ?_ ?_
      · exact(show _=some (HV.int ((pre.length:Int)+1)) from by walk_at "nm")
      · intro x hx
        simp only[P3,List.mem_cons,List.not_mem_nil,or_false,not_or] at hx
        refine E8 hx fun n0 n1 n2 n3 n4 n5 n6=>?_
        simp only[upd,if_neg n0,if_neg n5]
      · refine rr g0 ?_;simp[trS,prS,pcF]
      · intro x hx _;exact j5 hx
     | one d=>
      have hd256:d<256:=hg (.one d) (List.mem_cons_self ..)
      by_cases hd:[42,63,91].contains d=true
      · have hw2:tkT (some (.one d))=[91,d,93]:=if_pos hd
        rw[hw2] at hw
        obtain⟨rfl,rfl⟩:c0=91/\w0=[d,93]:=by injection hw with h1 h2;exact⟨h1.symm,h2.symm⟩
        refine k6 (by decide) ?_
        repeat' walk_at "ev"
        (refine rr b07 ?_;refine k6 (by decide) ?_)
        repeat' walk_at "ev"
        (refine rr t9 ?_;refine o7 (by decide) ?_)
        rw[hw2] at hu' go
        have h3:d=42\/d=63\/d=91:=by simpa using hd
        refine a6j (core:=[d]) (b:=false) (x:=d) (pre:=pre) (post:=r.flatMap tkT) (p:=p) rfl (by rcases h3 with rfl | rfl | rfl<;>decide) (by rcases h3 with rfl | rfl | rfl<;>decide) (by refine rr hu' ?_;rfl) (b28 hp) ?_ ?_ ?_ fun ρ' q1 q2=>?_
        · walk_at "nm"
        · walk_at "nm"
        · exact(show _=some (HV.int ((pre.length:Int)+1)) from by walk_at "nm")
        have q2':∀ x,x ∉ Str.ofString "c" :: P3->ρ' x=ρ x:=fun x hx=>by
         simp only[P3,List.mem_cons,List.not_mem_nil,or_false,not_or] at hx
         refine E8 hx fun n0 n1 n2 n3 n4 n5 n6=>?_
         refine rr (q2 x n1) ?_
         simp only[upd,if_neg n0,if_neg n5]
        have k:∀ x,decide (x ∉ Str.ofString "c" :: P3)=true->ρ' x=ρ x:=fun x hx=>q2' x (by simpa using hx)
        refine b57 X (I:=pre.length+1) (ar:=ar) (l:=acc.map (prS st)) hd (by refine rr (k _ (by decide +kernel)) ?_;exact e1) (by refine rr (q2 _ (d6 (by decide +kernel))) ?_;exact(show _=some (HV.int ((pre.length:Int)+1)) from by walk_at "nm")) q1 ?_ (by refine rr (k _ (by decide +kernel)) ?_;exact e7) hl (by refine rr (List.length_map ..) ?_;exact b94 hz) (by refine rr (k _ (by decide +kernel)) ?_;exact e11) fun ρ2 σ₂ f1 f2 f3 f4=>?_
        · have:=a09 (pre++[91]) [d] (93::r.flatMap tkT)
          rw[List.length_append] at this
          refine rr hu' ?_
          simpa using this
        have hfin:=go ρ2 σ₂ f1 (fun x hx=>by refine rr (f2 x (fun h=>hx (List.mem_cons_of_mem _ h))) ?_;exact q2' x hx) (by refine rr f3 ?_;show _=some ((acc++[some (pcF (.one d))]).map (prS st));refine rr (show pcF (.one d)=a5g [d] from if_pos hd) ?_;simp[prS]) f4
        try dsimp only
        repeat' walk_at "ev"
        exact hfin
      · have hw2:tkT (some (.one d))=[d]:=if_neg hd
        rw[hw2] at hw
        obtain⟨rfl,rfl⟩:c0=d/\w0=[]:=by injection hw with h1 h2;exact⟨h1.symm,h2.symm⟩
        obtain⟨n1,n2,n3⟩:c0≠42/\c0≠63/\c0≠91:=by simpa using hd
        refine k6 (by simpa using n1) ?_
        repeat' walk_at "ev"
        (refine rr b07 ?_;refine k6 (by simpa using n2) ?_)
        repeat' walk_at "ev"
        (refine rr t9 ?_;refine k6 (by simpa using n3) ?_)
        rw[hw2] at hu' go
        repeat' walk_at "ev"
        refine M2 hΓ (y7 c0 rfl hd256 ?_)
        repeat' walk_at "ev"
        refine a02 hl (by simp;exact c0v hz ln) ?_
        repeat' walk_at "ev"
        refine go _ _ ?_ ?_ ?_ ?_
        · exact(show _=some (HV.int ((pre.length:Int)+1)) from by walk_at "nm")
        · intro x hx
          simp only[P3,List.mem_cons,List.not_mem_nil,or_false,not_or] at hx
          refine E8 hx fun n0 n1 n2 n3 n4 n5 n6=>?_
          simp only[upd,if_neg n0,if_neg n5]
        · refine rr g0 ?_;show _=some ((acc++[some (pcF (.one c0))]).map (prS st));refine rr (show pcF (.one c0)=a5l c0 from if_neg hd) ?_;simp[prS]
        · intro x hx _;exact j5 hx
     | rg b lo hi=>
      obtain⟨hlo,hhi⟩:lo∈endsL/\hi∈endsL:=hg (.rg b lo hi) (List.mem_cons_self ..)
      have hw2:tkT (some (.rg b lo hi))=91::(p8 b++[lo,45,hi,93]):=rfl
      rw[hw2] at hw
      obtain⟨rfl,rfl⟩:c0=91/\w0=p8 b++[lo,45,hi,93]:=by injection hw with h1 h2;exact⟨h1.symm,h2.symm⟩
      refine k6 (by decide) ?_
      repeat' walk_at "ev"
      (refine rr b07 ?_;refine k6 (by decide) ?_)
      repeat' walk_at "ev"
      (refine rr t9 ?_;refine o7 (by decide) ?_)
      rw[hw2] at hu' go
      have o1:=a98 lo hlo
      have o2:=a98 hi hhi
      refine a6j (core:=[lo,45,hi]) (b:=b) (x:=lo) (pre:=pre) (post:=r.flatMap tkT) (p:=p) rfl o1.1 (by simp;exact⟨Ne.symm o1.2,Ne.symm o2.2⟩) (by refine rr hu' ?_;simp) (b28 hp) ?_ ?_ ?_ fun ρ' q1 q2=>?_
      · walk_at "nm"
      · walk_at "nm"
      · exact(show _=some (HV.int ((pre.length:Int)+1)) from by walk_at "nm")
      have q2':∀ x,x ∉ Str.ofString "c" :: P3->ρ' x=ρ x:=fun x hx=>by
       simp only[P3,List.mem_cons,List.not_mem_nil,or_false,not_or] at hx
       refine E8 hx fun n0 n1 n2 n3 n4 n5 n6=>?_
       refine rr (q2 x n1) ?_
       simp only[upd,if_neg n0,if_neg n5]
      have k:∀ x,decide (x ∉ Str.ofString "c" :: P3)=true->ρ' x=ρ x:=fun x hx=>q2' x (by simpa using hx)
      refine b72 X g1 g2 (I:=pre.length+1) (pre:=pre++[91]) (post:=93::r.flatMap tkT) (p:=p) (b:=b) (lo:=lo) (hi:=hi) (ar:=ar) (l:=acc.map (prS st)) hlo hhi (by refine rr hu' ?_;simp) (b28 hp) (by simp) rfl (by refine rr (k _ (by decide +kernel)) ?_;exact e1) (by refine rr (q2 _ (d6 (by decide +kernel))) ?_;exact(show _=some (HV.int ((pre.length:Int)+1)) from by walk_at "nm")) q1 (by refine rr (k _ (by decide +kernel)) ?_;exact e7) hl (by refine rr (List.length_map ..) ?_;exact b94 hz) (by refine rr (k _ (by decide +kernel)) ?_;exact e11) (by refine rr (k _ (by decide +kernel)) ?_;exact e9) (by refine rr (k _ (by decide +kernel)) ?_;exact e10) fun ρ2 σ₂ f1 f2 f3 f4=>?_
      have hfin:=go ρ2 σ₂ (by refine rr f1 ?_;simp;exact by simp +arith) (fun x hx=>by refine rr (f2 x (fun h=>hx (List.mem_cons_of_mem _ h))) ?_;exact q2' x hx) (by refine rr f3 ?_;simp[trS,prS]) f4
      try dsimp only
      repeat' walk_at "ev"
      exact hfin
end
end
section
noncomputable def a2r:Spec:=fun hs σ K=>∃ (ts:List Tk) (st:HV),hs=[.str (ts.flatMap tkT),st,.str [46]]/\(ts.flatMap tkT).length<=100/\ts.length<=50/\(∀ t,some t∈ts->t.good)/\(none∈ts->∃ a,st=.val (.ref a))/\(st=.none\/∃ a,st=.val (.ref a))/\K (.list ((ts.foldl trS []).map (prS st))) σ
theorem a5n {cd:Option (Addr×Str)}{mu:Pos->Bool}{Γ:Spx}{sc:Scope}{gt:Loc}{ps:List Str}{body:List Stmt}{hs:List HV}{σ:St}{K:KV}(hl:hs.length=ps.length)
 (h:∀ KF:KS,(∀ fl (ρ:Loc) σ',(∃ h h',fl=Fl.rt h/\frz σ σ' h=some h'/\K h' (within σ σ'))->KF fl ρ σ')->evB mu Γ body (T8 ps hs) (y0 sc gt cd) σ KF):a03 cd mu Γ sc gt ps body hs σ K:=by
 unfold a03
 refine rr (Q6 ..) ?_
 exact⟨hl,h _ fun _ _ _ k=>k⟩
section
variable {Γ:Spx}{gt:Loc}{c P pat:Addr}{q0:Str}{qs:List (Pos×Str)}{ax:Addr}(X:b0p Γ gt c P q0 pat qs) (g1:gt (Str.ofString "len")=some (.val (.builtin "len"))) (g2:gt (Str.ofString "range")=some (.val (.type "range"))) (g3:gt (Str.ofString "escape")=some (.val (.ref ax))) (hΓ:Γ.f (.ref ax)=some a47)
include X g1 g2 g3 hΓ
theorem b5h {hs:List HV}{σ:St}{K:KV}(H:a2r hs σ K):a03 (some (c,q0)) (fun _=>true) Γ (b0 (stm 11)) gt [Str.ofString "pat",Str.ofString "STAR",Str.ofString "QUESTION_MARK"] (n7 (stm 11)) hs σ K:=by
 (refine H9 H fun ts st z471 hp hl hg z472=>?_;clear H;refine rr z471 ?_;refine M4 z472 fun hs hst hK=>?_)
 have ln:=c8
 refine a5n rfl fun KF hKF=>?_
 conv=>arg 3;whnf
 conv=>arg 5;arg 1;whnf
 simp only[D6,D5]
 repeat' walk_at "ev"
 intro ar har
 repeat' walk_at "ev"
 refine(y7 ar rfl (by refine rr g0 ?_;rfl) ?_)
 repeat' walk_at "ev"
 refine⟨ts.length+1,?_⟩
 refine b6n X g1 g2 g3 hΓ (ar:=ar) (st:=st) hp ts [] [] _ _ _ _ hg hs rfl ?_ ?_ ?_ ?_ ?_ ?_ ?_ ?_ ?_ ?_ ?_ ?_ (Nat.lt_succ_self _) (by simp;exact b7z hl) fun ρ' σ' q1 q2 q3 q4 q5=>?_
 · walk_at "nm"
 · show _=some (HV.int 0)
   walk_at "nm"
 · walk_at "nm"
 · walk_at "nm"
 · walk_at "nm"
 · walk_at "nm"
 · walk_at "nm"
 · walk_at "nm"
 · walk_at "nm"
 · walk_at "nm"
 · walk_at "nm"
 · refine rr g0 ?_;rfl
 dsimp only
 repeat' walk_at "ev"
 refine⟨by simp,?_⟩
 repeat' walk_at "ev"
 have hw:within σ σ'=σ:=Ag.within fun x hx=>by
  have hxa:x≠ar:=fun q=>by rw[q,har] at hx;exact j0 hx
  (refine rr (q5 x hxa (by refine rr (j5 hxa) ?_;exact hx)) ?_;exact rr (j5 hxa) rfl)
 refine(j7 (.obj ar) (.list ((ts.foldl trS []).map (prS st))) rfl ?_ (by refine rr hw ?_;exact hK))
 simp only[frz,har,q4];rfl
end
theorem a1g (a b:A7) (r:List A7):E9 (a::b::r)=((a.isSome||b.isSome)&&E9 (b::r)):=by
 cases a<;>cases b<;>rfl
theorem a2h:∀ (l:List A7) (x:A7),E9 l=true->(l.getLast? = some none->x≠none)->E9 (l++[x])=true
 | [],x,_,_=>by cases x<;>rfl
 | [a],x,_,h=>by
  refine rr (a1g ..) ?_
  have:E9 [x]=true:=by clear h;cases x<;>rfl
  (refine rr this ?_;refine rr (Bool.and_true ..) ?_)
  induction a using Option.casesOn with
  | some s=>rfl
  | none=>
   induction x using Option.casesOn with
   | some s=>rfl
   | none=>exact absurd rfl (h rfl)
 | a::b::r,x,h1,h2=>by
  show E9 (a::b::(r++[x]))=true
  rw[a1g] at h1 ⊢
  simp only[Bool.and_eq_true] at h1 ⊢
  refine⟨h1.1,?_⟩
  exact a2h (b::r) x h1.2 (by exact h2)
theorem c02 (acc:List A7) (t:Tk) (hg:∀ z,t=some z->z.good) (h1:E9 acc=true) (h2:∀ s,some s∈acc->s.length<=12):E9 (trS acc t)=true/\(∀ s,some s∈trS acc t->s.length<=12)/\(trS acc t).length<=acc.length+1:=by
 have add:∀ x:A7,(acc.getLast? = some none->x≠none)->(∀ s,x=some s->s.length<=12)->E9 (acc++[x])=true/\(∀ s,some s∈acc++[x]->s.length<=12)/\(acc++[x]).length<=acc.length+1:=fun x hx hs=>
  (A8 (a2h acc x h1 hx) (fun s hm=>by
   rcases List.mem_append.mp hm with q | q
   · exact h2 s q
   · exact hs s (List.mem_singleton.mp q).symm) (by simp))
 induction t with
 | none=>
  show E9 (if acc.getLast? = some none then acc else acc++[none])=true/\(∀ s,some s∈(if acc.getLast? = some none then acc else acc++[none])->s.length<=12)/\(if acc.getLast? = some none then acc else acc++[none]).length<=acc.length+1
  by_cases hl:acc.getLast? = some none
  · refine rr (if_pos hl) ?_;exact(A8 h1 h2 (Nat.le_succ _))
  · refine rr (if_neg hl) ?_;exact add none (fun q=>absurd q hl) (fun s q=>nomatch q)
 | some z=>exact add _ (fun _ q=>nomatch q) (fun s q=>by injection q with q;refine rl q ?_;exact(P5 z (hg z rfl)).2.2.1)
theorem a4v:∀ (ts:List Tk) (acc:List A7),(∀ t,some t∈ts->t.good)->E9 acc=true->(∀ s,some s∈acc->s.length<=12)->
 E9 (ts.foldl trS acc)=true/\(∀ s,some s∈ts.foldl trS acc->s.length<=12)/\(ts.foldl trS acc).length<=acc.length+ts.length
 | [],acc,_,h1,h2=>(A8 h1 h2 (Nat.le_refl _))
 | t::ts,acc,hg,h1,h2=>by
  refine M4 (c02 acc t (fun z hz=>hg z (hz▸List.mem_cons_self ..)) h1 h2) fun a b d=>?_
  refine M4 (a4v ts (trS acc t) (fun z hz=>hg z (List.mem_cons_of_mem _ hz)) a b) fun x y z=>?_
  exact(A8 x y (by simp only[List.foldl_cons,List.length_cons];lia))
noncomputable def a9m:Spec:=fun hs σ K=>∃ ts:List Tk,hs=[.str (ts.flatMap tkT)]/\(ts.flatMap tkT).length<=100/\ts.length<=50/\(∀ t,some t∈ts->t.good)/\K (.str (G9 (ts.foldl trS []))) σ
theorem b5c {Γ:Spx}{gt:Loc}{at' aj:Addr}(g1:gt (Str.ofString "_translate")=some (.val (.ref at'))) (g2:gt (Str.ofString "_join_translated_parts")=some (.val (.ref aj))) (g3:gt (Str.ofString "object")=some (.val (.type "object")))
 (hΓ1:Γ.f (.ref at')=some a2r) (hΓ2:Γ.f (.ref aj)=some a2w)
 {hs:List HV}{σ:St}{K:KV}(H:a9m hs σ K):B6 (fun _=>true) Γ (b0 (stm 6)) gt [Str.ofString "pat"] (n7 (stm 6)) hs σ K:=by
 (refine K8 H fun ts z519 hp hl z520=>?_;clear H;refine rr z519 ?_;refine o_a z520 fun hg hK=>?_)
 refine M4 (a4v ts [] hg rfl (fun s h=>nomatch h)) fun h1 h2 h3=>?_
 refine p6 rfl fun KF hKF=>?_
 conv=>arg 3;whnf
 conv=>arg 5;arg 1;whnf
 simp only[D6,D5]
 repeat' walk_at "ev"
 refine c3j fun star=>?_
 repeat' walk_at "ev"
 refine M2 hΓ1 (I0 ts (.val (.ref star)) (by exact rr (show v9 (Str.ofString ".")=[46] from N0) rfl) hp hl hg ⟨fun _=>⟨star,rfl⟩,.inr ⟨star,rfl⟩,?_⟩)
 repeat' walk_at "ev"
 refine M2 hΓ2 (I0 (ts.foldl trS []) star (by congr 2) (by simp at h3;lia) (fun s hs=>Nat.le_trans (h2 s hs) (by decide)) h1 ?_)
 repeat' walk_at "ev"
 refine rr o0 ?_;exact hK
end
section
structure a5q (B0:Heap) (gt:Loc) (a3:Addr):Prop where
 f3:∃ fd,FnK B0 a3 (stm 3) fd .none
 f2:∃ a fd,FnK B0 a (stm 2) fd .none/\gt (tN "read_uint1")=some (.val (.ref a))
 gt':a5r gt
section
variable {prog:Program}{w:World}{B0:Heap}{os:OsState}{gs:TQ}{mg mb:Str->Option Value}{n:Nat}{gt:Loc}
theorem a4r (T:TopB B0 mg mb){fd:FuncData}{ps:List Str}{e:Expr}{gt ρf:Loc}{a:Addr}{o:Obj}(D:N9 { fd with body:=.stmts [] } ps []) (hbody:fd.body=.expr e) (hg:I1 mg mb gt){A:Around}{l:List Env}{ω:Own}{s:Shared}{σ:St}{K:KG}{KX:KXG}{hs:List HV}{vs args:List Value}
 (hX:K3 KX) (hK:a1w K) (Rm:Room (n+1) A) (Ks:Stk ω A l) (S:MS B0 os ω gs s) (R:RelS ω σ) (r:RdL ω hs vs) (hlen:hs.length=ps.length) (hbind:BindsTo s fd ⟨args,[]⟩ (ps.zip vs)) (ho:s.heap.get? a=some o) (hd:o.data=.func fd) (hcd:s.heap.CodeRec fd.code fd.qualname) (hfr:FreeOk ω fd.scope fd.closure ρf)
 (H:∀ (env:Env) (A':Around) (ω₁:Own) (s₁:Shared),env.frame=some env.locals->EnvOk mg mb env ω₁ (C4 ρf ps hs) (d7 fd.scope gt)->Room n A'->Stk ω₁ A' (env::l)->MS B0 os ω₁ gs s₁->RelS ω₁ σ->ω env.locals=none->(∀ b m,ω b=some m->(∀ vs,m≠.lst vs)->ω₁ b=some m)->
  wpAny (model prog w) A' (eval e env) (fun v s'=>a6i B0 os env ω₁ K (.ret v) s') (a2c B0 os env ω₁ KX) s₁) :
 wpAny (model prog w) A (call (.ref a) args []) (J0 B0 os ω K) (RaisG B0 os ω KX) s:=by
 refine wpAny_call (a72 Rm.lim ho hd (T.lim S) hcd hbody hbind D.cells ?_ ?_ D.co D.gen D.kind)
 · intro x hx
   exact D.kinds x.1 (List.of_mem_zip (a:=x.1) (b:=x.2) hx).1
 · intro h₀ hns hk
   have S₁:MS B0 os ω gs { s with heap:=h₀,toks:=s.toks+(ps.zip vs).length }:=S.keeps hk _
   have hun:j3 σ ω s.heap.objs.size=none:=by
    rw[hide_none]
    induction q:ω s.heap.objs.size with
    | none=>rfl
    | some m=>exact absurd (S.hold _ _ q).lt (Nat.lt_irrefl _)
   have S₃:=(S₁.hide σ).adopt (a:=s.heap.objs.size) (m:=.ns _) hns S.size (fun o q=>by rw[hun] at q;exact c7 q)
   have l₃:Le (j3 σ ω) ((j3 σ ω).set s.heap.objs.size (.ns fun x=>(ps.zip vs).reverse.lookup x)):=Le.new _ hun
   have R₃:=R.hide.new (m:=.ns fun x=>(ps.zip vs).reverse.lookup x) hun
   have fl:LeF ω ((j3 σ ω).set s.heap.objs.size (.ns fun x=>(ps.zip vs).reverse.lookup x)):=hide_f.trans l₃.f
   have other:∀ b m,ω b=some m->(∀ vs,m≠.lst vs)->((j3 σ ω).set s.heap.objs.size (.ns fun x=>(ps.zip vs).reverse.lookup x)) b=some m:=fun b m e hm=>by
    (refine rr (Own.set_ne _ _ (fun q=>by subst q;have:=hide_none.mp hun;rw[this] at e;exact c7 e)) ?_;refine rr (A9 (fun us q=>by rw[e] at q;(replace q:=Option.some.inj q;clear e;subst q);exact hm us rfl)) ?_;exact rr e rfl)
   have O:EnvOk mg mb (callEnv fd s.heap.objs.size a) _ (C4 ρf ps hs) (d7 fd.scope gt):=Z9 (fd:={ fd with body:=.stmts [] }) (L:=s.heap.objs.size) (a:=a) D hg (r.monoF fl) (fun x h e=>by
    refine q9 (hfr x h e) fun k c v h1 h2 h3=>?_
    exact(u5 k c v h1 ⟨other _ _ h2 (fun _ q=>by contradiction),h3.monoF fl⟩)) (Own.set_self ..)
   have Ks':Stk ((j3 σ ω).set s.heap.objs.size (.ns fun x=>(ps.zip vs).reverse.lookup x)) (A.deeper (callEnv fd s.heap.objs.size a)) (callEnv fd s.heap.objs.size a::l):=by
    refine⟨Around.frames_deeper Ks.frames,fun e he=>?_⟩
    rcases List.mem_cons.mp he with rfl | he
    · exact(u5 (by refine rr O.kind ?_;decide) _ _ rfl (Own.set_self ..))
    · refine G0 (Ks.ok e he) fun k L' m' h1 h2=>?_
      exact(u5 k L' m' h1 (other _ _ h2 (fun _ q=>by contradiction)))
   refine wpAny_mono (H (callEnv fd s.heap.objs.size a) _ _ _ rfl O Rm.deeper Ks' S₃ R₃ (hide_none.mp hun) other) (fun f s' q=>?_) fun e s' q=>?_
   · obtain⟨v,h,ω',σ',gs',e1,l',S',R',rv,k⟩:=q
     (injection e1 with e1;refine rr e1 ?_)
     have l6:Le (j3 σ ω) ω':=((l₃.s s.heap.objs.size).trans l').le hun
     exact⟨h,F3 σ ω ω',σ',gs',T0 l6,S.backS l6 S',(k7 l6).rel R',rv.monoF (k7 l6).f,hK _ _ _ _ _ (k7 l6) k⟩
   · refine a0b hX Ks' rfl q fun s'' x ω' σ' gs' cls msg t e' l' S' R' F hA k=>?_
     have l6:Le (j3 σ ω) ω':=((l₃.s s.heap.objs.size).trans l').le hun
     exact⟨x,F3 σ ω ω',σ',gs',cls,msg,t,e',T0 l6,S.backS l6 S',(k7 l6).rel R',F.backF l6,hA.monoF (k7 l6).f,hX _ _ _ _ _ _ (k7 l6) k⟩
theorem b6c (TB:TopB B0 mg mb) (hg:I1 mg mb gt){a3:Addr}(F:a5q B0 gt a3){A:Around}{E:Value->Shared->Prop}{env:Env}{l:List Env}{ω:Own}{s:Shared}{σ:St}{ρ:Loc}{G:GC}{f x:Str}{q pos q':Pos}{Q:Value->Shared->Prop}{T P K:Addr}{octets:List UInt8}{fo:FuncData}{ρf:Loc}{p:Nat}
 (Rm:Room (n+1+1+1) A) (O:EnvOk mg mb env ω ρ G) (S:MS B0 os ω gs s) (R:RelS ω σ) (Ks:Stk ω A l) (H:TapeAt ω T P K octets fo ρf) (hp:σ P=some [.int (p:Nat)]) (hpl:p<=octets.length)
 (hf:G.g f=some (.val (.ref a3))) (hx:ρ x=some (.val (.ref T)))
 (H1:∀ v t p' ω' s',Le ω ω'->MS B0 os ω' gs s'->RelS ω' (σ.put P [.int (p':Nat)])->Rd ω' (.str t) v->rdF octets p=some (t,p')->Q v s')
 (H2:∀ e s',RaisG B0 os ω (fun cls msg _ σ' gs'=>rdF octets p=none/\cls = "ValueError" /\ msg=rdW octets p/\σ'=σ.put P [.int (octets.length:Nat)]/\gs'=gs) e s'->E e s') :
 wpAny (model prog w) A (eval (.Call (.Name f q) [.Name x q'] [] pos) env) Q E s:=by
 refine o_e F.f3 fun fd15 F15=>?_
 refine I9 F.f2 fun a14 fd14 F14 g14=>?_
 refine u9 F15.at'.at' fun o ho hd hcd=>?_
 refine a4a (mu:=fun _=>false) (Γ:=sp0 _) (n:=n+1+1+1) (N:=fun hs σ'=>hs=[.val (.ref T)]/\σ'=σ) (o:=o) (fd:=fd15) TB Rm O S R (fa:=a3) hf rfl (u7 (okE TB (j8 (n:=n+1+1+1)) _) C3) ?_ ?_
 · refine a7m ?_
   refine X5 hx ?_
   refine V9 ?_
   exact⟨rfl,rfl⟩
 intro hs ω₂ σ₂ vs s₂ l₂ S₂ R₂ r₂ k₂
 obtain⟨rfl,rfl⟩:=k₂
 (refine c9 r₂.one fun u z375 ru=>?_;refine rr z375 ?_)
 simp only[Rd] at ru
 refine rr ru ?_
 refine⟨⟨S₂.top ho hd,hcd⟩,?_⟩
 refine wpAny_mono (b6y (n:=n) TB hg F.gt' F15 F14 g14 Rm (Ks.mono l₂.w) S₂ R₂ (H.monoW l₂.w) hp hpl) (fun v s' q=>?_) fun e s' q=>H2 e s' (q.up l₂)
 obtain⟨h,ω',σ',gs',l',S',R',r',t,p',k1,rfl,rfl,rfl⟩:=q
 exact H1 v t p' ω' s' (l₂.trans l') S' R' r' k1
theorem a4x (TB:TopB B0 mg mb) (hg:I1 mg mb gt){a3:Addr}(F:a5q B0 gt a3){A:Around}{E:Value->Shared->Prop}{env:Env}{l:List Env}{ω:Own}{s:Shared}{σ:St}{ρ:Loc}{G:GC}{f x:Str}{q pos q' pl:Pos}{Q:Value->Shared->Prop}{T P K:Addr}{octets:List UInt8}{fo:FuncData}{ρf:Loc}{p:Nat}
 (Rm:Room (n+1+1+1) A) (O:EnvOk mg mb env ω ρ G) (S:MS B0 os ω gs s) (R:RelS ω σ) (Ks:Stk ω A l) (H:TapeAt ω T P K octets fo ρf) (hp:σ P=some [.int (p:Nat)]) (hpl:p<=octets.length)
 (hf:G.g f=some (.val (.ref a3))) (hx:ρ x=some (.val (.ref T)))
 (H1:∀ v t p' ω' s',Le ω ω'->MS B0 os ω' gs s'->RelS ω' (σ.put P [.int (p':Nat)])->Rd ω' (.list [.str t]) v->rdF octets p=some (t,p')->Q v s')
 (H2:∀ e s',RaisG B0 os ω (fun cls msg _ σ' gs'=>rdF octets p=none/\cls = "ValueError" /\ msg=rdW octets p/\σ'=σ.put P [.int (octets.length:Nat)]/\gs'=gs) e s'->E e s') :
 wpAny (model prog w) A (eval (.List [.Call (.Name f q) [.Name x q'] [] pos] pl) env) Q E s:=by
 refine wpAny_List ?_
 refine rr (j2 pl _ env rfl) ?_
 refine spliced_cons (b6c (n:=n) TB hg F Rm O S R Ks H hp hpl hf hx (fun v t p' ω₁ s₁ l₁ S₁ R₁ r₁ hrd=>?_) H2)
 refine spliced_nil ?_
 obtain⟨h,ω',σ',l',S',R',rv,k⟩:=F6 (K:=fun h σ'=>h=.list [.str t]/\σ'=σ.put P [.int (p':Nat)]) S₁ R₁ (by exact c1s c8) (show RdL ω₁ [.str t] [v] from by exact(j7 v ([]) rfl r₁ rfl)) ⟨rfl,rfl⟩ s₁.toks
 obtain⟨rfl,rfl⟩:=k
 exact⟨by dsimp only[c8,List.length_singleton];decide,H1 _ t p' ω' _ (l₁.trans l') S' R' rv hrd⟩
end
end
section
noncomputable def a7f:Stmt:=kid (stm 26) 1
noncomputable def rdA:Arguments:=(T6 (z0 (kid a7f 0))).1
noncomputable def rdB:Expr:=(T6 (z0 (kid a7f 0))).2.1
noncomputable def rdSc:Scope:=(T6 (z0 (kid a7f 0))).2.2.1
noncomputable def rdP:Pos:=(T6 (z0 (kid a7f 0))).2.2.2
theorem rdD {qual:Str} {pm cv ctv:Value} {cT:Addr}:N9 { kla_fn "<lambda>" qual rdA rdB rdSc [(Str.ofString "tape",cT)] pm cv ctv with body:=.stmts [] } [Str.ofString "row",Str.ofString "turn"] []:=by
 refine⟨rfl,rfl,rfl,rfl,rfl,rfl,by decide +kernel,?_,?_,?_⟩
 · show ∀ x∈rdSc.names,x.2≠.cell
   decide +kernel
 · show ∀ x∈[Str.ofString "row",Str.ofString "turn"],rdSc.names.lookup x=some .local
   decide +kernel
 · refine(U4 (by decide +kernel) ?_ (by decide +kernel) ?_ ?_)
   · show rdSc.names.lookup ("__debug__" : Str)≠some .globalImplicit
     decide +kernel
   · show rdSc.names.lookup ("__debug__" : Str)≠some .free
     decide +kernel
   · show rdSc.names.lookup ("__classdict__" : Str)≠some .free
     decide +kernel
theorem b7a (qual:Str) (cl:List (Str×Addr)) (pm cv ctv u v:Value):bindArgs (kla_fn "<lambda>" qual rdA rdB rdSc cl pm cv ctv) ⟨[u,v],[]⟩=pure [(Str.ofString "row",u),(Str.ofString "turn",v)]:=by
 with_unfolding_all rfl
structure RdLam (ω:Own) (aS T cT:Addr):Prop where
 fn:∃ qual pm cv ctv,ω aS=some (.fz { cls:=.type "function",data:=.func (kla_fn "<lambda>" qual rdA rdB rdSc [(Str.ofString "tape",cT)] pm cv ctv) })/\CodeOk ω cv qual
 cell:ω cT=some (.cell (some (.ref T)))
theorem RdLam.monoW {ω ω':Own}{aS T cT:Addr}(h:RdLam ω aS T cT) (x:LeW ω ω'):RdLam ω' aS T cT:=
 ⟨let ⟨q,pm,cv,ctv,e,c⟩:=h.fn;(D4 q pm cv ctv ⟨x _ _ e rfl,c.monoF x.f⟩),x _ _ h.cell rfl⟩
section
variable {prog:Program}{w:World}{B0:Heap}{os:OsState}{gs:TQ}{mg mb:Str->Option Value}{n:Nat}{gt:Loc}
theorem b5r (TB:TopB B0 mg mb) (hg:I1 mg mb gt){a3:Addr}(F:a5q B0 gt a3) (g3:gt (Str.ofString "read_string1")=some (.val (.ref a3))){A:Around}{l:List Env}{ω:Own}{s:Shared}{σ:St}{T P K aS cT:Addr}{octets:List UInt8}{fo:FuncData}{ρf:Loc}{p:Nat}{xs:List HV}{i:HV}{vs:List Value}
 (Rm:Room (n+1+1+1+1) A) (Ks:Stk ω A l) (S:MS B0 os ω gs s) (R:RelS ω σ) (L:RdLam ω aS T cT) (H:TapeAt ω T P K octets fo ρf) (hp:σ P=some [.int (p:Nat)]) (hpl:p<=octets.length) (hz:xs.length<=100) (rv:RdL ω [.list xs,i] vs) :
 wpAny (model prog w) A (call (.ref aS) vs []) (J0 B0 os ω fun h _ σ' gs'=>∃ t p',rdF octets p=some (t,p')/\h=.list (xs++[.str t])/\σ'=σ.put P [.int (p':Nat)]/\gs'=gs)
  (RaisG B0 os ω fun cls msg _ σ' gs'=>rdF octets p=none/\cls = "ValueError" /\ msg=rdW octets p/\σ'=σ.put P [.int (octets.length:Nat)]/\gs'=gs) s:=by
 have ln:=c8
 (refine I7 L.fn fun qual pm cv ctv z318=>?_;refine o_a z318 fun hf hcv=>?_)
 (refine d9 (id rv) fun u _ z315 ru q=>?_;subst z315)
 (refine I9 q fun v _ z313 z314=>?_;subst z313;refine o_a z314 fun rw2 q=>?_)
 subst q
 (refine y1 hcv fun cc oc cvs t z285 k1 k2 k3=>?_;clear hcv;subst z285)
 refine a4r (n:=n+1+1+1) (e:=rdB) (ps:=[Str.ofString "row",Str.ofString "turn"]) (hs:=[.list xs,i]) (vs:=[u,v]) (gt:=gt) (ρf:=upd (fun _=>none) (Str.ofString "tape") (.val (.ref T))) TB rdD rfl hg (fun _ _ _ _ _ _ _ q=>q) (fun _ _ _ _ _ _ q=>q) Rm Ks S R rv rfl (BindsTo.of_eq (b7a _ _ _ _ _ _ _)) (S.hold _ _ hf) rfl ⟨cc,oc,cvs,t,rfl,S.hold _ _ k1,k2,k3⟩ ?_ ?_
 · intro x h e
   unfold upd at e
   by_cases hx:x=Str.ofString "tape"
   · rw[if_pos hx] at e
     refine Option.some.inj e▸?_
     refine⟨by refine rr hx ?_;show rdSc.names.lookup _=_;decide +kernel,cT,.ref T,?_,L.cell,by simp only[Rd]⟩
     refine rr hx ?_
     show List.lookup (Str.ofString "tape") [(Str.ofString "tape",cT)]=some cT
     simp
   · rw[if_neg hx] at e;exact c7 e
 intro env A' ω₁ s₁ hfr O Rm' Ks' S₁ R₁ hnew other
 have lw:LeW ω ω₁:=fun b m e hm=>other b m e (fun us q=>by rw[q] at hm;exact j0 hm)
 have O:EnvOk mg mb env ω₁ (upd (upd (upd (fun _=>none) (Str.ofString "tape") (.val (.ref T))) (Str.ofString "turn") i) (Str.ofString "row") (.list xs)) (d7 rdSc gt):=O
 conv=>arg 3;arg 1;whnf
 refine wpAny_BinOp (w4 (h:=.list xs) O S₁ (by walk_at "nm") fun v₁ r₁=>?_)
 refine a4x (n:=n) TB hg F Rm' O S₁ R₁ Ks' (H.monoW lw) hp hpl (a8r (by decide +kernel) g3) (by walk_at "nm") (fun v₂ t p' ω' s' l' S' R' r' hrd=>?_) fun e s' q=>?_
 · refine a0m (ha:=.list xs) (hb:=.list [.str t]) (σ:=σ.put P [.int (p':Nat)]) rfl rfl (by simp;exact b4q ln hz) S' R' (r₁.mono l') r' fun vs n t' hv=>?_
   obtain⟨h,ω₂,σ₂,l₂,S₂,R₂,r₂,e1,e2⟩:=F6 (n:=n) (K:=fun h σ'=>h=.list (xs++[.str t])/\σ'=σ.put P [.int (p':Nat)]) S' R' (by simp;exact b4q ln hz) hv ⟨rfl,rfl⟩ t'
   subst e1 e2
   exact⟨_,_,ω₂,_,gs,rfl,(l'.trans l₂).s _,S₂,R₂,r₂,t,p',hrd,rfl,rfl,rfl⟩
 · refine c9 O.loc fun m hL _=>?_
   exact q.thr hL
end
end
section
structure c4x (B0:Heap) (gt:Loc) (miss:Addr):Prop where
 mis:gt (Str.ofString "_initial_missing")=some (.val (.ref miss))
 obj:∃ o,B0.get? miss=some o/\o.cls=.type "object"
 iter:gt (Str.ofString "iter")=some (.val (.builtin "iter"))
section
variable {prog:Program}{w:World}{B0:Heap}{os:OsState}{gs:TQ}{mg mb:Str->Option Value}{A:Around}{E:Value->Shared->Prop}{ω:Own}{s:Shared}{σ:St}{env:Env}{ρ:Loc}{G:GC}
theorem a6f {v:Value}{lo hi:Int}{Q:Value->Shared->Prop}(S:MS B0 os ω gs s) (r:Rd ω (.rng lo hi) v)
 (H:∀ a s',ω a=none->MS B0 os (ω.set a (.it (.range lo ((hi-lo).toNat:Int)))) gs s'->Q (.ref a) s'):wpAny (model prog w) A (pyIter v) Q E s:=by
 delta Rd at r
 (refine M4 r fun z1 z2 z44=>?_;refine I7 z44 fun a t u x z45=>?_;refine o_a z45 fun z46 h2=>?_;refine rr z46 ?_)
 have hsz:Builtin.Range.rangeSize lo hi 1=((hi-lo).toNat:Int):=by
  unfold Builtin.Range.rangeSize
  (refine rr (if_pos (by decide)) ?_;refine rr (Int.ediv_one ..) ?_)
  refine ie rfl (fun _=>?_) fun _=>?_<;>omega
 refine wpAny_pyIter_range (S.hold _ _ h2) ?_ ?_
 · unfold Builtin.Range.small
   refine rr hsz ?_
   have e:∀ z:Int,-(2 ^ 63)<=z->z<2 ^ 63->Builtin.Range.rangeFitsLong z=true:=fun z h1 h2=>by unfold Builtin.Range.rangeFitsLong;simp;exact b2f h1 h2
   (rw[e lo (a4j z1) (a4b z1)];rw[e hi (a4j z2) (a4b z2)];rw[e 1 (by decide) (by decide)];rw[e _ (b8g) (b8q z2 z1)];refine rr (if_pos (by decide)) ?_;refine rr (e _ (b8c z2) (b93 z2)) ?_)
   simp
 · refine rr hsz ?_
   exact H _ _ S.unused (S.push _ (m:=.it (.range lo ((hi-lo).toNat:Int))) (Heap.get?_push_size _ rfl))
theorem b67 {id:String}{f x:Str}{q q' pos:Pos}{h:HV}{Q:Value->Shared->Prop}(T:TopB B0 mg mb) (O:EnvOk mg mb env ω ρ G) (S:MS B0 os ω gs s) (hf:G.g f=some (.val (.builtin id))) (hx:ρ x=some h)
 (H:∀ v,Rd ω h v->wpAny (model prog w) A (call (.builtin id) [v]) Q E s):wpAny (model prog w) A (eval (.Call (.Name f q) [.Name x q'] [] pos) env) Q E s:=by
 refine wpAny_Call_ofName (B8 T O S hf fun u hu=>?_)
 (injection hu with hu;subst hu)
 refine rr (j2 pos _ env rfl) ?_
 exact callWith_builtin (d8 _ env) (p7 (d8 _ env) (spliced_cons (w4 O S hx fun u r=>spliced_nil (H u r))))
theorem b1k {v:Value}{Q:Value->Shared->Prop}(h:wpAny (model prog w) A.in1 (pyIter v) (fun it s'=>Q it s') (fun e s'=>E e s') s):wpAny (model prog w) A (call (.builtin "iter") [v]) Q E s:=by
 refine call_function_entry (by decide +kernel) (by decide +kernel) kdk_entry_iter (kdk_args_iter _) ?_
 dsimp only[Builtin.«iter»]
 refine wpAny_bind (m:=someArgs "iter" 1 2 _) (wpAny_of_eq (a:=[v]) (by first | rfl | kernel_rfl!) ?_)
 exact wpAny_bind (wpAny_mono h (fun it s' q=>wpAny_pure (j1 _ rfl q)) fun _ _ e=>e)
theorem p15r:W1 (stm 15) [tN "function",tN "sequence",tN "initial"]=true:=by decide +kernel
theorem b15r {fd:FuncData}{dT:Addr}{s:Shared}{o:Obj}{m:Value}{nn:Nat}(u v x:Value) (hp:fd.params=w8 (stm 15)) (h1:fd.kwdefaults=.none) (hd:fd.defaults=.ref dT) (ho:s.heap.get? dT=some o) (hs:o.data=.seq #[m] nn) :
 BindsTo s fd ⟨[u,v,x],[]⟩ ([tN "function",tN "sequence",tN "initial"].zip [u,v,x]):=by
 cases fd
 simp only at hp h1 hd
 subst hp h1 hd
 exact BindsTo.of_defaults rfl ho hs (by with_unfolding_all rfl) (by with_unfolding_all rfl)
end
section
variable {prog:Program}{w:World}{B0:Heap}{os:OsState}{gs:TQ}{mg mb:Str->Option Value}{n:Nat}{gt:Loc}
noncomputable def rgI (i k:Nat):List HV:=(List.range k).map fun j=>HV.int ((i+j:Nat):Int)
theorem b89 (i:Nat):rgI i 0=[]:=rfl
theorem b3r (i k:Nat):rgI i (k+1)=HV.int (i:Nat)::rgI (i+1) k:=by
 unfold rgI
 (refine rr List.range_succ_eq_map ?_;refine rr List.map_cons ?_;refine rr List.map_map ?_)
 congr 1
 refine List.map_congr_left fun j _=>?_
 (refine rr (Nat.add_right_comm ..) ?_;exact rr (Nat.add_assoc ..) rfl)
variable (B0 os gs mg mb gt) in
inductive c1v (env:Env) (ω₁:Own) (I aS:Addr) (J:Nat->HV->St->Prop) (k:Nat) (k':Nat) (s':Shared):Prop
 | mk:∀ (i:Nat) (ω':Own) (ρ':Loc) (σ':St) (hv:HV) (kk:ItK),i+k'=k->LeS env.locals ω₁ ω'->EnvOk mg mb env ω' ρ' (d7 (b0 (stm 15)) gt)->MS B0 os ω' gs s'->RelS ω' σ'->ω' I=some (.it kk)->ItRd ω' kk (rgI i k')->ρ' (Str.ofString "function")=some (.val (.ref aS))->ρ' (Str.ofString "value")=some hv->J i hv σ'->c1v env ω₁ I aS J k k' s'
theorem a7d {A:Around}{env:Env}{outer:List Env}{ωb ω:Own}{e:Value}{s':Shared}{KX0 KX:KXG}{m₀:Str->Option Value}{E:Value->Shared->Prop}(hE:∀ e s,a2c B0 os env ωb KX e s->E e s) (q:RaisG B0 os ω KX0 e s') (Ks:Stk ω A (env::outer)) (hf:env.frame=some env.locals) (hL:ω env.locals=some (.ns m₀)) (lb:LeS env.locals ωb ω)
 (HX:∀ cls msg ω' σ' gs',Le ω ω'->KX0 cls msg ω' σ' gs'->KX cls msg ω' σ' gs'):notedBy (model prog w) A env (fun e s'=>cameBackBy (model prog w) A env E e s') e s':=by
 obtain⟨a,ω',σ',gs',cls,msg,t,rfl,l',S,R,F,hA,k⟩:=q
 refine b04 S (Ks.mono l'.w) hf F fun h₁ S₁ F1=>?_
 refine b1p S₁ hf F1 fun h₂ S₂ F2=>?_
 exact hE _ _ ⟨a,ω',σ',gs',cls,msg,rfl,lb.trans (l'.s _),⟨m₀,l' _ _ hL⟩,R,HX _ _ _ _ _ l' k,.inl (u5 S₂ t _ (.inr rfl) ⟨F2,hA⟩)⟩
theorem a2e (TB : TopB B0 mg mb) (hg : I1 mg mb gt) {miss a15 dT : Addr} {fd15 : FuncData} {od : Obj} {nn : Nat} (RG : c4x B0 gt miss) (F15 : FnK B0 a15 (stm 15) fd15 (.ref dT)) (hdT : B0.get? dT = some od) (hdc : od.cls ≠ .none) (hdd : od.data = .seq #[.ref miss] nn)
 {A : Around} {l : List Env} {ω : Own} {s : Shared} {σ : St} {aS : Addr} {o : Obj} {fs : FuncData} {init : HV} {k : Nat} {v u : Value} {KX : KXG} {J : Nat -> HV -> St -> Prop}
 (hX : K3 KX) (Rm : Room (n + 1) A) (Ks : Stk ω A l) (S : MS B0 os ω gs s) (R : RelS ω σ) (hfn : ω aS = some (.fz o)) (hfo : o.data = .func fs) (rv : Rd ω (.rng 0 (k : Nat)) v) (ri : Rd ω init u) (hi : (∃ xs, init = .list xs) ∨ ∃ l, init = .str l) (hJ : J 0 init σ)
 (hstep : ∀ (A : Around) (l' : List Env) (ω' : Own) (s : Shared) (σ' : St) (i : Nat) (hv : HV) (vs : List Value), i < k -> Room n A -> Stk ω' A l' -> LeW ω ω' -> MS B0 os ω' gs s -> RelS ω' σ' -> J i hv σ' -> RdL ω' [hv, .int (i : Nat)] vs -> wpAny (model prog w) A (call (.ref aS) vs []) (J0 B0 os ω' fun h _ σ'' gs' => J (i + 1) h σ'' ∧ gs' = gs) (RaisG B0 os ω' KX) s) :
 wpAny (model prog w) A (call (.ref a15) [.ref aS, v, u] []) (J0 B0 os ω fun h _ σ' gs' => J k h σ' ∧ gs' = gs) (RaisG B0 os ω KX) s := by
 refine u9 (F15.at'.now S) fun oo ho hd hcd => ?_
 have hdT' := S.top hdT hdc
 refine a5v (n := n) (ps := [tN "function", tN "sequence", tN "initial"]) (hs := [.val (.ref aS), .rng 0 (k : Nat), init]) (vs := [.ref aS, v, u]) (ρf := fun _ => none) TB (a5a F15.body F15.scope F15.glob F15.blt (by decide +kernel) p15r) hg hX (fun _ _ _ _ _ _ q => q) Rm Ks S R
  (j7 _ _ rfl (by simp only [Rd]) (j7 _ _ rfl rv (j7 _ _ rfl ri rfl))) rfl (b15r _ _ _ F15.params F15.kdflt F15.dflt hdT' hdd) ho hd hcd (FreeOk.none _ _ _) ?_
 intro env A' ω₁ s₁ hfr O Rm' Ks' S₁ R₁ hnew other
 have stay : ∀ ω₂, LeS env.locals ω₁ ω₂ -> LeW ω ω₂ := fun ω₂ l => a1n hnew other l
 rw [F15.scope] at O
 have n1 : C4 (fun _ => none) [tN "function", tN "sequence", tN "initial"] [.val (.ref aS), .rng 0 (k : Nat), init] = upd (upd (upd (fun _ => none) (tN "initial") init) (tN "sequence") (.rng 0 (k : Nat))) (tN "function") (.val (.ref aS)) := rfl
 rw [n1] at O
 have m1 := RG.mis
 have m2 := RG.iter
 unfold tN at *
 refine Y6 fun Q E hQ hE => ?_
 conv => arg 3; arg 1; whnf
 refine t6 fun Q₁ n₁ => (wpAny_Assign_Name (b67 TB O S₁ (by walk_at "nm") (by walk_at "nm") fun v₁ r₁ => b1k (a6f S₁ r₁ fun I s₂ hI S₂ => ?_)) (k9 rfl))
 have O' := O.mono (Le.new (.it (.range 0 (((k : Nat) : Int) - 0).toNat)) hI)
 have hnI : I ≠ env.locals := fun q => by
  refine c9 O.loc fun m h1 _ => ?_
  rw [← q, hI] at h1; exact c7 h1
 refine o9 (h := .val (.ref I)) O' S₂ (R₁.new hI) (by kernel_rfl) (by simp only [Rd]) fun ω₂ s₂ l₂ f₂ O2 S₂ R₂ => ?_
 have hI2 := l₂ _ _ hnI (Own.set_self ..)
 have l12 : LeS env.locals ω₁ ω₂ := ((Le.new _ hI).s _).trans l₂
 refine n₁ _ ?_
 conv => arg 3; arg 1; whnf
 refine t6 fun Q2 n₂ => (wpAny_If (wpAny_isTrue_Compare1 (w4 (h := init) O2 S₂ (by walk_at "nm") fun v r => B8 TB O2 S₂ (h := .val (.ref miss)) (by walk_at "nm") fun u hu => ?_)))
 (injection hu with hu; subst hu)
 have hfalse : ∀ {Q : Value -> Shared -> Prop} {E : Value -> Shared -> Prop}, Q (.bool false) s₂ -> wpAny (model prog w) A' (compareOp .Is v (.ref miss)) Q E s₂ := fun {Q E} q => by
  rcases hi with ⟨xs, rfl⟩ | ⟨l, rfl⟩
  · refine c9 RG.obj fun om hom hmc => ?_
    have hom2 := S₂.top hom (by refine rr hmc ?_; decide)
    simp only [Rd] at r
    (refine y3 r fun hz b' o' vs' nb z210 hb2 hb3 hb4 hb5 => ?_; clear r; refine rr z210 ?_)
    have hbo := S₂.hold _ _ hb2
    refine wpAny_is_ref_other (ox := o') (oy := om) (fun q => ?_) hbo hom2 (by refine rr hb3 ?_; decide) q
    rw [q] at hbo
    have : some o' = some om := hbo.symm.trans hom2
    (replace this := Option.some.inj this; subst this)
    rw [hb3] at hmc
    simp at hmc
  · (refine y5 r fun _ t z198 => ?_; clear r; refine rr z198 ?_)
    exact wpAny_is_other rfl (fun e => nomatch e) q
 refine hfalse ?_
 refine wpAny_truthy_bool ?_
 refine k6 (by decide) ?_
 conv => arg 3; arg 1; whnf
 refine t6 fun Q₃ n₃ => (wpAny_Assign_Name (w4 (h := init) O2 S₂ (by walk_at "nm") fun v r => ?_) (k9 rfl))
 refine o9 (h := init) O2 S₂ R₂ (by kernel_rfl) r fun ω₃ s₃ l₃ f₃ O3 S₃ R₃ => ?_
 refine n₃ _ (wpAny_execs_nil (n₂ _ ?_))
 have hI3 := l₃ _ _ hnI hI2
 conv => arg 3; arg 1; whnf
 refine t6 fun Q4 n₄ => (wpAny_For (w4 (h := .val (.ref I)) O3 S₃ (by walk_at "nm") fun v r => ?_) (E7 rfl))
 simp only [Rd] at r
 refine r ▸ ?_
 refine wpAny_pyIter_rangeiter (S₃.hold _ _ hI3) ?_
 refine codeAny_forLoop (c1v B0 os gs mg mb gt env ω₁ I aS J k) ?_ k ⟨0, ω₃, _, σ, init, _, Nat.zero_add _, l12.trans l₃, O3, S₃, R₃, hI3, ?_, by walk_at "nm", by walk_at "nm", hJ⟩
 · intro k' s' hInv
   obtain ⟨i, ω', ρ', σ', hv, kk, hik, lb, O5, S₅, R₅, e1, e2, q1, q2, hJi⟩ := hInv
   refine c9 O5.loc fun mL hL _ => ?_
   have Ks5 := Ks'.step lb hL
   refine a1u Rm'.handled S₅ e1 e2 (fun hnil s'' S'' => ?_) (fun y rest hcons u k₂ s'' rv rk S'' => ?_)
   · have hk0 : k' = 0 := by
      induction k' using Nat.casesOn with
      | zero => rfl
      | succ m => rw [b3r] at hnil; contradiction
     refine wpAny_execs_nil (n₄ _ ?_)
     conv => arg 3; arg 1; whnf
     refine wpAny_execs_cons (wpAny_Return_some ?_)
     refine w4 (h := hv) (O5.monoW (LeW.del e1 rfl)) S'' q2 fun v r => ?_
     exact hQ _ _ ⟨v, hv, _, σ', gs, rfl, lb.delNew hI, S'', R₅.del e1 (fun _ q => nomatch q) (fun _ q => nomatch q), r, by (refine rl hik ?_; refine rr hk0 ?_); exact hJi, rfl⟩
   · obtain ⟨m, rfl⟩ : ∃ m, k' = m + 1 := by
      induction k' using Nat.casesOn with
      | zero => simp only [b89] at hcons; contradiction
      | succ m => exact ⟨m, rfl⟩
     replace hcons := (b3r ..) ▸ hcons
     injection hcons with h1 h2
     subst h1 h2
     have O6 := O5.monoW (LeW.set (.it k₂) e1 rfl)
     have f1 : LeF ω' (ω'.set I (.it k₂)) := LeF.set _ e1 (fun _ q => nomatch q)
     refine wpAny_assign_Name (o9 (h := .int (i : Nat)) O6 S'' (R₅.set _ e1 (fun _ q => nomatch q) (fun _ q => nomatch q)) (by kernel_rfl) (rv.monoF f1) fun ω7 s7 l7 f₇ O7 S7 R7 => ?_)
     have lb7 : LeS env.locals ω₁ ω7 := (lb.setNew _ hI).trans l7
     have hI7 := l7 _ _ hnI (Own.set_self ..)
     have rk7 := (rk.monoF f1).monoF f₇
     refine b1v fun Q2 q₃ => ?_
     conv => arg 3; arg 1; whnf
     refine t6 fun Q₃ n₃ => (wpAny_Assign_Name (wpAny_Call_ofName (w4 (h := .val (.ref aS)) O7 S7 (by walk_at "nm") fun v₃ r₃ => ?_)) (k9 rfl))
     simp only [Rd] at r₃
     refine r₃ ▸ ?_
     refine Y8 (mu := fun _ => false) (Γ := sp0 _) (xs := [hv, .int (i : Nat)]) (t := σ') (n := n) (o := o) (fd := fs) Rm' O7 S7 R7 rfl (u7 (okE TB (j8 (n := n)) _) (u7 (okE TB (j8 (n := n)) _) C3)) ?_ ?_
     · intro K hK
       refine a7m ?_
       refine X5 (by walk_at "nm") ?_
       refine a7m ?_
       refine X5 (by walk_at "nm") ?_
       refine V9 ?_
       exact hK
     intro ω8 vs s8 l8 S8 R8 rr8
     have lb8 := lb7.trans (l8.s env.locals)
     have lw := stay _ lb8
     refine ⟨⟨S8.hold _ _ (lw.f _ _ hfn), hfo⟩, ?_⟩
     refine c9 O7.loc fun mL7 hL7 _ => ?_
     have hL8 := l8 _ _ hL7
     have Ks8 : Stk ω8 A' (env :: l) := Ks'.step lb8 hL8
     refine wpAny_mono (hstep A' (env :: l) ω8 s8 σ' i hv vs (b9x hik) Rm' Ks8 lw S8 R8 hJi rr8) (fun v₄ s₄ q => ?_) fun e s₄ q => ?_
     · obtain ⟨h, ω9, σ9, gs9, l9, S9, R9, r9, j9, rfl⟩ := q
       refine o9 (h := h) ((O7.mono l8).mono l9) S9 R9 (by kernel_rfl) r9 fun ωa sa la fa Oa Sa Ra => ?_
       refine n₃ _ (wpAny_execs_nil (q₃ _ _ ?_))
       exact (j1 m (Nat.lt_succ_self _) ⟨i + 1, ωa, _, σ9, h, k₂, b98 hik, (lb8.trans (l9.s _)).trans la, Oa, Sa, Ra, la _ _ hnI (l9 _ _ (l8 _ _ hI7)), ((rk7.monoF l8.f).monoF l9.f).monoF fa, by walk_at "nm", by walk_at "nm", j9⟩)
     · exact a7d hE q Ks8 hfr hL8 lb8 fun _ _ _ _ _ _ k => k
 · show rgI 0 k = (List.range ((((((k : Nat) : Int) - 0).toNat : Nat) : Int)).toNat).map fun (j : Nat) => HV.int (0 + (j : Int))
   unfold rgI
   simp
end
end
section
theorem b2p:isSubtype (.type "ValueError") (.type "BaseException")=pure true:=by kernel_rfl
theorem b13:isSubtype (.type ((Manifest.find? "ValueError").elim "type" fun x=>x.metatype)) (.type "tuple")=pure false:=by kernel_rfl
theorem b0q:isSubtype (.type "ValueError") (.type "ValueError")=pure true:=by kernel_rfl
structure TapeF (L:Addr) (ω:Own) (T P K:Addr) (octets:List UInt8) (fo:FuncData) (ρf:Loc):Prop where
 at':TapeAt ω T P K octets fo ρf
 map:∃ D m fd sl,D≠L/\ω T=some (.fz { cls:=.type "function",dict:=some D,data:=.func fd,slots:=sl })/\ω D=some (.ns m)/\m "read" = some (.ref K)/\m "place" = some (.ref P)
theorem TapeF.leS {L:Addr}{ω ω':Own}{T P K:Addr}{octets:List UInt8}{fo:FuncData}{ρf:Loc}(h:TapeF L ω T P K octets fo ρf) (l:LeS L ω ω'){m₀:Str->Option Value}(hL:ω L=some (.ns m₀)):TapeF L ω' T P K octets fo ρf:=by
 have f:=l.f hL
 have st:∀ b m,ω b=some m->m.stay=true->b≠L->ω' b=some m:=fun b m e hm hb=>by
  have:=l b m hb e
  clear e;cases m<;>first | exact this | (exact Bool.noConfusion (show false=true from hm))
 obtain⟨⟨h1,h2,h3,h4,h5,h6,h7,h8,_⟩,D,m,fd,sl,d1,d2,d3,d4⟩:=h
 exact⟨⟨h1,h2,f _ _ h3,h4.monoF f,(fun x h e=>by
  refine q9 (h5 x h e) fun k c v g1 g2 g3=>?_
  exact(u5 k c v g1 ⟨st _ _ g2 rfl (fun q=>by rw[q,hL] at g2;exact absurd g2 nofun),g3.monoF f⟩)),h6,h7,h8,D,m,fd,sl,f _ _ d2,st _ _ d3 rfl d1,d4⟩,D,m,fd,sl,d1,f _ _ d2,st _ _ d3 rfl d1,d4⟩
theorem TapeF.set_cell {L:Addr}{ω:Own}{T P K cT:Addr}{octets:List UInt8}{fo:FuncData}{ρf:Loc}(h:TapeF L ω T P K octets fo ρf){v0:Option Value}(hc:ω cT=some (.cell v0)) (hn:∀ x,fo.closure.lookup x≠some cT) (v:Option Value):TapeF L (ω.set cT (.cell v)) T P K octets fo ρf:=by
 have f:LeF ω (ω.set cT (.cell v)):=LeF.set _ hc (fun _ q=>by contradiction)
 obtain⟨⟨h1,h2,h3,h4,h5,h6,h7,h8,_⟩,D,m,fd,sl,d1,d2,d3,d4⟩:=h
 have hD:(ω.set cT (.cell v)) D=some (.ns m):=by refine rr (Own.set_ne _ _ (fun q=>by rw[q,hc] at d3;exact absurd d3 nofun)) ?_;exact d3
 exact⟨⟨h1,h2,f _ _ h3,h4.monoF f,(fun x h e=>by
  refine q9 (h5 x h e) fun k c u g1 g2 g3=>?_
  exact(u5 k c u g1 ⟨by refine rr (Own.set_ne _ _ (fun q=>by rw[q] at g1;exact hn x g1)) ?_;exact g2,g3.monoF f⟩)),h6,h7,h8,D,m,fd,sl,f _ _ d2,hD,d4⟩,D,m,fd,sl,d1,f _ _ d2,hD,d4⟩
section
variable {B0:Heap}{os:OsState}{gs:TQ}{ω:Own}{s:Shared}
variable {M:Model}{A:Around}{E:Value->Shared->Prop}{e t:Addr}{cls:String}{fl:Value}
theorem MS.own_fz (S:MS B0 os ω gs s){t:Addr}{o:Obj}(ht:s.heap.get? t=some o) (hto:ω t=none):MS B0 os (ω.set t (.fz o)) gs s:=by
 refine { S with hold:=fun b m e=>?_,lo:=fun b m e hf=>?_,tabs:=S.tabs_set (fun o q=>by rw[hto] at q;exact c7 q) rfl,tq:=S.tq_set _ (fun o ps q=>by rw[hto] at q;exact c7 q) }
 · unfold Own.set at e
   (revert e;refine ie rfl (fun _ e=>?_) fun _ e=>?_)
   · rename_i q;refine rr q ?_;(replace e:=Option.some.inj e;subst e);exact ht
   · exact S.hold _ _ e
 · unfold Own.set at e
   (revert e;refine ie rfl (fun _ e=>?_) fun _ e=>?_)
   · (injection e with e;subst e);exact B2 hf
   · exact S.lo _ _ e hf
theorem MS.free_set (S:MS B0 os ω gs s){e:Addr}{oe:Obj}{vs:Array Value}(he:s.heap.get? e=some oe) (hd:oe.data=.fields vs) (hoe:ω e=none) (hBe:B0.get? e=none) (g:Obj->Obj) (t:Nat) :
 MS B0 os ω gs { s with heap:=s.heap.update e g,toks:=t }:=by
 refine S.apart (as:=[e]) (fun b o q=>?_) (fun b o hb hn=>⟨o.slots,?_⟩) (fun b hb=>by refine rr (List.mem_singleton.mp hb) ?_;exact .inl hoe) (fun b hb=>by refine rr (List.mem_singleton.mp hb) ?_;exact hBe) t
 · have hbe:b≠e:=fun x=>by clear hBe hoe he;subst x;rw[hideAll_none _ (.head _)] at q;exact c7 q
   refine rr (Heap.get?_update_other _ _ (Ne.symm hbe)) ?_;exact of_hideAll _ q
 · refine rr (Heap.get?_update_other _ _ (Ne.symm (fun x=>by clear hBe hoe;subst x;rw[he] at hb;(replace hb:=Option.some.inj hb;subst hb);exact hn _ hd))) ?_;exact hb
theorem a0y {Q:Unit->Shared->Prop} (S:MS B0 os ω gs s) (F:Fly B0 ω s.heap e cls t fl)
 (H:∀ h',MS B0 os ω gs { s with heap:=h' }->Fly B0 ω h' e cls t .none->h'.get? e=s.heap.get? e->Q () { s with heap:=h' }):wpAny M A (setFlight (.ref e) none) Q E s:=by
 obtain⟨oe,vs,T,oT,ts,h1,h2,h3,h4,h5,h6,h7,h8,h9,h10,h11,h12⟩:=F
 refine wpAny_bind (wpAny_field h1 h3 h4 ?_)
 refine wpAny_setField h6 h7 ((Array.getElem?_eq_some_iff.mp h8).1) (H _ (S.free_set h6 h7 h10 h12 _ _) ?_ (Heap.get?_update_other _ _ h5))
 exact⟨oe,vs,T,_,_,(Heap.get?_update_other _ _ h5).trans h1,h2,h3,h4,h5,Heap.get?_update_self _ h6 (Obj.isFreed_of_fields (Obj.data_mapFields h7 _)),Obj.data_mapFields h7 _,by simp[((Array.getElem?_eq_some_iff.mp h8).1)],h9,h10,h11,h12⟩
theorem Fly.typeIs {ω:Own}{s:Shared}{e t:Addr}{cls:String}{fl:Value}(Fl:Fly B0 ω s.heap e cls t fl):s.TypeIs (.ref e) cls:=by
 obtain⟨oe,vs,T,oT,ts,h1,h2,_⟩:=Fl
 exact(j1 oe h1 h2.1)
theorem Stk.set_other {ω:Own}{A:Around}{l:List Env}(K:Stk ω A l){c:Addr}{m₀:OM}(h:ω c=some m₀) (hn:∀ m,m₀≠.ns m) (x:OM):Stk (ω.set c x) A l:=
 ⟨K.frames,fun e he=>by
  refine G0 (K.ok e he) fun k L m h1 h2=>?_
  exact(u5 k L m h1 (by refine rr (Own.set_ne _ _ (fun q=>by rw[q,h] at h2;(replace h2:=Option.some.inj h2;clear h;subst h2);exact hn m rfl)) ?_;exact h2))⟩
theorem RelS.sub {σ σ₀:St}(R:RelS ω σ) (h:∀ b xs,σ₀ b=some xs->σ b=some xs):RelS ω σ₀:=fun b xs e=>R b xs (h b xs e)
end
end
section
section
variable {prog:Program}{w:World}{B0:Heap}{os:OsState}{gs:TQ}{mg mb:Str->Option Value}{A:Around}{E:Value->Shared->Prop}{ω:Own}{s:Shared}{σ:St}{env:Env}{ρ:Loc}{G:GC}
theorem b42 {Q:Value->Shared->Prop}{tp:Str}{k0:Nat}{tpp ap ip sp:Pos}{T P K:Addr}{octets:List UInt8}{fo:FuncData}{ρf:Loc}{p:Nat}(O:EnvOk mg mb env ω ρ G) (S:MS B0 os ω gs s) (R:RelS ω σ) (H:TapeAt ω T P K octets fo ρf)
 (ht:ρ tp=some (.val (.ref T))) (hp:σ P=some [.int (p:Nat)])
 (hQ:∀ ω₅ v₅ s₅,Le ω ω₅->MS B0 os ω₅ gs s₅->RelS ω₅ σ->Rd ω₅ (.int (p:Nat)) v₅->Q v₅ s₅) :
 wpAny (model prog w) A (eval (.Subscript (.Attribute (.Name tp tpp) "place" ap) (.Constant (.int 0) k0 ip) sp) env) Q E s:=by
 refine PyProof.Rows.Subscript_ (PyProof.Rows.Attribute_any_ (w4 O S ht fun v₄ r₄=>?_) (by (refine rr (arm_eval_Attribute ..) ?_;exact rr (u8 rfl) rfl)))
 simp only[Rd] at r₄
 subst r₄
 refine y1 H.tape fun D m fdT sl t1 t2 t3 t4=>?_
 refine a3e (S.hold _ _ t1) (S.hold _ _ t2) t4 a1a fun tk3=>?_
 refine wpAny_Constant_int ?_
 have S₃:MS B0 os ω gs { s with toks:=tk3+1 }:=S.toks _
 refine j4 (c0t (K:=fun h σ'=>h=.int (p:Nat)/\σ'=σ) S₃ R (ho:=.obj P) (hi:=.int 0) (by exact rfl) (by simp only[Rd];exact⟨_,rfl⟩) (a05 (by decide) hp rfl ⟨rfl,rfl⟩)) fun h₅ ω₅ σ5 v₅ s₅ l₅ S₅ R₅ r₅ k5=>?_
 obtain⟨rfl,rfl⟩:=k5
 exact hQ ω₅ v₅ s₅ l₅ S₅ R₅ r₅
theorem b3f {Q:Flow->Shared->Prop}{tx tp:Str}{k0:Nat}{txp tpp ap ip sp pl rp:Pos}{T P K:Addr}{octets:List UInt8}{fo:FuncData}{ρf:Loc}{p:Nat}{ts:HV}(O:EnvOk mg mb env ω ρ G) (S:MS B0 os ω gs s) (R:RelS ω σ) (H:TapeAt ω T P K octets fo ρf)
 (hx:ρ tx=some ts) (ht:ρ tp=some (.val (.ref T))) (hp:σ P=some [.int (p:Nat)])
 (hQ:∀ v ω' s',Le ω ω'->MS B0 os ω' gs s'->RelS ω' σ->Rd ω' (.list [ts,.int (p:Nat)]) v->Q (.ret v) s') :
 wpAny (model prog w) A (exec (.Return (some (.List [.Name tx txp,.Subscript (.Attribute (.Name tp tpp) "place" ap) (.Constant (.int 0) k0 ip) sp] pl)) rp) env) Q E s:=by
 have ln:=c8
 refine wpAny_Return_some (wpAny_List ?_)
 refine rr (j2 pl _ env rfl) ?_
 refine spliced_cons (w4 O S hx fun v₁ r₁=>?_)
 refine spliced_cons (b42 O S R H ht hp fun ω₅ v₅ s₅ l₅ S₅ R₅ r₅=>?_)
 refine spliced_nil ⟨by show (2:Nat)<=sizeLine;exact b4z ln,?_⟩
 obtain⟨h,ω',σ',l',S',R',rv,e1,e2⟩:=F6 (n:=0) (K:=fun h σ'=>h=.list [ts,.int (p:Nat)]/\σ'=σ) S₅ R₅ (by show (2:Nat)<=sizeLine;exact b4z ln) (show RdL ω₅ [ts,.int (p:Nat)] [v₁,v₅] from (j7 _ _ rfl (r₁.mono l₅) ⟨_,_,rfl,r₅,rfl⟩)) ⟨rfl,rfl⟩ s₅.toks
 subst e1 e2
 exact hQ _ _ _ (l₅.trans l') S' R' rv
theorem b4d {cls:String}(hexc:isSubtype (.type cls) (.type "BaseException")=pure true) (hnt:isSubtype (.type ((Manifest.find? cls).elim "type" fun x=>x.metatype)) (.type "tuple")=pure false) (hsub:isSubtype (.type cls) (.type cls)=pure true) (FX:ExcStrFacts cls cls) (TB:TopB B0 mg mb){n:Nat}(Rm:Room n A)
 {Q:Flow->Shared->Prop}{fn xn sn:Str}{np hpos stp fp clp rp:Pos}{rest:List ExceptHandler}{e t:Addr}{fl:Value}{msg:List Nat}(O:EnvOk mg mb env ω ρ G) (S:MS B0 os ω gs s) (R:RelS ω σ) (F:Fly B0 ω s.heap e cls t fl) (hA:ArgsAt ω t msg)
 (hg:G.g xn=some (.val (.type cls))) (hs:G.g sn=some (.val (.type "str"))) (hnm:nmB G fn=true)
 (hQ:∀ v ω' s',LeS env.locals ω ω'->MS B0 os ω' gs s'->RelS ω' σ->Rd ω' (.str msg) v->Q (.ret v) s') :
 wpAny (model prog w) A (handleBy (.ref e) env (.ExceptHandler (some (.Name xn np)) (some fn) [.Return (some (.Call (.Name sn stp) [.Name fn fp] [] clp)) rp] hpos::rest)) Q E s:=by
 refine wpAny_handleBy_builtin_as (b:=true) hexc hnt hsub ?_
 refine B8 TB O S hg fun v hv=>?_
 (injection hv with hv;subst hv)
 refine(A8 rfl F.typeIs ?_)
 refine a0y S F fun h₁ S₁ F1 _=>?_
 obtain⟨oe,vs,Tr,oT,ts,x1,x2,x3,x4,x5,x6,x7,x8,x9,x10,x11,x12⟩:=F1
 have l₂:=Le.new (OM.fz oe) x9
 refine o9 (h:=.val (.ref e)) (O.mono l₂) (S₁.own_fz x1 x9) (R.new x9) hnm (by exact rfl) fun ω₃ s₃ l₃ f₃ O3 S₃ R₃=>?_
 obtain⟨hmz,ot,nt,tkt,ho1,ho2,ho3⟩:=hA
 refine wpAny_execs_cons (wpAny_Return_some ?_)
 refine wpAny_Call_ofName (B8 TB O3 S₃ hs fun u hu=>?_)
 (injection hu with hu;subst hu)
 refine rr (j2 clp _ env rfl) ?_
 refine callWith_type (d8 _ env) (p7 (d8 _ env) (spliced_cons (w4 O3 S₃ i5 fun v₄ r₄=>?_)))
 simp only[Rd] at r₄
 refine rr r₄ ?_
 refine spliced_nil ?_
 refine PySem.P.str_of_exc_one (A:=A.mark (some (.ref e))) (s:=s₃) (t0:=t) (m:=⟨msg.toArray⟩) (tk:=tkt) FX (show (A.mark (some (.ref e))).units+2<cLine from by have:=Rm.u64;exact c6 this (by simp +arith)) (M7 oe vs (S₃.hold _ _ (f₃ _ _ (Own.set_self ..))) x2.1 x3 x2.2) (j7 ot nt (S₃.hold _ _ (f₃ _ _ (l₂.f _ _ ho1))) ho2 ho3) ?_
 refine c9 O3.loc fun m₃ hL3 _=>?_
 refine wpAny_nameGoes (O.lc fn (by unfold nmB at hnm;simp only[Bool.and_eq_true] at hnm;exact hnm.1.1)) (S₃.hold _ _ hL3) (by refine rr O.kind ?_;rfl) fun h' m' hn' hs'=>?_
 have S'':=S₃.same hL3 rfl hs' (m:=.ns m') hn' (s₃.toks+1)
 exact hQ _ _ _ (((l₂.s _).trans l₃).trans (LeS.set _)) S'' (R₃.set _ hL3 (fun _ q=>by contradiction) (fun _ q=>by contradiction)) (by exact(Y7 hmz _ rfl))
end
end
section
noncomputable def p0 (o:List UInt8):Nat->Nat->List (List Nat)->List Nat ⊕ (List (List Nat)×Nat)
 | 0,p,acc=>.inr (acc,p)
 | n+1,p,acc=>match rdF o p with
  | none=>.inl (rdW o p)
  | some (t,p')=>p0 o n p' (acc++[t])
noncomputable def a0a:List Nat ⊕ (List (List Nat)×Nat)->HV
 | .inl w=>.str w
 | .inr (ts,p)=>.list [.list (ts.map HV.str),.int (p:Nat)]
theorem E2 {o:List UInt8}{n p:Nat}{acc:List (List Nat)}(h:rdF o p=none):p0 o (n+1) p acc=.inl (rdW o p):=by dsimp only[p0];exact rr h rfl
theorem Q9 {o:List UInt8}{n p p':Nat}{t:List Nat}{acc:List (List Nat)}(h:rdF o p=some (t,p')):p0 o (n+1) p acc=p0 o n p' (acc++[t]):=by conv=>lhs;dsimp only[p0];rw[h]
noncomputable def a64:Spec:=fun hs σ K=>∃ (o:List UInt8) (p n:Nat),hs=[.bytes o,.int (p:Nat),.int (n:Nat)]/\o.length<=1000/\p<=o.length/\n<=10/\K (a0a (p0 o n p [])) σ
noncomputable def wkF:Expr×List Stmt:=N8 (kid (stm 25) 1)
theorem b6e {α:Type}(l:List α) (i b:Nat):slc l (some (i:Int)) (some ((i+b:Nat):Int))=(l.drop i).take b:=by
 simp only[Z3,List.drop_take];simp
theorem a1m:(v9 (Str.ofString "expected ")).length=9:=by kernel_rfl
theorem a5j:(v9 (Str.ofString " bytes in a string1, but only ")).length=30:=by kernel_rfl
theorem b6q:(v9 (Str.ofString " remain")).length=7:=by kernel_rfl
noncomputable def c1d:HV->HV
 | .int k=>.str [k.toNat]
 | _=>.none
section
variable {mu:Pos->Bool}{Γ:Spx}{gt:Loc}(g1:gt (Str.ofString "len")=some (.val (.builtin "len"))) (g2:gt (Str.ofString "str")=some (.val (.type "str"))) (g3:gt (Str.ofString "chr")=some (.val (.builtin "chr")))
include g1 g2 g3
theorem b7m {o:List UInt8}{a:Addr}(ho:o.length<=1000) :
 ∀ (xs:List HV) (p:Nat) (acc:List (List Nat)) (ρ:Loc) (σ:St) (KF:KS),p<=o.length->ρ (Str.ofString "octets")=some (.bytes o)->ρ (Str.ofString "place")=some (.int (p:Nat))->ρ (Str.ofString "texts")=some (.obj a)->ρ (Str.ofString "len")=none->ρ (Str.ofString "str")=none->ρ (Str.ofString "chr")=none->
  σ a=some (acc.map HV.str)->acc.length+xs.length<=100->
  (match p0 o xs.length p acc with
   | .inl w=>∀ ρ' σ',(∀ x,x≠a->σ' x=σ x)->KF (.rt (.str w)) ρ' σ'
   | .inr (ts,p')=>∀ ρ' σ',(∀ x,x≠a->σ' x=σ x)->σ' a=some (ts.map HV.str)->ρ' (Str.ofString "texts")=some (.obj a)->ρ' (Str.ofString "place")=some (.int (p':Nat))->KF .nx ρ' σ')->
  V4 (fun h ρ σ K=>evB mu Γ wkF.2 (upd ρ (Str.ofString "turn") h) (d7 (b0 (stm 25)) gt) σ K) xs ρ σ KF:=by
 have ln:=c8
 intro xs
 induction xs with
 | nil=>
   intro p acc ρ σ KF hp e1 e2 e3 e4 e5 e6 e7 hl hK
   exact hK ρ σ (fun _ _=>rfl) e7 e3 e2
 | cons x xs ih=>
   intro p acc ρ σ KF hp e1 e2 e3 e4 e5 e6 e7 hl hK
   simp only[List.length_cons] at hl hK
   refine b7b ?_
   refine a3l fun KF' hKF'=>?_
   conv=>arg 3;whnf
   conv=>arg 5;arg 1;whnf
   repeat' walk_at "ev"
   by_cases h1:p<o.length
   · refine k6 (by simp;exact Int.le_sub_right_of_add_le (show ((1 + _:Nat):Int)<=(_:Int) from Int.ofNat_le.mpr (Nat.le_trans (lq (Nat.add_comm 1 _)) h1))) ?_
     repeat' walk_at "ev"
     obtain⟨b,hb⟩:∃ b,o[p]? = some b:=⟨o[p],List.getElem?_eq_getElem h1⟩
     refine a52 (b9g) (by simpa using hb) ?_
     repeat' walk_at "ev"
     have hb255:b.toNat<256:=b.toNat_lt
     have hleft:(o.length:Int)-(p:Int)-1=((o.length-(p+1):Nat):Int):=((Int.sub_sub _ _ _).trans (Int.ofNat_sub h1).symm)
     by_cases h2:p+1+b.toNat<=o.length
     · refine k6 (by simp;exact c4m h2) ?_
       have hr:rdF o p=some (((o.drop (p+1)).take b.toNat).map (·.toNat),p+1+b.toNat):=by unfold rdF;refine rr hb ?_;exact if_pos h2
       rw[Q9 hr] at hK
       repeat' walk_at "ev"
       have hpl:(p:Int)+((b.toNat:Int)+1)=((p+1+b.toNat:Nat):Int):=(congrArg Int.ofNat (by simp +arith))
       have hlo:(p:Int)+((b.toNat:Int)+1)-(b.toNat:Int)=((p+1:Nat):Int):=(by simp +arith)
       (refine rr (hlo ..) ?_;refine rr (hpl ..) ?_;refine rr (b6e ..) ?_)
       generalize hg:(o.drop (p+1)).take b.toNat=bs at *
       have hbs:bs.length<=255:=by refine rl hg ?_;simp;exact Nat.le_trans (Nat.min_le_left _ _) (Nat.le_of_lt_succ hb255)
       repeat' walk_at "ev"
       refine R0 (fun _=>true) c1d _ _ _ (by simp;exact c38 ln hbs) (fun x hx K hK=>hK) (fun x hx _ K hK=>?_) ?_
       · (refine c9 (List.mem_map.mp hx) fun c hc z15=>?_;subst z15)
         repeat' walk_at "ev"
         have:=c.toNat_lt
         refine a2l (⟨Int.natCast_nonneg _,Int.ofNat_le.mpr (Nat.le_trans (Nat.le_of_lt this) (by decide))⟩) ?_
         exact hK
       have e9:([]++((bs.map fun c=>HV.int c.toNat).filter fun _=>true).map c1d)=(bs.map fun c=>[c.toNat]).map HV.str:=by
        (refine rr (List.nil_append ..) ?_;refine rr (List.filter_eq_self.mpr (fun _ _=>rfl) ..) ?_;refine rr (List.map_map ..) ?_;refine rr (List.map_map ..) ?_)
        exact List.map_congr_left fun c _=>by simp[c1d]
       refine rr e9 ?_
       repeat' walk_at "ev"
       refine a2u (ys:=(bs.map fun c=>[c.toNat]).map HV.str) (ts:=bs.map fun c=>[c.toNat]) rfl (G3 _) ?_ ?_
       · refine rr o8 ?_
         have:=a9n (B:=1) (bs.map fun c=>[c.toNat]) (fun s hs=>by (refine c9 (List.mem_map.mp hs) fun c _ z7=>?_;refine rl z7 ?_);simp)
         simp only[List.length_map] at this
         exact c6 (ad (ad (lq ln.symm) this) hbs) (by simp +arith)
       (refine rr (o8 ..) ?_;refine rr (F8 ..) ?_)
       have e8:(bs.map fun c=>[c.toNat]).flatten=bs.map (·.toNat):=by
        clear hg hbs e9 hr hK;induction bs with
        | nil=>rfl
        | cons c r ih=>simp[ih]
       refine rr e8 ?_
       repeat' walk_at "ev"
       refine D0 e7 (by simp;exact c6 (ad hl (lq ln.symm)) (by simp +arith)) ?_
       repeat' walk_at "ev"
       refine ih (p+1+b.toNat) (acc++[bs.map (·.toNat)]) _ _ KF h2 ?_ ?_ ?_ ?_ ?_ ?_ (by refine rr g0 ?_;simp) (by simp;exact c6 hl (by simp +arith)) ?_
       · walk_at "nm"
       · walk_at "nm"
       · walk_at "nm"
       · walk_at "nm"
       · walk_at "nm"
       · walk_at "nm"
       · revert hK
         induction p0 o xs.length (p+1+b.toNat) (acc++[bs.map (·.toNat)]) with
         | inl w=>exact fun hK ρ' σ' q=>hK ρ' σ' fun x hx=>by rw[q x hx,j5 hx]
         | inr y=>exact fun hK ρ' σ' q=>hK ρ' σ' fun x hx=>by rw[q x hx,j5 hx]
     · refine o7 (by simp;exact c5q h2) ?_
       have hr:rdF o p=none:=by unfold rdF;refine rr hb ?_;exact if_neg h2
       rw[E2 hr] at hK
       have hw:rdW o p=w1 b.toNat (o.length-(p+1)):=by unfold rdW;rw[hb]
       repeat' walk_at "ev"
       refine b2i (Nat.lt_of_lt_of_le hb255 (by decide)) ?_
       have s1:=a5m b.toNat (c1o hb255)
       have s2:=a5m (o.length-(p+1)) (b8r ho)
       repeat' walk_at "ev"
       refine y9 (show _+(sI b.toNat).length<=_ from by refine rr a1m ?_;exact c6 (ad (lq ln.symm) s1) (by simp +arith)) ?_
       repeat' walk_at "ev"
       refine y9 (show (v9 (Str.ofString "expected ")++sI b.toNat).length + _<=_ from by (refine rr List.length_append ?_;refine rr a1m ?_;refine rr a5j ?_);exact c6 (ad (lq ln.symm) s1) (by simp +arith)) ?_
       repeat' walk_at "ev"
       refine rr hleft ?_
       refine b2i (c5h ho) ?_
       repeat' walk_at "ev"
       refine y9 (show ((v9 (Str.ofString "expected ")++sI b.toNat)++_).length+(sI (o.length-(p+1))).length<=_ from by simp only[List.length_append];(refine rr a1m ?_;refine rr a5j ?_);exact c6 (ad (ad (lq ln.symm) s1) s2) (by simp +arith)) ?_
       repeat' walk_at "ev"
       refine y9 (show (((v9 (Str.ofString "expected ")++sI b.toNat)++_)++sI (o.length-(p+1))).length + _<=_ from by simp only[List.length_append];(refine rr a1m ?_;refine rr a5j ?_;refine rr b6q ?_);exact c6 (ad (ad (lq ln.symm) s1) s2) (by simp +arith)) ?_
       repeat' walk_at "ev"
       rw[hw] at hK
       exact hK _ _ fun _ _=>rfl
   · refine o7 (by simp;exact Int.sub_neg_of_lt (Int.lt_of_le_of_lt (Int.sub_nonpos_of_le (Int.ofNat_le.mpr (Nat.le_of_not_lt h1))) (by decide))) ?_
     have hr:rdF o p=none:=by unfold rdF;exact rr (List.getElem?_eq_none (b3e h1)) rfl
     have hw:rdW o p=w0:=by unfold rdW;exact rr (List.getElem?_eq_none (b3e h1)) rfl
     rw[E2 hr,hw] at hK
     repeat' walk_at "ev"
     exact hK _ _ fun _ _=>rfl
theorem b0m (g4:gt (Str.ofString "range")=some (.val (.type "range"))){hs:List HV}{σ:St}{K:KV}(H:a64 hs σ K):B6 mu Γ (b0 (stm 25)) gt [Str.ofString "octets",Str.ofString "place",Str.ofString "count"] (n7 (stm 25)) hs σ K:=by
 (refine E4 H fun o p n z29 h1 h2 z30=>?_;clear H;refine rr z29 ?_;refine o_a z30 fun h3 hK=>?_)
 have ln:=c8
 refine p6 rfl fun KF hKF=>?_
 conv=>arg 3;whnf
 conv=>arg 5;arg 1;whnf
 simp only[D6,D5]
 refine m5 (by with_unfolding_all rfl) (by kernel_rfl) (a3v (mu:=fun _=>true) rfl (by decide) rfl (V9 fun am ham=>?_))
 repeat' walk_at "ev"
 refine K7 (b81 h3) ?_
 repeat' walk_at "ev"
 have ag:∀ σ':St,(∀ x,x≠am->σ' x=σ.put am [] x)->within σ σ'=σ:=fun σ' q=>Ag.within fun x hx=>by
  (refine rr (q x (fun q=>by subst q;rw[ham] at hx;exact j0 hx)) ?_;exact rr (j5 (fun q=>by subst q;rw[ham] at hx;exact j0 hx)) rfl)
 refine b7m g1 g2 g3 (a:=am) h1 _ p [] _ _ _ h2 (by walk_at "nm") (by walk_at "nm") (by walk_at "nm") (by walk_at "nm") (by walk_at "nm") (by walk_at "nm") g0 (by simp;exact Nat.le_trans h3 (Nat.le_add_left 10 90)) ?_
 refine rr (show (List.map (fun k:Nat=>HV.int (0+(k:Int))) (List.range ((n:Int)-0).toNat)).length=n by simp) ?_
 revert hK
 induction p0 o n p [] with
 | inl w=>
  intro hK ρ' σ' q
  refine hKF _ _ _ (j7 _ _ rfl rfl ?_)
  refine rr (ag σ' q) ?_;exact hK
 | inr y=>
  obtain⟨ts,p'⟩:=y
  intro hK ρ' σ' q q1 q2 q3
  refine a84 (U8 (mu:=fun _=>false) rfl (by decide) rfl ?_)
  repeat' walk_at "ev"
  refine(j7 _ (.list [.list (ts.map HV.str),.int (p':Nat)]) rfl ?_ (by refine rr (ag σ' q) ?_;exact hK))
  simp only[frz,a42,ham,q1];rfl
end
end
section
theorem b3d:rdSc.names=[(Str.ofString "row",.local),(Str.ofString "turn",.local),(Str.ofString "tape",.free),(Str.ofString "read_string1",.globalImplicit)]:=by kernel_rfl
theorem b6w {env:Env}{c2:Addr}(h2:env.cells.lookup (Str.ofString "tape")=some c2):closureFor rdSc env=pure [(Str.ofString "tape",c2)]:=by
 dsimp only[closureFor]
 refine rr b3d ?_
 simp[(show cellOf env (Str.ofString "tape")=pure c2 from by unfold cellOf;exact rr h2 rfl)]
theorem p26:B9 (stm 26) [tN "octets",tN "start",tN "count"]=true:=by decide +kernel
theorem c5o:∀ (vals:List Value),vals.length=3->∀ fd:FuncData,fd.params=w8 (stm 26)->fd.kwdefaults=.none->fd.defaults=.none->bindArgs fd ⟨vals,[]⟩=pure ([tN "octets",tN "start",tN "count"].zip vals):=fun vals hl fd hp h1 h2=>by
 (refine a4u (c0y hl) fun a b c z1=>?_;refine rr z1 ?_)
 refine rr (C1 hp h1 h2) ?_
 with_unfolding_all rfl
theorem a6d {σ:St}{a:Addr}{x y:List HV}:(σ.put a x).put a y=σ.put a y:=by
 funext b;unfold St.put;split<;>rfl
theorem b5m {o:List UInt8}{p p':Nat}{t:List Nat}(h:rdF o p=some (t,p')):p'<=o.length:=by
 unfold rdF at h
 induction e:o[p]? with
 | none=>exact c7 (e▸h)
 | some b=>
  rw[e] at h
  dsimp only at h
  by_cases hl:p+1+b.toNat<=o.length
  · rw[if_pos hl] at h
    injection h with h
    injection h with _ h
    exact c5k h hl
  · rw[if_neg hl] at h;exact c7 h
structure a96 (B0:Heap) (gt:Loc) (a17 c17 P17 a15 dT a3 miss:Addr) (fd17 fd15:FuncData):Prop where
 f17:FnK B0 a17 (stm 17) fd17 .none
 c17:X7 B0 fd17 c17 P17
 g17:gt (Str.ofString "_law_tape")=some (.val (.ref a17))
 f15:FnK B0 a15 (stm 15) fd15 (.ref dT)
 dT:∃ od nn,B0.get? dT=some od/\od.cls≠.none/\od.data=.seq #[.ref miss] nn
 g15:gt (Str.ofString "reduce")=some (.val (.ref a15))
 red:c4x B0 gt miss
 rd:a5q B0 gt a3
 g3:gt (Str.ofString "read_string1")=some (.val (.ref a3))
 rng:gt (Str.ofString "range")=some (.val (.type "range"))
 str:gt (Str.ofString "str")=some (.val (.type "str"))
noncomputable def T2 (q:Str):List (Pos×Str):=[(rdP,(q++".<locals>.")++"<lambda>")]
theorem a8u (q:Str):G2 (T2 q):=by
 intro a ha b hb _ _
 rw[T2,List.mem_singleton] at ha hb
 (refine rr ha ?_;exact rr hb rfl)
section
variable {prog:Program}{w:World}{B0:Heap}{os:OsState}{gs:TQ}{mg mb:Str->Option Value}{n:Nat}{gt:Loc}
theorem b5b (TB:TopB B0 mg mb) (TM:a53 B0 mg) (hg:I1 mg mb gt){a17 c17 P17 a15 dT a3 miss a26 c26 P26:Addr}{fd17 fd15 fd26:FuncData}(TG:a96 B0 gt a17 c17 P17 a15 dT a3 miss fd17 fd15)
 (F26:FnK B0 a26 (stm 26) fd26 .none) (CB:X7 B0 fd26 c26 P26)
 {A:Around}{l:List Env}{ω:Own}{s:Shared}{σ:St}{octets:List UInt8}{p k:Nat}{v:Value}{t t':Tok}
 (Rm:Room (n+1+1+1+1+1+1) A) (Ks:Stk ω A l) (S:MS B0 os ω gs s) (R:RelS ω σ) (hI17:TabI ω P17 (F0 fd17.qualname)) (hI26:TabI ω P26 (T2 fd26.qualname)) (hlen:octets.length<=1000) (rv:Rd ω (.bytes octets) v) (hp:p<=octets.length) (hk:k<=10) :
 wpAny (model prog w) A (call (.ref a26) [v,.int (p:Nat) t,.int (k:Nat) t'] []) (J0 B0 os ω fun h _ σ' gs'=>h=a0a (p0 octets k p [])/\σ'=σ/\gs'=gs) (RaisG B0 os ω fun _ _ _ _ _=>False) s:=by
  have ln:=c8
  refine a7w (n:=n+1+1+1+1+1) (ps:=[tN "octets",tN "start",tN "count"]) (hs:=[.bytes octets,.int (p:Nat),.int (k:Nat)]) TB (a9p F26.body F26.scope F26.glob F26.blt F26.clo (by decide +kernel) (fun vals hv=>c5o vals hv fd26 F26.params F26.kdflt F26.dflt) p26) F26.at' hg (fun _ _ _ _ _ _ _ q=>q) (fun _ _ _ _ _ _ q=>q) Rm Ks S R (by
   simp only[RdL];exact(j7 v _ rfl rv (j7 _ _ rfl (by simp only[Rd];exact⟨t,rfl⟩) (j7 _ _ rfl (by simp only[Rd];exact⟨t',rfl⟩) rfl)))) rfl ?_
  intro env A' ωb ω₁ s₁ hfr hsc hcode hqual O CO Rm' Ks' S₁ R₁ l₁ hbL hbc other other1
  rw[F26.scope] at O
  rw[Q6] at O
  have n1:T8 [tN "octets",tN "start",tN "count"] [.bytes octets,.int (p:Nat),.int (k:Nat)]=upd (upd (upd (fun _=>none) (tN "count") (.int (k:Nat))) (tN "start") (.int (p:Nat))) (tN "octets") (.bytes octets):=rfl
  rw[n1] at O
  have hI1:TabI ω₁ P17 (F0 fd17.qualname):=by refine o_e hI17 fun ps h=>?_;exact⟨ps,other1 _ _ h (fun _ q=>by first | exact c7 q | exact B5 q | exact B2 q | exact j0 q | contradiction | refine rr q ?_)⟩
  have hJ1:TabI ω₁ P26 (T2 fd26.qualname):=by refine o_e hI26 fun ps h=>?_;exact⟨ps,other1 _ _ h (fun _ q=>by first | exact c7 q | exact B5 q | exact B2 q | exact j0 q | contradiction | refine rr q ?_)⟩
  have ktp:env.kindOf (Str.ofString "tape")=some .cell:=by
   show env.scope.names.lookup _=_
   (refine rr hsc ?_;refine rr F26.scope ?_);decide +kernel
  refine y5 (O.cl (Str.ofString "tape") (by kernel_rfl)) fun _ cT hcT=>?_
  obtain⟨G17,GC17,Gt17,G15,GdT,Gt15,GR,GF,Gt3,Gtr,Gts⟩:=TG
  have gT:=GF.gt'
  have e1:=gT.verr
  refine u9 G17.at'.at' fun o17 ho17 hd17 hcd17=>?_
  refine u9 G15.at'.at' fun o15 ho15 hd15 hcd15=>?_
  refine d9 GdT fun od nn hdT hdc hdd=>?_
  refine o_e CB.tab fun cps hcps=>?_
  unfold tN at O e1
  refine Y6 fun Q E hQ hE=>?_
  conv=>arg 3;arg 1;whnf
  refine t6 fun Q₁ n₁=>(wpAny_Assign_Name ?_ (k9 rfl))
  refine T3 (mu:=fun _=>false) (Γ:=sp0 _) (n:=n+1+1+1+1+1) (xs:=[.bytes octets,.int (p:Nat)]) (t:=σ) (o:=o17) (fd:=fd17) TB Rm' O S₁ R₁ (fa:=a17) ?_ rfl (u7 (okE TB (j8 (n:=n+1+1+1+1+1)) _) (u7 (okE TB (j8 (n:=n+1+1+1+1+1)) _) C3)) ?_ ?_
  · walk_at "nm"
  · intro K hK
    repeat' walk_at "ev"
    exact hK
  intro ω₂ vs s₂ l₂ S₂ R₂ r₂
  simp only[RdL,Rd] at r₂
  (refine d9 r₂ fun v₁ _ z48 rb z49=>?_;refine rr z48 ?_;refine d9 z49 fun _ _ z50 z51 z52=>?_;refine rr z50 ?_;(refine o_e z51 fun t0 z142=>?_;refine rr z142 ?_);refine rr z52 ?_)
  refine c9 O.loc fun m₀ hL _=>?_
  refine⟨⟨S₂.top ho17 hd17,hcd17⟩,W6 hE (b5z (n:=n+1+1+1+1) TB TM hg gT G17 GC17 (k:=p) Rm' (Ks'.mono l₂.w) S₂ R₂ (hI1.le l₂) hlen (by simp only[Rd];exact rb)) (l₂ _ _ hL) (l₁.trans (l₂.s _)) ?_ (fun _ _ _ _ _ _ h=>h.elim)⟩
  intro v₃ h ω₃ σ₃ gs3 s₃ l₃ S₃ R₃ r₃ k₃
  (refine J4 k₃ fun T P K fo ρf z77=>?_;clear k₃;refine E8 z77 fun z78 HT hPn z79 hI3 z80 z81=>?_;subst z78;subst z79;subst z80;refine o_a z81 fun hTD hTC=>?_)
  simp only[Rd] at r₃
  refine rr r₃ ?_
  have l13:=l₂.trans l₃
  have hL3:=l13 _ _ hL
  have HF3:TapeF env.locals ω₃ T P K octets fo ρf:=by
   (refine I7 hTD fun D m fd sl z96=>?_;refine o_a z96 fun d1 d2=>?_)
   exact⟨HT,D,m,fd,sl,fun q=>d1 m₀ (by refine rr q ?_;exact l₂ _ _ hL),d2⟩
  refine G6 (h:=.val (.ref T)) (O.mono l13) (CO.monoW l13.w) S₃ R₃ ktp hcT ⟨d6 (by decide +kernel),d6 (by decide +kernel)⟩ (by simp only[Rd]) fun s₄ v0 hv0 f₄ O4 CO4 S₄ R₄=>?_
  refine o_e ((CO.monoW l₂.w).1 _ _ hcT) fun w2 hw₂=>?_
  have HF4:=HF3.set_cell hv0 (fun x q=>hTC x cT _ q hw₂) (some (.ref T))
  have l4b:LeS env.locals ωb (ω₃.set cT (.cell (some (.ref T)))):=(l₁.trans (l13.s _)).setNew _ (hbc _ _ hcT).1
  have hJ4:TabI (ω₃.set cT (.cell (some (.ref T)))) P26 (T2 fd26.qualname):=by
   refine o_e (hJ1.le l13) fun ps h=>?_
   exact⟨ps,by rw[Own.set_ne _ _ (fun q=>by rw[q,hv0] at h;cases h)];exact h⟩
  have hT4:(ω₃.set cT (.cell (some (.ref T)))) cT=some (.cell (some (.ref T))):=Own.set_self ..
  have hL4:(ω₃.set cT (.cell (some (.ref T)))) env.locals=some (.ns m₀):=by refine rr (Own.set_ne _ _ (Ne.symm (hbc _ _ hcT).2)) ?_;exact hL3
  have K4:=(Ks'.mono l13.w).set_other hv0 (fun _ q=>by first | exact c7 q | exact B5 q | exact B2 q | exact j0 q | contradiction | refine rr q ?_) (.cell (some (.ref T)))
  revert O4 CO4 S₄ R₄ HF4 l4b hJ4 hT4 hL4 K4
  generalize ω₃.set cT (.cell (some (.ref T)))=ω₄
  intro O4 CO4 S₄ R₄ HF4 l4b hJ4 hT4 hL4 K4
  refine n₁ _ ?_
  have hsub:∀ (z:Nat) b ys,σ b=some ys->(σ.put P [.int (z:Nat)]) b=some ys:=fun z b ys e=>by
   rw[j5 (fun q=>by rw[q,hPn] at e;first | exact c7 e | exact B5 e | exact B2 e | exact j0 e | contradiction | refine rr e ?_)];exact e
  have htp:∀ {ρ0:Loc},(upd ρ0 (Str.ofString "tape") (.val (.ref T))) (Str.ofString "tape")=some (.val (.ref T)):=i5
  have hend:∀ (ω₅:Own) (s₅:Shared) (ρ5:Loc) (p':Nat) (ts:List (List Nat)),LeS env.locals ωb ω₅->EnvOk mg mb env ω₅ ρ5 (d7 (b0 (stm 26)) gt)->MS B0 os ω₅ gs3 s₅->RelS ω₅ (σ.put P [.int (p':Nat)])->TapeAt ω₅ T P K octets fo ρf->ρ5 (Str.ofString "texts")=some (.list (ts.map HV.str))->ρ5 (Str.ofString "tape")=some (.val (.ref T))->p0 octets k p []=.inr (ts,p')->wpAny (model prog w) A' (execs ((n7 (stm 26)).drop 2) env) Q E s₅:=by
   intro ω₅ s₅ ρ5 p' ts lb O5 S₅ R₅ H5 q1 q2 hw
   conv=>arg 3;arg 1;whnf
   refine wpAny_execs_cons (b3f O5 S₅ R₅ H5 q1 q2 g0 fun v ω' s' l S' R' r=>hQ _ _ ⟨v,_,ω',σ,_,rfl,lb.trans (l.s _),S',R'.sub (hsub _),r,?_,rfl,rfl⟩)
   refine rr hw ?_;rfl
  refine c9 O4.loc fun mL hLm _=>?_
  show wpAny _ _ (execs (a7f::(n7 (stm 26)).drop 2) env) _ _ _
  conv=>arg 3;arg 1;arg 1;whnf
  refine wpAny_execs_cons (wpAny_Try_except (Y6 fun Q1 E1 hQ1 hE1=>?_))
  refine wpAny_execs_cons (b1v fun Q3 hQ3=>wpAny_Assign_Name (wpAny_Call_ofName (B8 (h:=.val (.ref a15)) TB O4 S₄ (by walk_at "nm") fun u hu=>?_)) (k9 rfl))
  (injection hu with hu;subst hu)
  refine rr (j2 _ _ env rfl) ?_
  refine callWith_function (o:=o15) (fd:=fd15) (p7 (d8 _ env) (spliced_cons (kla_eval rfl ?_)))
  refine a59 TB TM S₄ CB.hd hcps CB.ne (a8u fd26.qualname) (by refine rr hqual ?_;exact .head _) hJ4 (b6w hcT) O4.glob (hcode.trans CB.code) fun f ctv pm cv ω₅ s₅ N hcv=>?_
  (refine K8 (a91 N hJ4 R₄) fun ω6 l₆ S6 R6 z80=>?_;refine o_a z80 fun hf f₆=>?_)
  refine spliced_cons (a43 (mu:=fun _=>false) (Γ:=sp0 _) (n:=n+1+1+1+1+1) (x:=.rng 0 (k:Nat)) (t:=σ.put P [.int (p:Nat)]) TB (j8 (n:=n+1+1+1+1+1)) Rm' (O4.mono l₆) S6 R6 ?_ fun ω7 v7 s7 l7 S7 R7 r₇=>?_)
  · intro K hK
    repeat' walk_at "ev"
    exact K7 (b81 hk) hK
  refine spliced_cons (a43 (mu:=fun _=>false) (Γ:=sp0 _) (n:=n+1+1+1+1+1) (x:=.list []) (t:=σ.put P [.int (p:Nat)]) TB (j8 (n:=n+1+1+1+1+1)) Rm' (O4.mono (l₆.trans l7)) S7 R7 ?_ fun ω8 v8 s8 l8 S8 R8 r₈=>?_)
  · intro K hK
    repeat' walk_at "ev"
    exact hK
  refine spliced_nil ⟨⟨S8.top ho15 hd15,hcd15⟩,?_⟩
  have l48:=(l₆.trans l7).trans l8
  have hf8:=(l7.trans l8).f _ _ hf
  have H8:=HF4.at'.monoW l48.w
  have L8:RdLam ω8 f T cT:=⟨(D4 _ pm cv ctv ⟨hf8,(hcv.monoF f₆).monoF (l7.trans l8).f⟩),l48 _ _ hT4⟩
  have Ks8:=K4.mono l48.w
  have hL8:=l48 _ _ hLm
  refine wpAny_mono (a2e (n:=n+1+1+1+1) (gt:=gt) TB hg GR G15 hdT hdc hdd (fs:=_) (KX:=fun cls msg _ σ' gs'=>cls = "ValueError" /\ p0 octets k p []=.inl msg/\σ'=σ.put P [.int (octets.length:Nat)]/\gs'=gs3) (J:=fun i hv σ'=>∃ (ts:List (List Nat)) (p':Nat),p0 octets k p []=p0 octets (k-i) p' ts/\hv=.list (ts.map HV.str)/\ts.length=i/\σ'=σ.put P [.int (p':Nat)]/\p'<=octets.length) (fun _ _ _ _ _ _ _ q=>q) Rm' Ks8 S8 R8 hf8 rfl (r₇.mono l8) r₈ (.inl ⟨[],rfl⟩) (I0 ([]) p rfl rfl rfl rfl hp) ?_) (fun v s' q=>?_) (fun e s' q=>?_)
  · intro A l' ω' s σ' i hv vs hi Rm Ks lw S R hJ rv
    (refine H9 hJ fun ts p' w1 z21 hl z22 hp'=>?_;clear hJ;subst z21;subst z22)
    refine wpAny_mono (b5r (n:=n) TB hg GF Gt3 Rm Ks S R (L8.monoW lw) (H8.monoW lw) g0 hp' (by refine rr (List.length_map ..) ?_;exact c6 (ad (ad hi hk) (lq hl)) (by simp +arith)) rv) (fun v s' q=>?_) (fun e s' q=>?_)
    · obtain⟨hx,ωx,σx,gx,lx,Sx,Rx,rx,t,p₂,hrd,rfl,rfl,rfl⟩:=q
      refine⟨_,ωx,_,_,lx,Sx,Rx,rx,(I0 (ts++[t]) p₂ ?_ (by simp) (by simp[hl]) a6d (b5m hrd)),rfl⟩
      (refine rr w1 ?_;(refine rr (show k-i=(k-(i+1))+1 from (b8v hi)) ?_;rw[Q9 hrd]))
    · obtain⟨a,ω',σ',gs',cls,msg,t,rfl,l,S,R,F,hA,h1,h2,h3,h4,h5⟩:=q
      refine⟨a,ω',σ',gs',cls,msg,t,rfl,l,S,R,F,hA,h2,?_,by (refine rr h4 ?_;rw[a6d]),h5⟩
      (refine rr w1 ?_;(refine rr (show k-i=(k-(i+1))+1 from (b8v hi)) ?_;rw[E2 h1,h3]))
  · obtain⟨hx,ωx,σx,gx,lx,Sx,Rx,rx,⟨ts,p',w1,rfl,hl,rfl,hp'⟩,rfl⟩:=q
    have l4':=l48.trans lx
    refine o9 (h:=.list (ts.map HV.str)) (O4.mono l4') Sx Rx (by kernel_rfl) rx fun ω9 s9 l9 f₉ O9 S9 R9=>?_
    have HF9:=(HF4.leS (l4'.s _) hLm).leS l9 (l4' _ _ hLm)
    refine hQ3 _ _ ?_
    show wpAny _ _ (execs [] _) _ _ _
    refine wpAny_execs_nil ?_
    refine hQ1 _ _ ?_
    show wpAny _ _ (execs [] _) _ _ _
    refine wpAny_execs_nil ?_
    exact hend ω9 s9 _ p' ts ((l4b.trans (l4'.s _)).trans l9) O9 S9 R9 HF9.at' i5 (by walk_at "nm") (by (refine rr (w1 ..) ?_;refine rr (Nat.sub_self ..) ?_);rfl)
  · refine hE1 _ _ ?_
    obtain⟨ax,ωx,σx,gx,cx,mx,tx,rfl,lx,Sx,Rx,Fx,hAx,rfl,h2,rfl,rfl⟩:=q
    have l4':=l48.trans lx
    refine b04 Sx (Ks8.mono lx.w) hfr Fx fun h₁ S₁ F1=>?_
    refine a0y S₁ F1 fun h₂ S₂ F2 _=>?_
    refine b4d (cls:="ValueError") b2p b13 b0q PySem.F.excStr_ValueError TB Rm' (O4.mono l4') S₂ Rx F2 hAx (by walk_at "nm") (by walk_at "nm") (by kernel_rfl) fun v ω'' s'' g1 g2 g3 g4=>?_
    refine hQ _ _ ⟨v,_,ω'',σ,_,rfl,(l4b.trans (l4'.s _)).trans g1,g2,g3.sub (hsub _),g4,?_,rfl,rfl⟩
    refine rr h2 ?_;rfl
end
end
section
noncomputable abbrev Row:=List (Pz×Int)
noncomputable abbrev M3 (r:Row):HV:=.list (r.map fun x=>pcH x.1 x.2)
noncomputable def C9 (r:Row):Prop:=r.length<=2/\∀ x∈r,x.1.good/\0<=x.2/\x.2<256
noncomputable abbrev inB (l:List Int):Prop:=∀ x∈l,0<=x/\x<256
noncomputable def b05:Spec:=fun hs σ K=>∃ (ns:List Int) (rows:List Row),hs=[.list (ns.map HV.int),.list (rows.map M3)]/\(∀ x∈ns,0<=x/\x<10 ^ 9)/\1<=ns.length/\ns.length<=20/\1<=rows.length/\rows.length<=2/\(∀ r∈rows,C9 r)/\∀ o:List UInt8,o.length<=200->K (.bytes o) σ
theorem b6a (l:List Int):V7 (l.map HV.int)=some l:=by
 induction l with
 | nil=>rfl
 | cons x r ih=>show (V7 (r.map HV.int)).map _=_;refine rr ih ?_;rfl
theorem inB.app {a b:List Int}(h:inB a) (k:inB b):inB (a++b):=fun x hx=>by
 rcases List.mem_append.mp hx with q | q
 · exact h x q
 · exact k x q
noncomputable def ocF1:Expr×List Stmt:=N8 (kid (stm 19) 1)
noncomputable def ocF2:Expr×List Stmt:=N8 (kid (stm 19) 5)
noncomputable def b84:HV->HV
 | .tup [_,_,_,_,e]=>e
 | _=>.none
section
variable {Γ:Spx}{gt:Loc}(g1:gt (Str.ofString "len")=some (.val (.builtin "len")))
include g1
theorem b50:∀ (rows:List Row) (a:Addr) (is:List Int) (ρ:Loc) (σ:St) (KF:KS),(∀ r∈rows,C9 r)->ρ (Str.ofString "run")=some (.obj a)->σ a=some (is.map HV.int)->inB is->is.length+3*rows.length<=50->ρ (Str.ofString "len")=none->
 (∀ (a':Addr) (is':List Int) ρ' σ',ρ' (Str.ofString "run")=some (.obj a')->σ' a'=some (is'.map HV.int)->inB is'->is'.length<=50->(is≠[]\/rows≠[]->is'≠[])->(σ a').isNone=true\/a'=a->Ag σ σ'->(∀ x,x≠Str.ofString "run" -> x≠Str.ofString "row" -> ρ' x=ρ x)->KF .nx ρ' σ')->
 V4 (fun h ρ σ K=>evB (fun _=>false) Γ ocF1.2 (upd ρ (Str.ofString "row") h) (d7 (b0 (stm 19)) gt) σ K) (rows.map M3) ρ σ KF:=by
 have ln:=c8
 intro rows
 induction rows with
 | nil=>
   intro a is ρ σ KF hr e1 e2 hb hl e3 hK
   exact hK a is ρ σ e1 e2 hb (by simp at hl;omega) (fun h=>by rcases h with h | h;· exact h
                                                               · exact absurd rfl h) (.inr rfl) (fun _ _=>rfl) fun _ _ _=>rfl
 | cons r rows ih=>
   intro a is ρ σ KF hr e1 e2 hb hl e3 hK
   simp only[List.length_cons] at hl
   have hro:=hr r (.head _)
   refine b7b ?_
   refine a3l fun KF' hKF'=>?_
   conv=>arg 3;whnf
   conv=>arg 5;arg 1;whnf
   refine m5 (by with_unfolding_all rfl) (by kernel_rfl) (T9 (T9 (X5 (by walk_at "nm") ?_)))
   repeat' walk_at "ev"
   have hr2:=hro.1
   refine a4y (ha:=.obj a) (hb:=.list [.int ((r.map fun x=>pcH x.1 x.2).length:Nat)]) (x:=is.map HV.int) (y:=[.int ((r.map fun x=>pcH x.1 x.2).length:Nat)]) e2 rfl (by simp;exact c6 (ad hl (lq ln.symm)) (by simp +arith)) ?_
   refine b92 (by kernel_rfl) (by with_unfolding_all rfl) ?_
   repeat' walk_at "ev"
   refine R0 (fun _=>true) b84 _ _ _ (by simp;exact a68 ln hr2) (fun x hx K hK=>hK) (fun x hx _ K hK=>?_) ?_
   · (refine c9 (List.mem_map.mp hx) fun y hy z203=>?_;subst z203)
     repeat' walk_at "ev"
     refine a4w (by decide) rfl ?_
     exact hK
   have e9:([]++((r.map fun x=>pcH x.1 x.2).filter fun _=>true).map b84)=(r.map (·.2)).map HV.int:=by
    (refine rr (List.nil_append ..) ?_;refine rr (List.filter_eq_self.mpr (fun _ _=>rfl) ..) ?_;refine rr (List.map_map ..) ?_;refine rr (List.map_map ..) ?_)
    exact List.map_congr_left fun c _=>rfl
   refine rr e9 ?_
   refine b53 (ha:=.list (is.map HV.int++[.int ((r.map fun x=>pcH x.1 x.2).length:Nat)])) (hb:=.list ((r.map (·.2)).map HV.int)) (x:=is.map HV.int++[.int ((r.map fun x=>pcH x.1 x.2).length:Nat)]) (y:=(r.map (·.2)).map HV.int) rfl rfl (by simp;exact c6 (ad (ad hl (lq ln.symm)) hr2) (by simp +arith)) fun a2 ha2=>?_
   repeat' walk_at "ev"
   have e8:is.map HV.int++[.int ((r.map fun x=>pcH x.1 x.2).length:Nat)]++(r.map (·.2)).map HV.int=(is++((r.length:Nat):Int)::r.map (·.2)).map HV.int:=by simp
   refine rr e8 ?_
   refine ih a2 (is++((r.length:Nat):Int)::r.map (·.2)) _ _ KF (fun x hx=>hr x (.tail _ hx)) (by walk_at "nm") g0 ?_ (by simp;exact c6 (ad hl hr2) (by simp +arith)) (by walk_at "nm") fun a' is' ρ' σ' q1 q2 q3 q4 q5 q6 q7 q8=>?_
   · refine hb.app fun x hx=>?_
     rcases List.mem_cons.mp hx with rfl | hx
     · exact⟨Int.ofNat_le.mpr ((by simp +arith):0<=_),Int.ofNat_lt.mpr ((c6 hr2 (by simp +arith)):_<256)⟩
     · (refine c9 (List.mem_map.mp hx) fun y hy z195=>?_;refine rl z195 ?_)
       exact(hro.2 y hy).2
   · refine hK a' is' ρ' σ' q1 q2 q3 q4 (fun _=>q5 (.inl (by simp))) ?_ ?_ fun x h1 h2=>?_
     · left
       rcases q6 with q6 | rfl
       · by_cases hx:a'=a2
         · refine rr hx ?_;refine rr ha2 ?_;rfl
         · rw[j5 hx] at q6;exact q6
       · refine rr ha2 ?_;rfl
     · intro x hx
       have hxa:x≠a2:=fun q=>by subst q;rw[ha2] at hx;exact j0 hx
       (refine rr (q7 x (by refine rr (j5 hxa) ?_;exact hx)) ?_;exact rr (j5 hxa) rfl)
     · (refine rr (q8 x h1 h2) ?_;exact rr (i8 h1 (i8 h2 rfl)) rfl)
theorem b26 {a1 a2:Addr}(h12:a1≠a2):∀ (ns l1 l2:List Int) (ρ:Loc) (σ:St) (KF:KS),(∀ x∈ns,0<=x/\x<10 ^ 9)->ρ (Str.ofString "sides")=some (.list [.obj a1,.obj a2])->σ a1=some (l1.map HV.int)->σ a2=some (l2.map HV.int)->inB l1->inB l2->l1.length+ns.length<=30->l2.length+ns.length<=30->
 (∀ (l1 l2:List Int) ρ' σ',σ' a1=some (l1.map HV.int)->σ' a2=some (l2.map HV.int)->inB l1->inB l2->l1.length<=30->l2.length<=30->(∀ x,x≠a1->x≠a2->σ' x=σ x)->(∀ x,x≠Str.ofString "number" -> x≠Str.ofString "octet" -> ρ' x=ρ x)->KF .nx ρ' σ')->
 V4 (fun h ρ σ K=>evB (fun _=>false) Γ ocF2.2 (upd ρ (Str.ofString "number") h) (d7 (b0 (stm 19)) gt) σ K) (ns.map HV.int) ρ σ KF:=by
 have ln:=c8
 intro ns
 induction ns with
 | nil=>
   intro l1 l2 ρ σ KF hr e1 e2 e3 b1 b2 c1 c2 hK
   exact hK l1 l2 ρ σ e2 e3 b1 b2 (by simpa using c1) (by simpa using c2) (fun _ _ _=>rfl) fun _ _ _=>rfl
 | cons n ns ih=>
   intro l1 l2 ρ σ KF hr e1 e2 e3 b1 b2 c1 c2 hK
   simp only[List.length_cons] at c1 c2
   refine o_a (hr n (.head _)) fun hn0 hn1=>?_
   refine b7b ?_
   refine a3l fun KF' hKF'=>?_
   conv=>arg 3;whnf
   conv=>arg 5;arg 1;whnf
   refine m5 (by with_unfolding_all rfl) (by kernel_rfl) ?_
   refine U9 (K:=fun h s=>∃ o:Int,0<=o/\o<256/\h=.int o/\s=σ) (fun h s q=>?_) ?_
   · (refine K8 q fun o h0 h1 z223 z224=>?_;clear q;refine rr z223 ?_;refine rr z224 ?_)
     have b3:inB [o]:=fun x hx=>by obtain rfl:=List.mem_singleton.mp hx;exact⟨h0,h1⟩
     repeat' walk_at "ev"
     refine D8 (by decide) ?_
     have hm:=O0 n (b:=2) (by decide)
     generalize n.fmod 2=m at *
     rcases (by exact(Int.lt_or_eq_of_le hm.1).elim (fun h=>.inr (Int.le_antisymm (Int.le_of_lt_add_one hm.2) h)) fun h=>.inl h.symm:m=0\/m=1) with rfl | rfl
     · refine y2 (by decide) rfl ?_
       repeat' walk_at "ev"
       refine D0 e2 (by simp;exact b8p c1 ln) ?_
       repeat' walk_at "ev"
       refine ih (l1++[o]) l2 _ _ KF (fun x hx=>hr x (.tail _ hx)) (by walk_at "nm") (by refine rr g0 ?_;simp) (by refine rr (j5 (Ne.symm h12)) ?_;exact e3) (b1.app b3) b2 (by simp;exact b82 c1) (b7p c2) fun l1 l2 ρ' σ' q1 q2 q3 q4 q5 q6 q7 q8=>?_
       exact hK l1 l2 ρ' σ' q1 q2 q3 q4 q5 q6 (fun x h1 h2=>by (refine rr (q7 x h1 h2) ?_;rw[j5 h1])) fun x h1 h2=>by (refine rr (q8 x h1 h2) ?_;rw[i8 h2 (i8 h1 rfl)])
     · refine y2 (by decide) rfl ?_
       repeat' walk_at "ev"
       refine D0 e3 (by simp;exact b8p c2 ln) ?_
       repeat' walk_at "ev"
       refine ih l1 (l2++[o]) _ _ KF (fun x hx=>hr x (.tail _ hx)) (by walk_at "nm") (by refine rr (j5 h12) ?_;exact e2) (by refine rr g0 ?_;simp) b1 (b2.app b3) (b7p c1) (by simp;exact b82 c2) fun l1 l2 ρ' σ' q1 q2 q3 q4 q5 q6 q7 q8=>?_
       exact hK l1 l2 ρ' σ' q1 q2 q3 q4 q5 q6 (fun x h1 h2=>by (refine rr (q7 x h1 h2) ?_;rw[j5 h2])) fun x h1 h2=>by (refine rr (q8 x h1 h2) ?_;rw[i8 h2 (i8 h1 rfl)])
   · repeat' walk_at "ev"
     refine X3 (A8 (by decide) (a1e hn0 hn1) (by decide)) ?_
     repeat' walk_at "ev"
     refine D8 (by decide) ?_
     repeat' walk_at "ev"
     refine V1 (fun q=>?_) (fun q=>?_)
     · repeat' walk_at "ev"
       refine X3 (A8 (by decide) (by exact a1e hn0 hn1) (by decide)) ?_
       repeat' walk_at "ev"
       refine D8 (by decide) ?_
       have h:=O0 (n.fdiv 2) (b:=5) (by decide)
       exact(a2t _ h.1 (Int.lt_trans h.2 (by decide)) rfl rfl)
     · repeat' walk_at "ev"
       refine X3 (A8 (by decide) (by exact a1e hn0 hn1) (by decide)) ?_
       repeat' walk_at "ev"
       refine D8 (by decide) ?_
       have h:=O0 (n.fdiv 20) (b:=256) (by decide)
       exact(a2t _ h.1 h.2 rfl rfl)
end
end
section
theorem inB.set {l:List Int}{o:Int}(h:inB l) (h0:0<=o) (h1:o<256):inB (l.set 0 o):=fun x hx=>by
 refine Or.elim (List.mem_or_eq_of_mem_set hx) (fun q=>?_) fun z38=>?_
 · exact h x q
 · refine rr z38 ?_;exact⟨h0,h1⟩
section
variable {Γ:Spx}{gt:Loc}(g1:gt (Str.ofString "len")=some (.val (.builtin "len"))) (g2:gt (Str.ofString "bytes")=some (.val (.type "bytes")))
include g1 g2
theorem a6r {ns:List Int}{a:Addr}{is:List Int}{ρ:Loc}{σ σ₀:St}{K:KV}{KF:KS}(hns:∀ x∈ns,0<=x/\x<10 ^ 9) (hnl:ns.length<=20) (e1:ρ (Str.ofString "numbers")=some (.list (ns.map HV.int))) (e2:ρ (Str.ofString "run")=some (.obj a)) (e3:ρ (Str.ofString "bytes")=none) (e4:σ a=some (is.map HV.int)) (hb:inB is) (hl:is.length<=50) (ha:(σ₀ a).isNone=true) (ag:Ag σ₀ σ)
 (hK:∀ o:List UInt8,o.length<=200->K (.bytes o) σ₀) (hKF:∀ fl (ρ:Loc) σ',(∃ h h',fl=Fl.rt h/\frz σ₀ σ' h=some h'/\K h' (within σ₀ σ'))->KF fl ρ σ'):evB (fun _=>false) Γ ((n7 (stm 19)).drop 4) ρ (d7 (b0 (stm 19)) gt) σ KF:=by
 have ln:=c8
 conv=>arg 3;whnf
 conv=>arg 5;arg 1;whnf
 refine m5 (by with_unfolding_all rfl) (by kernel_rfl) (U8 (mu:=fun _=>false) rfl (by decide) rfl (a7m (a3v (mu:=fun _=>true) rfl (by decide) rfl (V9 fun a1 ha1=>?_))))
 refine a7m (a3v (mu:=fun _=>true) rfl (by decide) rfl (V9 fun a2 ha2=>V9 ?_))
 have h12:a1≠a2:=fun q=>by subst q;rw[g0] at ha2;exact B5 ha2
 have h2:σ a2=none:=by rw[j5 (Ne.symm h12)] at ha2;exact ha2
 have hx1:a≠a1:=fun q=>by subst q;rw[e4] at ha1;exact B5 ha1
 have hx2:a≠a2:=fun q=>by subst q;rw[e4] at h2;exact B5 h2
 have no:∀ x,(σ₀ x).isSome=true->x≠a1/\x≠a2:=fun x hx=>⟨fun q=>by subst q;have:=ag _ hx;rw[ha1] at this;rw[← this] at hx;exact j0 hx,fun q=>by subst q;have:=ag _ hx;rw[h2] at this;rw[← this] at hx;exact j0 hx⟩
 repeat' walk_at "ev"
 have es:slc (ns.map HV.int) (some 5) none=(ns.drop 5).map HV.int:=by
  unfold slc
  simp only[Option.elim]
  rw[show ((5:Int))=((5:Nat):Int) from rfl,clipAt_nat,List.map_drop,List.take_of_length_le (by simp)]
  refine Or.elim (Nat.le_total 5 ns.length) (fun h=>?_) fun h=>?_
  · rw[List.length_map,Nat.min_eq_left h]
  · rw[List.length_map,Nat.min_eq_right h,List.drop_of_length_le (by simp),List.drop_of_length_le (by simp;exact by assumption)]
 refine rr es ?_
 refine b26 g1 h12 (ns.drop 5) [] [] _ _ _ (fun x hx=>hns x (List.mem_of_mem_drop hx)) (by walk_at "nm") (by (refine rr (j5 h12) ?_;refine rr g0 ?_);rfl) (by refine rr g0 ?_;rfl) (fun _ h=>nomatch h) (fun _ h=>nomatch h) (by simp;exact b8a hnl) (by simp;exact b8a hnl) fun l1 l2 ρ' σ' q1 q2 b1 b2 c1 c2 q7 q8=>?_
 dsimp only
 have o1:ρ' (Str.ofString "sides")=some (.list [.obj a1,.obj a2]):=by refine rr (q8 _ (d6 (by decide +kernel)) (d6 (by decide +kernel))) ?_;walk_at "nm"
 have o2:ρ' (Str.ofString "run")=some (.obj a):=by refine rr (q8 _ (d6 (by decide +kernel)) (d6 (by decide +kernel))) ?_;walk_at "nm"
 have o3:ρ' (Str.ofString "bytes")=none:=by refine rr (q8 _ (d6 (by decide +kernel)) (d6 (by decide +kernel))) ?_;walk_at "nm"
 have o4:σ' a=some (is.map HV.int):=by (refine rr (q7 a hx1 hx2) ?_;refine rr (j5 hx2) ?_;refine rr (j5 hx1) ?_);exact e4
 repeat' walk_at "ev"
 refine y2 (by decide) rfl ?_
 repeat' walk_at "ev"
 refine a4y (ha:=.obj a1) (hb:=.obj a) q1 o4 (by simp;exact c6 (ad (ad (lq ln.symm) c1) hl) (by simp +arith)) ?_
 repeat' walk_at "ev"
 refine y2 (by decide) rfl ?_
 refine a4y (ha:=.list (l1.map HV.int++is.map HV.int)) (hb:=.obj a2) rfl q2 (by simp;exact c6 (ad (ad (ad (lq ln.symm) c1) c2) hl) (by simp +arith)) ?_
 repeat' walk_at "ev"
 refine b5y (ns:=(l1++is)++l2) (by (refine rl List.map_append ?_;refine rl List.map_append ?_);exact b6a _) ((b1.app hb).app b2) ?_
 have hw:within σ₀ σ'=σ₀:=Ag.within fun x hx=>by
  have hxa:x≠a:=fun q=>by subst q;rw[Option.isNone_iff_eq_none.mp ha] at hx;exact j0 hx
  rw[q7 x (no x hx).1 (no x hx).2,j5 (no x hx).2,j5 (no x hx).1];exact ag x hx
 exact hKF _ _ _ ⟨_,_,rfl,rfl,by rw[hw];exact hK _ (by simp;exact c6 (ad (ad c1 c2) hl) (by simp +arith))⟩
theorem b37 {hs : List HV} {σ : St} {K : KV} (H : b05 hs σ K) : B6 (fun _ => false) Γ (b0 (stm 19)) gt [Str.ofString "numbers", Str.ofString "rows"] (n7 (stm 19)) hs σ K := by
 (refine H9 H fun ns rows z109 hns hn1 hn2 z110 => ?_; clear H; subst z109; refine U0 z110 fun hr1 hr2 hro hK => ?_)
 have ln := c8
 refine p6 rfl fun KF hKF => ?_
 conv => arg 3; whnf
 conv => arg 5; arg 1; whnf
 simp only [D6, D5]
 refine m5 (by with_unfolding_all rfl) (by kernel_rfl) (a3v (mu := fun _ => true) rfl (by decide) rfl (V9 fun a0 ha0 => ?_))
 repeat' walk_at "ev"
 refine b50 g1 rows a0 [] _ _ _ hro (by walk_at "nm") g0 (fun _ h => nomatch h) (by simp; exact c6 (ad (ad hr2 hr2) hr2) (by simp +arith)) (by walk_at "nm") fun a is ρ' σ' q1 q2 q3 q4 q5 q6 q7 q8 => ?_
 dsimp only
 have hne : is ≠ [] := q5 (.inr (fun h => by rw [h] at hr1; simp at hr1))
 have p1 : ρ' (Str.ofString "numbers") = some (.list (ns.map HV.int)) := by rw [q8 _ (d6 (by decide +kernel)) (d6 (by decide +kernel))]; walk_at "nm"
 have p2 : ρ' (Str.ofString "bytes") = none := by rw [q8 _ (d6 (by decide +kernel)) (d6 (by decide +kernel))]; walk_at "nm"
 have pa : (σ a).isNone = true := by
  rcases q6 with q6 | rfl
  · by_cases hx : a = a0
    · subst hx; rw [ha0]; rfl
    · rw [j5 hx] at q6; exact q6
  · rw [ha0]; rfl
 have ag : Ag σ σ' := fun x hx => by
  have hxa : x ≠ a0 := fun q => by subst q; rw [ha0] at hx; exact j0 hx
  rw [q7 x (by refine rr (j5 hxa) ?_; exact hx), j5 hxa]
 obtain ⟨n, nr, rfl⟩ : ∃ n nr, ns = n :: nr := by
  induction ns using List.casesOn with
  | nil => simp at hn1
  | cons n nr => exact ⟨n, nr, rfl⟩
 have hn := hns n (.head _)
 refine m5 (by with_unfolding_all rfl) (by kernel_rfl) ?_
 repeat' walk_at "ev"
 refine y2 (by decide) rfl ?_
 repeat' walk_at "ev"
 refine X3 ⟨by decide, (Int.ofNat_lt.mp (show ((Int.natAbs _ : Nat) : Int) < ((2 ^ 62 : Nat) : Int) from Int.lt_of_le_of_lt (Int.le_of_eq (Int.natAbs_of_nonneg hn.1)) (Int.lt_trans hn.2 (by decide)))), by decide⟩ ?_
 repeat' walk_at "ev"
 refine D8 (by decide) ?_
 have hm := O0 (n.fdiv 27) (b := 8) (by decide)
 generalize (n.fdiv 27).fmod 8 = m at *
 refine a9r ?_
 repeat' walk_at "ev"
 refine V1 (fun q => ?_) (fun q => ?_)
 · obtain ⟨i, ir, rfl⟩ : ∃ i ir, is = i :: ir := by
    induction is using List.casesOn with
    | nil => exact absurd rfl hne
    | cons i ir => exact ⟨i, ir, rfl⟩
   have hi := q3 i (.head _)
   refine a1i (q_B (a6v rfl ?_))
   repeat' walk_at "ev"
   refine a05 (by decide) q2 rfl ?_
   repeat' walk_at "ev"
   refine c2z (by decide) ?_
   repeat' walk_at "ev"
   refine D8 (by decide) ?_
   have ho := O0 (i + 13 - 2 * m) (b := 256) (by decide)
   generalize (i + 13 - 2 * m).fmod 256 = o at *
   repeat' walk_at "ev"
   refine ⟨a, _, 0, rfl, rfl, q2, by decide, by simp, ?_⟩
   dsimp only
   refine a6w ?_
   have es : ((i :: ir).map HV.int).set (Int.toNat 0) (.int o) = ((i :: ir).set 0 o).map HV.int := rfl
   refine a6r g1 g2 hns hn2 (by walk_at "nm") (by walk_at "nm") (by walk_at "nm") g0 (q3.set ho.1 ho.2) (by simpa using q4) pa (fun x hx => ?_) hK hKF
   have hxa : x ≠ a := fun q => by subst q; rw [Option.isNone_iff_eq_none.mp pa] at hx; exact j0 hx
   refine rr (j5 hxa) ?_; exact ag x hx
 · refine a6w ?_
   exact a6r g1 g2 hns hn2 (by walk_at "nm") (by walk_at "nm") (by walk_at "nm") q2 q3 q4 pa ag hK hKF
end
end
section
section
variable {prog:Program}{w:World}{B0:Heap}{os:OsState}{gs:TQ}{mg mb:Str->Option Value}{mu:Pos->Bool}{Γ:Spx}{n:Nat}
theorem c13 {elt iter:Expr}{t y:Str}{tp p py sp:Pos}{Q:Flow->Shared->Prop}{sc:Scope}{ifs:List Expr}{A:Around}{E:Value->Shared->Prop}{ω:Own}{s:Shared}{σ:St}{K:KV}{env:Env}{ρ:Loc}{G:GC}(tst:Tst)
 (hi:OkE prog w B0 os gs mg mb mu Γ n iter) (he:OkE prog w B0 os gs mg mb mu Γ n elt)
 (ht:∀ (E:Value->Shared->Prop) (ω:Own) (s:Shared) (σ:St) (K:Bool->St->Prop) (env:Env) (x:HV),EnvOk mg mb env ω (upd (E5 sc ρ) t x) (B1 sc G)->MS B0 os ω gs s->RelS ω σ->tst x σ K->
  wpAny (model prog w) A (forIn ifs true fun c r=>if r=true then do let ok ← isTrue c env (eval c env);pure (ForInStep.yield ok) else pure (ForInStep.yield r)) (V8 B0 os gs ω K) E s)
 (hsw:swapsWith (.ListComp elt [⟨.Name t tp,iter,ifs,0⟩] sc p) (some (.Name y py)) sp.line env=pure true) (hny:nmB G y=true)
 (Rm:Room n A) (O:EnvOk mg mb env ω ρ G) (S:MS B0 os ω gs s) (R:RelS ω σ) (hsc:scB sc t G.c=true) (hib:∀ x,foldedSetIterable iter env x=pure x)
 (H:evE mu Γ iter ρ G σ fun it σ1=>∃ xs,I6 it=some xs/\J1 tst (fun x σ K=>evE mu Γ elt (upd (E5 sc ρ) t x) (B1 sc G) σ K) [] xs σ1 K)
 (HQ:∀ ω' s' ha σ',LeS env.locals ω ω'->EnvOk mg mb env ω' (upd ρ y (.list ha)) G->MS B0 os ω' gs s'->RelS ω' σ'->K (.list ha) σ'->Q .next s') :
 wpAny (model prog w) A (exec (.Assign [.Name y py] (.ListComp elt [⟨.Name t tp,iter,ifs,0⟩] sc p) sp) env) Q E s:=by
 have C:=a8h hsc
 refine rr (exec_Assign_Name_used _ _ _ _ hsw) ?_
 refine wpAny_bind (wpAny_standAt (wpAny_bind ?_))
 refine wpAny_bind (wpAny_mono (wpAny_comprehension_free (use:=some (assign (.Name y py) env)) (Q:=fun _ s'=>Q .next s') (g:=⟨.Name t tp,iter,ifs,0⟩) (gs:=[]) rfl hib (a37 fun x hx e=>(O.cl x.1 (C.free x hx e)).2) C.kind C.names ?_) (fun _ s' hq=>wpAny_pure (wpAny_pure hq)) fun _ _ e=>e)
 refine a7n tst _ hi he ht Rm O S R hsc H ?_
 clear H ht hi he S R hsw hib
 rintro ω₁ acc L s' ⟨ω',σ',ha,vs,m,l₁,n1,n2,a2,l₂,S',R',e3',e4,e5,e6',HK⟩
 refine o_e (S'.hold _ _ e3') fun j hj=>?_
 have S3:=S'.turn e3' rfl (m:=.fz { cls:=.type "list",data:=.seq vs.toArray j }) hj
 have f3:LeF ω' (ω'.set acc (.fz { cls:=.type "list",data:=.seq vs.toArray j })):=LeF.set _ e3' (fun _ q=>by contradiction)
 have l3:=l₂.setNew (.fz { cls:=.type "list",data:=.seq vs.toArray j }) n1
 have R3:=R'.set (.fz { cls:=.type "list",data:=.seq vs.toArray j }) e3' (fun _ q=>by contradiction) (fun _ q=>by contradiction)
 have rl:Rd (ω'.set acc (.fz { cls:=.type "list",data:=.seq vs.toArray j })) (.list ha) (.ref acc):=by
  exact(Y7 e5 acc ⟨_,vs,j,rfl,Own.set_self ..,rfl,rfl,e4.monoF f3⟩)
 have e6'':(ω'.set acc (.fz { cls:=.type "list",data:=.seq vs.toArray j })) L=some (.ns m):=by refine rr (Own.set_ne _ _ a2.symm) ?_;exact e6'
 revert S3 l3 R3 rl e6''
 clear f3 hj e4 e3' e6' R' S' l₂ e5
 generalize ω'.set acc (.fz { cls:=.type "list",data:=.seq vs.toArray j })=ω₂
 intro S3 l3 R3 rl e6
 have hLE:L≠env.locals:=fun q=>by refine c9 (O.mono l₁).loc fun mm hm _=>?_;rw[← q,n2] at hm;exact c7 hm
 refine wpAny_assign_Name (o9 (h:=.list ha) ((O.mono l₁).mono l3) S3 R3 hny rl fun ω₅ s₅ l₅ f₅ O5 S₅ R₅=>?_)
 have e7:ω₅ L=some (.ns m):=l₅ _ _ hLE e6
 refine(j1 m (S₅.hold _ _ e7) (fun h' hs'=>?_))
 have w6:∀ b mm,ω₅ b=some mm->b≠L->(ω₅.del L) b=some mm:=fun b mm e hb=>by refine rr (Own.del_ne _ hb) ?_;exact e
 refine HQ (ω₅.del L) _ ha σ' (((l₁.s _).trans (l3.s _)).trans l₅ |>.delNew ?_) ?_ (S₅.gone e7 rfl hs') (R₅.del e7 (fun _ q=>by cases q) (fun _ q=>by contradiction)) HK
 · induction q:ω L with
   | none=>rfl
   | some mm=>
     have:=l₁ L mm q
     simp only[n2] at this
     clear q;cases mm<;>first | (obtain⟨_,z⟩:=this;exact c7 z) | exact c7 this
 · have fd:LeF ω₅ (ω₅.del L):=LeF.del e7 (fun _ q=>by cases q)
   refine { O5 with loc:=?_,cel:=fun x h e k=>?_ }
   · refine c9 O5.loc fun mm h1 h2=>?_
     exact(j1 mm (w6 _ _ h1 (Ne.symm hLE)) (fun x h e k=>by refine c9 (h2 x h e k) fun v g1 g2=>?_;exact(j1 v g1 (g2.monoF fd))))
   · refine d9 (O5.cel x h e k) fun c v g1 g2 g3=>?_
     exact(j7 c v g1 (w6 _ _ g2 (fun q=>by rw[q,e7] at g2;exact absurd g2 nofun)) (g3.monoF fd))
end
theorem b1a {elt:Expr}{gens:List Comprehension}{sc:Scope}{p py:Pos}{y:Str}{k:Nat}{env:Env}(h1:env.scope.kind=.function) (h2:env.kindOf y=some .local) (h3:(py.line==p.line)=true) (h4:(sc.names.any fun x=>x.1==y&&(x.2==.local||x.2==.cell))=false) :
 swapsWith (.ListComp elt gens sc p) (some (.Name y py)) k env=pure true:=by
 have e:swapsWith (.ListComp elt gens sc p) (some (.Name y py)) k env=pure (env.blockKind==.function&&env.kindOf y==some .local&&py.line==p.line&&!(sc.names.any fun x=>x.1==y&&(x.2==.local||x.2==.cell))):=rfl
 (refine rr e ?_;refine rr h2 ?_;refine rr h3 ?_;refine rr h4 ?_)
 have hb:env.blockKind=.function:=by unfold Env.blockKind;refine rr h1 ?_;rfl
 refine rr hb ?_;rfl
section
variable {mu:Pos->Bool}{Γ:Spx}{ρ:Loc}{G:GC}{σ:St}{KF:KS}
theorem b58 {elt iter:Expr}{t y:Str}{tp p py sp:Pos}{sc:Scope}(h1:scB sc t G.c=true) (h2:a4g iter=true) (h3:nmB G y=true) (h4:(py.line==p.line)=true) (h5:(sc.names.any fun x=>x.1==y&&(x.2==.local||x.2==.cell))=false)
 (h:evE mu Γ iter ρ G σ fun it σ1=>∃ xs,I6 it=some xs/\J1 (fun _ σ K=>K true σ) (fun x σ K=>evE mu Γ elt (upd (E5 sc ρ) t x) (B1 sc G) σ K) [] xs σ1 fun h σ'=>KF .nx (upd ρ y h) σ') :
 evS mu Γ (.Assign [.Name y py] (.ListComp elt [⟨.Name t tp,iter,[],0⟩] sc p) sp) ρ G σ KF:=fun prog w B0 os gs mg mb n T X A E ω s env Rm O S R=>by
 refine c13 (mu:=mu) (Γ:=Γ) (n:=n) (K:=fun h σ'=>KF .nx (upd ρ y h) σ') (fun _ σ K=>K true σ) (okE T X _) (okE T X _) (fun E ω s σ K env x O S R H=>wpAny_tests_nil ⟨ω,σ,.refl _,S,R,H⟩) ?_ h3 Rm O S R h1 (E7 h2) h ?_
 · exact b1a O.kind (O.lc y (by unfold nmB at h3;simp only[Bool.and_eq_true] at h3;exact h3.1.1)) h4 h5
 · intro ω' s' ha σ' l O' S' R' hK
   exact⟨.nx,ω',σ',_,l,O',S',R',.nx,hK⟩
end
end
section
section
variable {prog:Program}{w:World}{B0:Heap}{os:OsState}{gs:TQ}{mg mb:Str->Option Value}{mu:Pos->Bool}{Γ:Spx}{n:Nat}
theorem b34 {A:Around}{E:Value->Shared->Prop}{Q:Flow->Shared->Prop}{rest:List Stmt}{env:Env}{G:GC}{N:Loc->St->Prop}(T:TopB B0 mg mb) (X:u6 prog w B0 os gs Γ n) (Rm:Room n A):∀ (blk:List Stmt) (ω:Own) (s:Shared) (σ:St) (ρ:Loc),EnvOk mg mb env ω ρ G->MS B0 os ω gs s->RelS ω σ->
 evB mu Γ blk ρ G σ (fun fl ρ' σ'=>fl=.nx/\N ρ' σ')->
 (∀ ω' s' ρ' σ',LeS env.locals ω ω'->EnvOk mg mb env ω' ρ' G->MS B0 os ω' gs s'->RelS ω' σ'->N ρ' σ'->wpAny (model prog w) A (execs rest env) Q E s')->wpAny (model prog w) A (execs (blk++rest) env) Q E s
 | [],ω,s,σ,ρ,O,S,R,h,H=>H ω s ρ σ (LeS.refl _ _) O S R h.2
 | st::blk,ω,s,σ,ρ,O,S,R,h,H=>by
  refine a94 (mu:=mu) (N:=fun ρ' σ'=>evB mu Γ blk ρ' G σ' (fun fl ρ' σ'=>fl=.nx/\N ρ' σ')) T X Rm O S R (fun prog w B0 os gs mg mb n T X A E ω s env Rm O S R=>?_) fun ω₁ s₁ ρ1 σ1 l₁ O1 S₁ R₁ h₁=>?_
  · refine wpAny_mono (h T X A E ω s env Rm O S R) (fun f s' q=>?_) fun _ _ e=>e
    obtain⟨fl,ω',σ',ρ',l',a,b,c,d,e⟩:=q
    refine⟨fl,ω',σ',ρ',l',a,b,c,d,?_⟩
    clear d;induction fl using Fl.casesOn with
    | nx=>exact⟨rfl,e⟩
    | ct=>exact absurd e.1 (by intro h;contradiction)
    | br=>exact absurd e.1 (by intro h;contradiction)
    | rt v=>exact absurd e.1 (by intro h;contradiction)
  · exact b34 T X Rm blk ω₁ s₁ σ1 ρ1 O1 S₁ R₁ h₁ fun ω' s' ρ' σ' l O S R n=>H ω' s' ρ' σ' (l₁.trans l) O S R n
end
structure LX (B0:Heap) (os:OsState) (gs:TQ) (mg mb:Str->Option Value) (A:Around) (l:List Env) (env:Env) (sc:Scope) (G:GC) (ωb ω:Own) (s:Shared) (ρ:Loc) (σ:St):Prop where
 O:EnvOk mg mb env ω ρ G
 CO:CellsOk env ω
 S:MS B0 os ω gs s
 R:RelS ω σ
 lb:LeS env.locals ωb ω
 Ks:Stk ω A (env::l)
 hsc:env.scope=sc
 hbc:∀ y c,env.cells.lookup y=some c->ωb c=none/\c≠env.locals
section
variable {prog:Program}{w:World}{B0:Heap}{os:OsState}{gs:TQ}{mg mb:Str->Option Value}{mu:Pos->Bool}{Γ:Spx}{n:Nat}{A:Around}{l:List Env}{env:Env}{sc:Scope}{G:GC}{ωb ω:Own}{s:Shared}{ρ:Loc}{σ:St}{E:Value->Shared->Prop}
theorem LX.le (L:LX B0 os gs mg mb A l env sc G ωb ω s ρ σ){ω':Own}{s':Shared}{ρ':Loc}{σ':St}(le:LeS env.locals ω ω') (O':EnvOk mg mb env ω' ρ' G) (S':MS B0 os ω' gs s') (R':RelS ω' σ'):LX B0 os gs mg mb A l env sc G ωb ω' s' ρ' σ':=by
 refine c9 L.O.loc fun m hL _=>?_
 refine c9 O'.loc fun m' hL' _=>?_
 exact⟨O',L.CO.step le hL,S',R',L.lb.trans le,L.Ks.step le hL',L.hsc,L.hbc⟩
theorem LX.store {Q:Unit->Shared->Prop}{x:Str}{h:HV}{v:Value}(L:LX B0 os gs mg mb A l env sc G ωb ω s ρ σ) (hk:sc.names.lookup x=some .cell) (hc:G.c x=true) (hd:x≠("__debug__" : Str)/\x≠("__classdict__" : Str)) (r:Rd ω h v)
 (H:∀ ω' s',LX B0 os gs mg mb A l env sc G ωb ω' s' (upd ρ x h) σ->Q () s'):wpAny (model prog w) A (storeName env x v) Q E s:=by
 refine y5 (L.O.cl x hc) fun _ c hcc=>?_
 refine G6 L.O L.CO L.S L.R (show env.scope.names.lookup x=_ by refine rr L.hsc ?_;exact hk) hcc hd r fun s' v0 h0 f O' CO' S' R'=>H _ _ ⟨O',CO',S',R',L.lb.setNew _ (L.hbc _ _ hcc).1,L.Ks.set_other h0 (fun _ q=>by contradiction) _,L.hsc,L.hbc⟩
theorem LX.cell {Q:Flow->Shared->Prop}{x:Str}{q p:Pos}{e:Expr}{rest:List Stmt}{N:HV->St->Prop}(L:LX B0 os gs mg mb A l env sc G ωb ω s ρ σ) (T:TopB B0 mg mb) (X:u6 prog w B0 os gs Γ n) (Rm:Room n A) (hk:sc.names.lookup x=some .cell) (hc:G.c x=true) (hd:x≠("__debug__" : Str)/\x≠("__classdict__" : Str)) (hs:swapsWith e (some (.Name x q)) p.line env=pure false)
 (h:evE mu Γ e ρ G σ N) (H:∀ ω' s' h σ',LX B0 os gs mg mb A l env sc G ωb ω' s' (upd ρ x h) σ'->N h σ'->wpAny (model prog w) A (execs rest env) Q E s'):wpAny (model prog w) A (execs (.Assign [.Name x q] e p::rest) env) Q E s:=by
 refine t6 fun Q₁ n₁=>wpAny_Assign_Name (j4 (okE T X e A E ω s σ N env ρ G Rm L.O L.S L.R h) fun hv ω₁ σ1 v s₁ l₁ S₁ R₁ r₁ hN=>?_) hs
 exact(L.le (l₁.s _) (L.O.mono l₁) S₁ R₁).store hk hc hd r₁ fun ω' s' L'=>n₁ _ (H ω' s' hv σ1 L' hN)
theorem Y0 {elt:Expr}{gens:List Comprehension}{sc':Scope}{p py:Pos}{y:Str}{k:Nat}{env:Env}(h2:env.kindOf y=some .cell) :
 swapsWith (.ListComp elt gens sc' p) (some (.Name y py)) k env=pure false:=by
 have e:swapsWith (.ListComp elt gens sc' p) (some (.Name y py)) k env=pure (env.blockKind==.function&&env.kindOf y==some .local&&py.line==p.line&&!(sc'.names.any fun x=>x.1==y&&(x.2==.local||x.2==.cell))):=rfl
 (refine rr e ?_;refine rr h2 ?_)
 have:((some NameKind.cell:Option NameKind)==some NameKind.local)=false:=by decide
 refine rr this ?_
 simp
end
theorem a4z {α β:Type}(f:α->β) (l:List α) (lo hi:Option Int):slc (l.map f) lo hi=(slc l lo hi).map f:=by
 unfold slc;simp[List.map_drop,List.map_take]
theorem a1v {α:Type}{l:List α}{lo hi:Option Int}{x:α}(h:x∈slc l lo hi):x∈l:=by
 unfold slc at h
 first | exact List.mem_of_mem_drop (List.mem_of_mem_take h) | exact List.mem_of_mem_take (List.mem_of_mem_drop h)
theorem b4g {α:Type}(l:List α) (b:Nat):slc l (some (b:Int)) none=l.drop b:=by
 have:=clipAt_nat l.length b
 unfold slc
 simp only[Option.elim]
 (refine rr this ?_;refine rr (List.take_of_length_le (by refine rr List.length_drop ?_;exact Nat.le_refl _)) ?_)
 by_cases h:l.length<=b
 · rw[Nat.min_eq_right h,List.drop_length,List.drop_of_length_le h]
 · rw[Nat.min_eq_left (ar5 h)]
theorem b3m {α:Type}(l:List α) (b:Nat):slc l none (some (b:Int))=l.take b:=by
 have:=clipAt_nat l.length b
 unfold slc
 simp only[Option.elim]
 refine rr this ?_
 simp only[List.drop_zero,Nat.sub_zero]
 by_cases h:l.length<=b
 · rw[Nat.min_eq_right h,List.take_length,List.take_of_length_le h]
 · rw[Nat.min_eq_left (ar5 h)]
theorem a5k {els:HV->St->KV->Prop}{σ:St}:∀ (ns:List Int) (acc:List HV) (K:KV),acc.length+ns.length<=sizeLine->(∀ n∈ns,∀ K:KV,(∀ (t:Pz) (o:Int),t.good->0<=o->o<256->K (pcH t o) σ)->els (.int n) σ K)->
 (∀ ts:Row,ts.length=ns.length->(∀ x∈ts,x.1.good/\0<=x.2/\x.2<256)->K (.list (acc++ts.map fun x=>pcH x.1 x.2)) σ)->J1 (fun _ σ K=>K true σ) els acc (ns.map HV.int) σ K:=by
 intro xs0
 induction xs0 with
 | nil=>
  exact @fun acc K _ _ h=>by
   have:=h [] rfl (fun _ q=>by contradiction)
   simpa [J1] using this
 | cons n ns ih=>
  exact @fun acc K hz he h=>by
   simp only[List.length_cons] at hz
   refine rr List.map_cons ?_
   refine he n (.head _) _ fun t o h1 h2 h3=>⟨c1l hz,?_⟩
   refine ih (acc++[pcH t o]) K (by simp;exact c0g hz) (fun m hm=>he m (.tail _ hm)) fun ts g1 g2=>?_
   have:=h ((t,o)::ts) (by simp[g1]) (fun x hx=>by
    refine Or.elim (List.mem_cons.mp hx) (fun z1=>?_) fun hx=>?_
    · refine rr z1 ?_;exact(A8 h1 h2 h3)
    · exact g2 x hx)
   simpa using this
noncomputable def c46:HV->HV
 | .int i=>.int (i.fmod (10 ^ 9))
 | x=>x
structure a40 (gt:Loc) (Γ:Spx):Prop where
 len:gt (Str.ofString "len")=some (.val (.builtin "len"))
 chr:gt (Str.ofString "chr")=some (.val (.builtin "chr"))
 rng:gt (Str.ofString "range")=some (.val (.type "range"))
 isi:gt (Str.ofString "isinstance")=some (.val (.builtin "isinstance"))
 lst:gt (Str.ofString "list")=some (.val (.type "list"))
 piece:∃ a,gt (Str.ofString "_law_piece")=some (.val (.ref a))/\Γ.f (.ref a)=some a1q
 oct:∃ a,gt (Str.ofString "_law_octets")=some (.val (.ref a))/\Γ.f (.ref a)=some b05
 tx:∃ a,gt (Str.ofString "translate")=some (.val (.ref a))/\Γ.f (.ref a)=some a9m
 tr:∃ a,gt (Str.ofString "_translate")=some (.val (.ref a))/\Γ.f (.ref a)=some a2r
 mean:∃ a,gt (Str.ofString "_law_meaning")=some (.val (.ref a))/\Γ.f (.ref a)=some a0f
 means:∃ a,gt (Str.ofString "_law_meanings")=some (.val (.ref a))/\Γ.f (.ref a)=some a1l
 holds:∃ a,gt (Str.ofString "_law_holds")=some (.val (.ref a))/\Γ.f (.ref a)=some a00
 takes:∃ a,gt (Str.ofString "_law_takes")=some (.val (.ref a))/\Γ.f (.ref a)=some a1x
 walk:∃ a,gt (Str.ofString "_law_walk")=some (.val (.ref a))/\Γ.f (.ref a)=some a64
section
variable {Γ:Spx}{gt:Loc}(LG:a40 gt Γ)
include LG
noncomputable def lawB:List Stmt:=n7 (stm 27)
theorem b9i {script:List Int}(hsc:script.length<=63){σ:St}{KF:KS}
 (hK:∀ (ns:List Int) (ps:Row) (ρ':Loc),(∀ x∈ns,0<=x/\x<10 ^ 9)->8<=ns.length->ns.length<=14->ps.length<=4->(∀ x∈ps,x.1.good/\0<=x.2/\x.2<256)->ρ' (Str.ofString "numbers")=some (.list (ns.map HV.int))->ρ' (Str.ofString "pieces")=some (M3 ps)->(∀ x,x ∉ [Str.ofString "script",Str.ofString "drawn",Str.ofString "numbers",Str.ofString "pieces"]->ρ' x=none)->KF .nx ρ' σ) :
 evB (fun _=>false) Γ (lawB.take 3) (upd (fun _=>none) (Str.ofString "script") (.list (script.map HV.int))) (d7 (b0 (stm 27)) gt) σ KF:=by
 have ln:=c8
 obtain⟨g1,g2,g3,g4,g5,⟨a6,g6,h6⟩,⟨a7,g7,h7⟩,⟨a8,g8,h8⟩,⟨a9,g9,h9⟩,⟨aA,gA,hA⟩,⟨aB,gB,hB⟩,⟨aC,gC,hC⟩,⟨aD,gD,hD⟩,⟨aE,gE,hE⟩⟩:=LG
 conv=>arg 3;whnf
 conv=>arg 5;arg 1;whnf
 repeat' walk_at "ev"
 refine b58 (by kernel_rfl) (by with_unfolding_all rfl) (by kernel_rfl) (by decide) (by decide +kernel) ?_
 repeat' walk_at "ev"
 refine rr (a4z ..) ?_
 generalize hd:slc script none (some 14)=dr
 have hdl:dr.length<=14:=by
  refine rl hd ?_
  have:=b3m script 14
  (refine rr (show ((14:Int))=((14:Nat):Int) from rfl) ?_;refine rr this ?_;refine rr List.length_take ?_)
  exact Nat.min_le_left _ _
 refine R0 (fun _=>true) c46 _ _ _ (by simp;exact c3w ln hdl) (fun x hx K hK=>hK) (fun x hx hp K hK=>?_) ?_
 · (refine c9 (List.mem_map.mp hx) fun c hc z9=>?_;subst z9)
   repeat' walk_at "ev"
   refine c2u (A8 (by decide) (by decide) (by decide)) ?_
   refine D8 (by decide) ?_
   exact hK
 have hfil:((dr.map HV.int).filter (fun _=>true)).map c46=(dr.map fun x=>x.fmod (10 ^ 9)).map HV.int:=by
  (refine rr (List.filter_eq_self.mpr (fun _ _=>rfl)) ?_;refine rr List.map_map ?_;refine rr List.map_map ?_);rfl
 (refine rr (List.nil_append ..) ?_;refine rr (hfil ..) ?_)
 generalize hnd:dr.map (fun x=>x.fmod (10 ^ 9))=nd
 have hndl:nd.length<=14:=by (refine rl (hnd ..) ?_;refine rr (List.length_map ..) ?_);exact hdl
 have hndr:∀ x∈nd,0<=x/\x<10 ^ 9:=fun x hx=>by
  rw[← hnd] at hx
  (refine c9 (List.mem_map.mp hx) fun y _ z3=>?_;refine rl z3 ?_)
  refine rr (Int.fmod_eq_emod_of_nonneg _ (by decide)) ?_
  exact⟨Int.emod_nonneg _ (by decide),Int.emod_lt_of_pos _ (by decide)⟩
 dsimp only
 conv=>arg 3;whnf
 repeat' walk_at "ev"
 have hsl:slc [HV.int 14,.int 1113,.int 0,.int 20,.int 293,.int 4,.int 21,.int 9] (some ((nd.map HV.int).length:Int)) none=(([14,1113,0,20,293,4,21,9]:List Int).drop nd.length).map HV.int:=by
  (refine rr (List.length_map ..) ?_;refine rr (b4g ..) ?_;refine rr (List.map_drop ..) ?_);rfl
 refine rr hsl ?_
 refine a62 (by simp;exact Nat.le_trans (ad hndl (Nat.sub_le 8 _)) (Nat.le_trans (by decide) (lq ln.symm))) ?_
 refine rl List.map_append ?_
 generalize hns:nd++([14,1113,0,20,293,4,21,9]:List Int).drop nd.length=ns
 have hnl:8<=ns.length/\ns.length<=14:=by refine rl hns ?_;simp;exact c30 hndl
 have hnr:∀ x∈ns,0<=x/\x<10 ^ 9:=fun x hx=>by
  rw[← hns] at hx
  rcases List.mem_append.mp hx with h | h
  · exact hndr x h
  · have:=List.mem_of_mem_drop h
    exact(by decide:∀ x∈([14,1113,0,20,293,4,21,9]:List Int),0<=x/\x<10 ^ 9) x this
 repeat' walk_at "ev"
 refine b58 (by kernel_rfl) (by with_unfolding_all rfl) (by kernel_rfl) (by decide) (by decide +kernel) ?_
 repeat' walk_at "ev"
 refine rr (a4z ..) ?_
 have hp4:(slc ns (some 1) (some 5)).length<=4:=by
  (refine rr (show ((1:Int))=((1:Nat):Int) from rfl) ?_;refine rr (show ((5:Int))=((5:Nat):Int) from rfl) ?_;refine rr (Z3 ..) ?_);simp;exact Nat.min_le_left _ _
 refine a5k _ [] _ (by simp;exact c3s ln hp4) (fun m hm K hK=>?_) fun ts h1 h2=>?_
 · repeat' walk_at "ev"
   refine M2 h6 (a2t m rfl ?_ ?_ hK)
   · exact(hnr m (a1v hm)).1
   · exact(hnr m (a1v hm)).2
 · refine hK ns ts _ hnr hnl.1 hnl.2 (c4y h1 hp4) h2 ?_ ?_ fun x hx=>?_
   · walk_at "nm"
   · exact i5
   simp only[List.mem_cons,List.not_mem_nil,or_false,not_or] at hx
   simp only[upd,if_neg hx.1,if_neg hx.2.1,if_neg hx.2.2.1,if_neg hx.2.2.2]
end
end
section
theorem b8y (z:Int):∃ m:Nat,z.fmod 3=(m:Int)/\m<=2:=by
 have h1:z.fmod 3<3:=by rw[Int.fmod_eq_emod_of_nonneg _ (by decide)];exact Int.emod_lt_of_pos _ (by decide)
 exact(j1 ((z.fmod 3).toNat) (b8t (show 0<=z.fmod 3 from by rw[Int.fmod_eq_emod_of_nonneg _ (by decide)];exact Int.emod_nonneg _ (by decide))) (Int.toNat_le.mpr (Int.le_of_lt_add_one h1)))
noncomputable abbrev pcs (ps:Row):Prop:=∀ x∈ps,x.1.good/\0<=x.2/\x.2<256
noncomputable def K5 (r:Row):List Nat:=(r.map fun x=>x.1.txt).flatten
theorem b4i (ps:Row) (lo hi:Option Int):slc (ps.map fun x=>pcH x.1 x.2) lo hi=(slc ps lo hi).map fun x=>pcH x.1 x.2:=a4z _ _ _ _
section
variable {Γ:Spx}{gt:Loc}(LG:a40 gt Γ){ρ:Loc}{σ:St}{ns:List Int}{ps:Row}(hn:8<=ns.length) (hr:∀ x∈ns,0<=x/\x<10 ^ 9) (hp:pcs ps) (e1:ρ (Str.ofString "numbers")=some (.list (ns.map HV.int))) (e2:ρ (Str.ofString "pieces")=some (M3 ps))
include hn hr e1
theorem c0n:∃ n0,at? (ns.map HV.int) 0=some (.int n0)/\0<=n0/\n0<10 ^ 9:=by
 clear e1;induction ns using List.casesOn with
 | nil=>simp at hn
 | cons n0 r=>exact(j1 n0 rfl (hr n0 (.head _)))
include hp e2
theorem c0x:evE (fun _=>false) Γ (z0 (lawB.getD 3 noS)) ρ (d7 (b0 (stm 27)) gt) σ fun h σ'=>(∃ r:Row,h=.list [M3 r]/\C9 r)/\σ'=σ:=by
 refine u9 (c0n hn hr e1) fun n0 hat h0 h1=>?_
 conv=>arg 3;whnf
 conv=>arg 5;arg 1;whnf
 repeat' walk_at "ev"
 refine y2 (by decide) hat ?_
 repeat' walk_at "ev"
 refine D8 (by decide) ?_
 repeat' walk_at "ev"
 refine c9 (b8y n0) fun m hm hm2=>?_
 refine⟨(y7 (slc ps none (some (n0.fmod 3))) (by exact rr (b4i ..) rfl) ?_ (fun x hx=>hp x (a1v hx))),rfl⟩
 (refine rr hm ?_;refine rr (b3m ..) ?_;refine rr List.length_take ?_);exact Nat.le_trans (Nat.min_le_left _ _) hm2
theorem b7o {rows:List Row}(h1:rows.length=1) (hr0:∀ r∈rows,C9 r) (e3:ρ (Str.ofString "rows")=some (.list (rows.map M3))) :
 evE (fun _=>false) Γ (z0 ((n7 (lawB.getD 4 noS)).headD noS)) ρ (d7 (b0 (stm 27)) gt) σ fun h σ'=>(∃ rows':List Row,h=.list (rows'.map M3)/\rows'.length=2/\∀ r∈rows',C9 r)/\σ'=σ:=by
 refine u9 (c0n hn hr e1) fun n0 hat h0 h2=>?_
 conv=>arg 3;whnf
 conv=>arg 5;arg 1;whnf
 repeat' walk_at "ev"
 refine y2 (by decide) hat ?_
 repeat' walk_at "ev"
 refine X3 (A8 (by decide) (a1e h0 h2) (by decide)) ?_
 repeat' walk_at "ev"
 refine D8 (by decide) ?_
 repeat' walk_at "ev"
 refine c9 (b8y (n0.fdiv 3)) fun m hm hm2=>?_
 refine a62 (by simp[h1];exact b4z c8) ?_
 refine⟨(y7 (rows++[slc ps (some 2) (some (2+(n0.fdiv 3).fmod 3))]) (by (refine rr List.map_append ?_;refine rr (b4i ..) ?_);rfl) (by simp[h1]) (fun r hx=>?_)),rfl⟩
 rcases List.mem_append.mp hx with h | h
 · exact hr0 r h
 · refine rr (List.mem_singleton.mp h) ?_
   refine⟨?_,fun x hx=>hp x (a1v hx)⟩
   (refine rr hm ?_;refine rr (show (2+(m:Int))=((2+m:Nat):Int) from by simp) ?_;refine rr (show ((2:Int))=((2:Nat):Int) from rfl) ?_;refine rr (Z3 ..) ?_);simp;exact Nat.le_trans (Nat.min_le_left _ _) (Nat.add_le_add_left hm2 2)
omit hp e2
theorem b9c {KB:Bool->St->Prop}(hK:∀ b,KB b σ) :
 evT (fun _=>false) Γ (z0 (lawB.getD 4 noS)) ρ (d7 (b0 (stm 27)) gt) σ KB:=by
 refine u9 (c0n hn hr e1) fun n0 hat h0 h2=>?_
 conv=>arg 3;whnf
 conv=>arg 5;arg 1;whnf
 repeat' walk_at "ev"
 refine y2 (by decide) hat ?_
 repeat' walk_at "ev"
 refine X3 (A8 (by decide) (a1e h0 h2) (by decide)) ?_
 repeat' walk_at "ev"
 refine D8 (by decide) ?_
 repeat' walk_at "ev"
 exact hK _
end
theorem P8 {α:Type}{els:HV->St->KV->Prop}{σ:St}(g f:α->HV):∀ (l:List α) (acc:List HV) (K:KV),acc.length+l.length<=sizeLine->(∀ a∈l,∀ K:KV,K (f a) σ->els (g a) σ K)->
 K (.list (acc++l.map f)) σ->J1 (fun _ σ K=>K true σ) els acc (l.map g) σ K:=by
 intro xs0
 induction xs0 with
 | nil=>
  exact @fun acc K _ _ h=>by simpa [J1] using h
 | cons a l ih=>
  exact @fun acc K hz he h=>by
   simp only[List.length_cons] at hz
   refine rr List.map_cons ?_
   refine he a (.head _) _ ⟨c1l hz,?_⟩
   refine ih (acc++[f a]) K (by simp;exact c0g hz) (fun b hb=>he b (.tail _ hb)) ?_
   simpa using h
theorem b0c (t:Pz):t.txt.length<=6:=by
 rcases t with _ | c | ⟨b,lo,hi⟩
 · decide
 · show (if [42,63,91].contains c=true then [91,c,93] else [c]).length<=6
   refine ie rfl (fun _=>?_) fun _=>?_<;>simp
 · cases b<;>simp[Pz.txt]
theorem a28 (r:Row) (h:r.length<=2):(K5 r).length<=12:=by
 have:∀ r:Row,(K5 r).length<=6*r.length:=fun r=>by
  induction r with
  | nil=>exact Nat.le_refl _
  | cons x r ih=>
   have:=b0c x.1
   unfold K5 at ih ⊢
   simp only[List.map_cons,List.flatten_cons,List.length_append,List.length_cons];exact b7v ih this
 have:=this r;exact Nat.le_trans this (Nat.le_trans (Nat.mul_le_mul_left 6 h) (by decide))
theorem a2b (r:Row):(r.map fun x=>(some x.1:Tk)).flatMap tkT=K5 r:=by
 rw[List.flatMap_map,List.flatMap_def];rfl
theorem J6 (ps:List Pz):∀ acc:List (Option (List Nat)),(ps.map some).foldl trS acc=acc++ps.map fun t=>some (pcF t):=by
 induction ps with
 | nil=>intro acc;simp
 | cons t ps ih=>intro acc;simp only[List.map_cons,List.foldl_cons,ih];simp[trS]
theorem a4k (l:List (List Nat)):l0 (l.map some)=l:=by
 induction l with
 | nil=>rfl
 | cons x r ih=>show x::l0 (r.map some)=_;exact rr ih rfl
theorem a45 (l:List (List Nat)):n9 (l.map some)=[]:=by
 induction l with
 | nil=>rfl
 | cons x r ih=>exact ih
theorem a4h (l:List (List Nat)):G9 (l.map some)=([40,63,115,58]++l.flatten)++[41,92,90]:=by
 unfold G9
 (refine rr (a4k ..) ?_;refine rr (a45 ..) ?_;refine rr (List.length_map ..) ?_)
 have:jnF l.length []=[]:=by cases l<;>rfl
 (refine rr this ?_;exact rr (List.append_nil ..) rfl)
theorem a6u (r:Row):G9 ((r.map fun x=>(some x.1:Tk)).foldl trS [])=([40,63,115,58]++(r.map fun x=>pcF x.1).flatten)++[41,92,90]:=by
 have:(r.map fun x=>(some x.1:Tk))=(r.map (·.1)).map some:=by simp[Function.comp_def]
 (refine rr this ?_;refine rr (J6 ..) ?_;refine rr (List.nil_append ..) ?_)
 have:(r.map (·.1)).map (fun t=>some (pcF t))=(r.map fun x=>pcF x.1).map some:=by simp[Function.comp_def]
 (refine rr this ?_;exact rr (a4h ..) rfl)
section
variable {Γ:Spx}{gt:Loc}(LG:a40 gt Γ){ρ:Loc}{σ:St}{rows:List Row}(h1:1<=rows.length) (h2:rows.length<=2) (hr:∀ r∈rows,C9 r) (e3:ρ (Str.ofString "rows")=some (.list (rows.map M3)))
include LG h1 h2 hr e3
theorem c0c {ns:List Int}(hn:8<=ns.length) (hn2:ns.length<=14) (hnr:∀ x∈ns,0<=x/\x<10 ^ 9) (e1:ρ (Str.ofString "numbers")=some (.list (ns.map HV.int))) (e4:ρ (Str.ofString "_law_octets")=none) :
 evE (fun _=>false) Γ (z0 (lawB.getD 5 noS)) ρ (d7 (b0 (stm 27)) gt) σ fun h σ'=>(∃ o:List UInt8,h=.bytes o/\o.length<=200)/\σ'=σ:=by
 refine c9 LG.oct fun a g hΓ=>?_
 conv=>arg 3;whnf
 conv=>arg 5;arg 1;whnf
 repeat' walk_at "ev"
 exact M2 hΓ (I0 ns rows rfl hnr (Nat.le_trans (Nat.le_add_left _ _) hn) (Nat.le_trans hn2 (by decide)) ⟨h1,h2,hr,fun o ho=>⟨(j1 o rfl ho),rfl⟩⟩)
theorem b9r:evE (fun _=>false) Γ (z0 (lawB.getD 6 noS)) ρ (d7 (b0 (stm 27)) gt) σ fun h σ'=>h=.list (rows.map fun r=>.str (K5 r))/\σ'=σ:=by
 have ln:=c8
 conv=>arg 3;whnf
 conv=>arg 5;arg 1;whnf
 repeat' walk_at "ev"
 refine P8 M3 (fun r=>.str (K5 r)) rows [] _ (by simp;exact a68 ln h2) (fun r hrr K hK=>?_) ⟨by simp,rfl⟩
 refine o_a (hr r hrr) fun hr2 hrp=>?_
 repeat' walk_at "ev"
 refine P8 (fun x=>pcH x.1 x.2) (fun x:Pz×Int=>.str x.1.txt) r [] _ (by simp;exact a68 ln hr2) (fun x hx K hK=>?_) ?_
 · repeat' walk_at "ev"
   refine a4w (i:=3) (by decide) rfl ?_
   exact hK
 · repeat' walk_at "ev"
   refine a2u (ys:=(r.map fun x=>x.1.txt).map HV.str) (ts:=r.map fun x=>x.1.txt) (by simp[K1,Function.comp_def]) (G3 _) ?_ ?_
   · (refine rr o8 ?_;refine rr (a0d ..) ?_)
     have:=a28 r hr2
     unfold K5 at this
     exact c4e ln this
   · (refine rr o8 ?_;refine rr (F8 ..) ?_)
     exact hK
theorem c00 (e4:ρ (Str.ofString "patterns")=some (.list (rows.map fun r=>.str (K5 r)))) (e5:ρ (Str.ofString "translate")=none) :
 evE (fun _=>false) Γ (z0 (lawB.getD 7 noS)) ρ (d7 (b0 (stm 27)) gt) σ fun h σ'=>h=.list (rows.map fun r=>.list ((r.map fun x=>x.1.mean).map mnT))/\σ'=σ:=by
 have ln:=c8
 refine c9 LG.tx fun a8 g8 h8=>?_
 refine c9 LG.means fun aB gB hB=>?_
 conv=>arg 3;whnf
 conv=>arg 5;arg 1;whnf
 repeat' walk_at "ev"
 refine P8 (fun r=>.str (K5 r)) (fun r:Row=>.list ((r.map fun x=>x.1.mean).map mnT)) rows [] _ (by simp;exact a68 ln h2) (fun r hrr K hK=>?_) ⟨by simp,rfl⟩
 refine o_a (hr r hrr) fun hr2 hrp=>?_
 repeat' walk_at "ev"
 have hpl:=a28 r hr2
 refine M2 h8 (N6 (r.map fun x=>some x.1) (by exact rr (a2b ..) rfl) (by refine rr (a2b ..) ?_;exact Nat.le_trans hpl (by decide)) (by simp;exact b8z hr2) (fun t ht=>?_) ?_)
 · refine c9 (List.mem_map.mp ht) fun x hx hxt=>?_
   injection hxt with hxt
   refine rl hxt ?_;exact(hrp x hx).1
 repeat' walk_at "ev"
 refine M2 hB (N6 (r.map fun x=>(pcF x.1,x.1.mean)) ?_ (fun y hy=>?_) (by simp;exact b8z hr2) ?_ ?_)
 · refine rr (a6u ..) ?_;simp[Function.comp_def]
 · (refine c9 (List.mem_map.mp hy) fun x hx z237=>?_;refine rl z237 ?_)
   have:=P5 x.1 (hrp x hx).1
   exact⟨this.1,this.2.1⟩
 · have hb:=V5 (B:=12) ((r.map fun x=>(pcF x.1,x.1.mean)).map (·.1)) (fun s hs=>by
  simp only[List.map_map,List.mem_map] at hs
  (refine c9 hs fun x hx z234=>?_;clear hs;subst z234)
  exact(P5 x.1 (hrp x hx).1).2.2.1)
   simp only[List.length_map] at hb
   exact Nat.le_trans hb (Nat.le_trans (Nat.mul_le_mul_left 12 hr2) (by decide))
 · have:(r.map fun x=>(pcF x.1,x.1.mean)).map (·.2)=r.map fun x=>x.1.mean:=by simp[Function.comp_def]
   refine rr this ?_;exact hK
end
end
section
noncomputable def wlE:Expr:=z0 (lawB.getD 8 noS)
noncomputable def wlA:Arguments:=(T6 wlE).1
noncomputable def wlB:Expr:=(T6 wlE).2.1
noncomputable def wlS:Scope:=(T6 wlE).2.2.1
noncomputable def wlP:Pos:=(T6 wlE).2.2.2
theorem b4n:wlS.names=[(Str.ofString "text",.local),(Str.ofString "k",.local),(Str.ofString "patterns",.free),(Str.ofString "rows",.free),(Str.ofString "chr",.globalImplicit),(Str.ofString "len",.globalImplicit)]:=by kernel_rfl
theorem b65 {env:Env}{cP cR:Addr}(h1:env.cells.lookup (Str.ofString "patterns")=some cP) (h2:env.cells.lookup (Str.ofString "rows")=some cR):closureFor wlS env=pure [(Str.ofString "rows",cR),(Str.ofString "patterns",cP)]:=by
 have e1:cellOf env (Str.ofString "patterns")=pure cP:=by unfold cellOf;exact rr h1 rfl
 have e2:cellOf env (Str.ofString "rows")=pure cR:=by unfold cellOf;exact rr h2 rfl
 dsimp only[closureFor]
 refine rr b4n ?_
 simp[e1,e2]
theorem wlD {qual:Str} {pm cv ctv:Value} {cl:List (Str×Addr)}:N9 { kla_fn "<lambda>" qual wlA wlB wlS cl pm cv ctv with body:=.stmts [] } [Str.ofString "text",Str.ofString "k"] []:=by
 refine⟨rfl,rfl,rfl,rfl,rfl,rfl,by decide +kernel,?_,?_,?_⟩
 · show ∀ x∈wlS.names,x.2≠.cell
   decide +kernel
 · show ∀ x∈[Str.ofString "text",Str.ofString "k"],wlS.names.lookup x=some .local
   decide +kernel
 · refine(U4 (by decide +kernel) ?_ (by decide +kernel) ?_ ?_)
   · show wlS.names.lookup ("__debug__" : Str)≠some .globalImplicit
     decide +kernel
   · show wlS.names.lookup ("__debug__" : Str)≠some .free
     decide +kernel
   · show wlS.names.lookup ("__classdict__" : Str)≠some .free
     decide +kernel
theorem b5o (qual:Str) (cl:List (Str×Addr)) (pm cv ctv u v:Value):bindArgs (kla_fn "<lambda>" qual wlA wlB wlS cl pm cv ctv) ⟨[u,v],[]⟩=pure [(Str.ofString "text",u),(Str.ofString "k",v)]:=by
 with_unfolding_all rfl
noncomputable def wlF (rows:List Row) (i:Nat):List Nat:=((rows.take i).map fun r=>r.length::K5 r).flatten
noncomputable abbrev wlR (rows:List Row):Loc:=upd (upd (fun _=>none) (Str.ofString "patterns") (.list (rows.map fun r=>.str (K5 r)))) (Str.ofString "rows") (.list (rows.map M3))
theorem b76 {Γ:Spx}{gt:Loc}(g1:gt (Str.ofString "len")=some (.val (.builtin "len"))) (g2:gt (Str.ofString "chr")=some (.val (.builtin "chr"))){rows:List Row}(h2:rows.length<=2) (hr:∀ r∈rows,C9 r){σ:St}{i:Nat}(hi:i<rows.length){K:KV}(hK:K (.str (wlF rows (i+1))) σ) :
 evE (fun _=>false) Γ wlB (upd (upd (wlR rows) (Str.ofString "k") (.int (i:Nat))) (Str.ofString "text") (.str (wlF rows i))) (d7 wlS gt) σ K:=by
 have ln:=c8
 conv=>arg 3;whnf
 conv=>arg 5;arg 1;whnf
 repeat' walk_at "ev"
 have hri:rows[i]? = some rows[i]:=List.getElem?_eq_getElem hi
 have hok:=hr _ (List.getElem_mem hi)
 have hF:wlF rows (i+1)=(wlF rows i++[rows[i].length])++K5 rows[i]:=by
  unfold wlF
  simp only[List.take_succ,hri,List.map_append,List.flatten_append]
  simp only[Option.toList,List.map_cons,List.map_nil,List.flatten_cons,List.flatten_nil,List.append_nil,List.append_assoc,List.singleton_append]
 have hwl:(wlF rows i).length<=100:=by
  have:∀ l:List Row,(∀ r∈l,C9 r)->((l.map fun r=>r.length::K5 r).flatten).length<=13*l.length:=fun l=>by
   induction l with
   | nil=>intro _;exact Nat.le_refl _
   | cons x l ih=>
    intro hx
    have h1:=ih fun r hr=>hx r (.tail _ hr)
    have h2:=a28 x (hx x (.head _)).1
    simp only[List.map_cons,List.flatten_cons,List.length_append,List.length_cons];exact c6 (ad h1 h2) (by simp +arith)
  have h3:=this (rows.take i) fun r hx=>hr r (List.mem_of_mem_take hx)
  unfold wlF
  simp only[List.length_take] at h3;exact Nat.le_trans h3 (Nat.le_trans (Nat.mul_le_mul_left 13 (Nat.le_trans (Nat.min_le_right _ _) h2)) (by decide))
 have hpl:=a28 rows[i] hok.1
 refine y2 (c:=M3 rows[i]) (by exact a9o hi h2) (by (refine rr at_nat ?_;refine rr (List.getElem?_map) ?_;refine rr hri ?_);rfl) ?_
 repeat' walk_at "ev"
 refine a2l ⟨b9g,by have:=hok.1;simp;exact Int.ofNat_le.mpr ((c6 this (by simp +arith)):_<=1114111)⟩ ?_
 repeat' walk_at "ev"
 refine y9 (by simp;exact b4q ln hwl) ?_
 repeat' walk_at "ev"
 refine y2 (c:=.str (K5 rows[i])) (by exact a9o hi h2) (by (refine rr at_nat ?_;refine rr (List.getElem?_map) ?_;refine rr hri ?_);rfl) ?_
 refine y9 (by simp;exact c6 (ad (ad (lq ln.symm) hwl) hpl) (by simp +arith)) ?_
 rw[hF] at hK
 simpa using hK
structure WLam (ω:Own) (aS:Addr) (rows:List Row):Prop where
 fn:∃ qual cl pm cv ctv,ω aS=some (.fz { cls:=.type "function",data:=.func (kla_fn "<lambda>" qual wlA wlB wlS cl pm cv ctv) })/\CodeOk ω cv qual/\FreeOk ω wlS cl (wlR rows)
theorem WLam.monoW {ω ω':Own}{aS:Addr}{rows:List Row}(h:WLam ω aS rows) (x:LeW ω ω'):WLam ω' aS rows:=
 ⟨let ⟨q,cl,pm,cv,ctv,e,c,f⟩:=h.fn;⟨q,cl,pm,cv,ctv,x _ _ e rfl,c.monoF x.f,f.keeps x x.f⟩⟩
section
variable {prog:Program}{w:World}{B0:Heap}{os:OsState}{gs:TQ}{mg mb:Str->Option Value}{n:Nat}{gt:Loc}
theorem b7j (TB:TopB B0 mg mb) (hg:I1 mg mb gt) (g1:gt (Str.ofString "len")=some (.val (.builtin "len"))) (g2:gt (Str.ofString "chr")=some (.val (.builtin "chr"))){rows:List Row}(h2:rows.length<=2) (hr:∀ r∈rows,C9 r){A:Around}{l:List Env}{ω:Own}{s:Shared}{σ:St}{aS:Addr}{i:Nat}{vs:List Value}{KX:KXG}(hX:K3 KX) (hi:i<rows.length)
 (Rm:Room (n+1) A) (Ks:Stk ω A l) (S:MS B0 os ω gs s) (R:RelS ω σ) (L:WLam ω aS rows) (rv:RdL ω [.str (wlF rows i),.int (i:Nat)] vs) :
 wpAny (model prog w) A (call (.ref aS) vs []) (J0 B0 os ω fun h _ σ' gs'=>(h=.str (wlF rows (i+1))/\σ'=σ)/\gs'=gs) (RaisG B0 os ω KX) s:=by
 (refine J4 L.fn fun qual cl pm cv ctv z444=>?_;refine M4 z444 fun hf hcv hfr=>?_)
 (refine d9 (id rv) fun u _ z441 ru q=>?_;subst z441)
 (refine I9 q fun v _ z439 z440=>?_;subst z439;refine o_a z440 fun rw2 q=>?_)
 subst q
 (refine y1 hcv fun cc oc cvs t z437 k1 k2 k3=>?_;clear hcv;subst z437)
 refine a4r (n:=n) (e:=wlB) (ps:=[Str.ofString "text",Str.ofString "k"]) (hs:=[.str (wlF rows i),.int (i:Nat)]) (vs:=[u,v]) (gt:=gt) (ρf:=wlR rows) TB wlD rfl hg hX (fun _ _ _ _ _ _ q=>q) Rm Ks S R rv rfl (BindsTo.of_eq (b5o _ _ _ _ _ _ _)) (S.hold _ _ hf) rfl ⟨cc,oc,cvs,t,rfl,S.hold _ _ k1,k2,k3⟩ hfr ?_
 intro env A' ω₁ s₁ hfr' O Rm' Ks' S₁ R₁ hnew other
 have O:EnvOk mg mb env ω₁ (upd (upd (wlR rows) (Str.ofString "k") (.int (i:Nat))) (Str.ofString "text") (.str (wlF rows i))) (d7 wlS gt):=O
 refine j4 (okE TB (j8 (n:=n)) wlB A' _ ω₁ s₁ σ (fun h σ'=>h=.str (wlF rows (i+1))/\σ'=σ) env _ _ Rm' O S₁ R₁ (b76 g1 g2 h2 hr hi ⟨rfl,rfl⟩)) fun h ω₂ σ₂ v₂ s₂ l₂ S₂ R₂ r₂ e=>?_
 exact⟨_,_,ω₂,_,gs,rfl,l₂.s _,S₂,R₂,r₂,e,rfl⟩
end
end
section
noncomputable def Ws (rows:List Row):List Pz:=rows.flatMap fun r=>Pz.one r.length::r.map (·.1)
theorem a08 {rows:List Row}(hr:∀ r∈rows,C9 r):∀ t∈Ws rows,t.good:=fun t ht=>by
 refine c9 (List.mem_flatMap.mp ht) fun r hrr h=>?_
 rcases List.mem_cons.mp h with rfl | h
 · have:=(hr r hrr).1;exact Nat.lt_of_le_of_lt this (by decide)
 · (refine c9 (List.mem_map.mp h) fun x hx z487=>?_;refine rl z487 ?_)
   exact((hr r hrr).2 x hx).1
theorem a32 {rows:List Row}(h2:rows.length<=2) (hr:∀ r∈rows,C9 r):(Ws rows).length<=6:=by
 have:∀ l:List Row,(∀ r∈l,C9 r)->(Ws l).length<=3*l.length:=fun l=>by
  induction l with
  | nil=>intro _;exact Nat.le_refl _
  | cons x l ih=>
   intro hx
   have h1:=ih fun r hr=>hx r (.tail _ hr)
   unfold Ws at h1 ⊢
   simp only[List.flatMap_cons,List.length_append,List.length_cons,List.length_map];exact c2e h1 ((hx x (.head _)).1)
 have:=this rows hr;exact c6 (ad (ad (ad this h2) h2) h2) (by simp +arith)
theorem b7g {n:Nat}(h:n<=2):(Pz.one n).txt=[n]:=by
 show (if [42,63,91].contains n=true then _ else _)=_
 exact rr (if_neg (by simp;exact⟨Nat.ne_of_lt ((c6 h (by simp +arith)):_<42),⟨Nat.ne_of_lt ((c6 h (by simp +arith)):_<63),Nat.ne_of_lt ((c6 h (by simp +arith)):_<91)⟩⟩)) rfl
theorem K9 {rows:List Row}(hr:∀ r∈rows,C9 r):((Ws rows).map fun t=>(some t:Tk)).flatMap tkT=wlF rows rows.length:=by
 induction rows with
 | nil=>rfl
 | cons r l ih=>
  have h1:=ih fun r hx=>hr r (.tail _ hx)
  unfold Ws at h1 ⊢
  simp only[List.flatMap_cons,List.map_append,List.map_cons,List.flatMap_append,List.flatten_cons]
  refine rr h1 ?_
  show ((Pz.one r.length).txt++_)++_=_
  refine rr (b7g ((hr r (.head _)).1)) ?_
  have:=a2b r
  refine rr List.map_map ?_
  refine rr this ?_;rfl
theorem b56 {rows:List Row}(h2:rows.length<=2) (hr:∀ r∈rows,C9 r):(wlF rows rows.length).length<=36:=by
 refine rl (K9 hr) ?_
 have:∀ l:List Pz,((l.map fun t=>(some t:Tk)).flatMap tkT).length<=6*l.length:=fun l=>by
  induction l with
  | nil=>exact Nat.le_refl _
  | cons t l ih=>
   have:=b0c t
   simp only[List.map_cons,List.flatMap_cons,List.length_append,List.length_cons]
   exact b7v ih this
 exact Nat.le_trans (this (Ws rows)) (Nat.le_trans (Nat.mul_le_mul_left 6 (a32 h2 hr)) (by decide))
section
variable {Γ:Spx}{gt:Loc}(LG:a40 gt Γ){ρ:Loc}{σ:St}{rows:List Row}(h1:1<=rows.length) (h2:rows.length<=2) (hr:∀ r∈rows,C9 r) (e3:ρ (Str.ofString "rows")=some (.list (rows.map M3)))
include LG h1 h2 hr
theorem c18 (e4:ρ (Str.ofString "whole")=some (.str (wlF rows rows.length))) (e5:ρ (Str.ofString "_translate")=none){KF:KS}(hK:KF .nx (upd ρ (Str.ofString "parts") (.list ((Ws rows).map fun t=>.str (pcF t)))) σ) :
 evB (fun _=>false) Γ [lawB.getD 9 noS] ρ (d7 (b0 (stm 27)) gt) σ KF:=by
 refine c9 LG.tr fun a g hΓ=>?_
 conv=>arg 3;arg 1;whnf
 conv=>arg 5;arg 1;whnf
 repeat' walk_at "ev"
 have hl:=b56 h2 hr
 have hwl:=a32 h2 hr
 refine M2 hΓ (I0 ((Ws rows).map some) .none (by (refine rr (K9 hr) ?_;exact rr (show v9 (Str.ofString ".")=[46] from N0) rfl)) (by refine rr (K9 hr) ?_;exact b8x hl) (by simp;exact b99 hwl) (fun t ht=>?_) ⟨fun h=>?_,.inl rfl,?_⟩)
 · refine c9 (List.mem_map.mp ht) fun x hx e=>?_
   injection e with e;refine rl e ?_;exact a08 hr x hx
 · simp at h
 · (refine rr (J6 ..) ?_;refine rr (List.nil_append ..) ?_;refine rr List.map_map ?_)
   repeat' walk_at "ev"
   exact hK
theorem b77 (e4:ρ (Str.ofString "parts")=some (.list ((Ws rows).map fun t=>.str (pcF t)))) :
 evE (fun _=>false) Γ (z0 (lawB.getD 10 noS)) ρ (d7 (b0 (stm 27)) gt) σ fun h σ'=>h=.list (((Ws rows).map Pz.mean).map mnT)/\σ'=σ:=by
 refine c9 LG.mean fun a g hΓ=>?_
 conv=>arg 3;whnf
 conv=>arg 5;arg 1;whnf
 repeat' walk_at "ev"
 refine P8 (fun t=>.str (pcF t)) (fun t:Pz=>mnT t.mean) (Ws rows) [] _ (by simp;exact c49 c8 (a32 h2 hr)) (fun t ht K hK=>?_) ⟨by simp[Function.comp_def],rfl⟩
 repeat' walk_at "ev"
 exact M2 hΓ (j7 _ _ rfl ((P5 t (a08 hr t ht)).2.1) hK)
end
end
section
noncomputable def dueW:List Stmt:=n7 (lawB.getD 12 noS)
section
variable {Γ:Spx}{gt:Loc}(g1:gt (Str.ofString "len")=some (.val (.builtin "len")))
include g1
theorem a7a:∀ (rs done:List Row) (ρ:Loc) (σ:St) (KF:KS),(∀ r∈rs,C9 r)->(Ws done).length+3*rs.length<=30->ρ (Str.ofString "due")=some (.list (((Ws done).map Pz.mean).map mnT))->ρ (Str.ofString "len")=none->
 (∀ ρ',ρ' (Str.ofString "due")=some (.list (((Ws (done++rs)).map Pz.mean).map mnT))->(∀ x,x≠Str.ofString "due" -> x≠Str.ofString "row" -> ρ' x=ρ x)->KF .nx ρ' σ)->
 V4 (fun h ρ σ K=>evB (fun _=>false) Γ dueW (upd ρ (Str.ofString "row") h) (d7 (b0 (stm 27)) gt) σ K) (rs.map M3) ρ σ KF
 | [],done,ρ,σ,KF,hr,hz,e1,e2,hK=>hK ρ (by refine rr (List.append_nil ..) ?_;exact e1) fun _ _ _=>rfl
 | r::rs,done,ρ,σ,KF,hr,hz,e1,e2,hK=>by
  have ln:=c8
  refine o_a (hr r (.head _)) fun hr2 hrp=>?_
  simp only[List.length_cons] at hz
  refine b7b ?_
  refine a3l fun KF' hKF'=>?_
  conv=>arg 3;whnf
  conv=>arg 5;arg 1;whnf
  repeat' walk_at "ev"
  refine rr (List.length_map ..) ?_
  refine a62 (by simp;exact c6 (ad hz (lq ln.symm)) (by simp +arith)) ?_
  repeat' walk_at "ev"
  refine P8 (fun x=>pcH x.1 x.2) (fun x:Pz×Int=>mnT x.1.mean) r [] _ (by simp;exact a68 ln hr2) (fun x hx K hK=>?_) ?_
  · repeat' walk_at "ev"
    exact c0w hK
  refine a62 (by simp;exact c6 (ad (ad hz (lq ln.symm)) hr2) (by simp +arith)) ?_
  repeat' walk_at "ev"
  have hd:((((Ws done).map Pz.mean).map mnT++[HV.tup [HV.int (r.length:Nat),HV.int (r.length:Nat),HV.bool false]])++r.map fun x=>mnT x.1.mean)=((Ws (done++[r])).map Pz.mean).map mnT:=by
   unfold Ws
   simp only[List.flatMap_append,List.flatMap_cons,List.flatMap_nil,List.append_nil,List.map_append,List.map_cons,List.map_map,List.append_assoc]
   rfl
  have hwd:(Ws (done++[r])).length=(Ws done).length+(1+r.length):=by unfold Ws;simp;exact by simp +arith
  refine rr hd ?_
  refine a7a rs (done++[r]) _ σ KF (fun r hx=>hr r (.tail _ hx)) (c6 (ad (ad hz (lq hwd)) hr2) (by simp +arith)) i5 ?_ fun ρ' q1 q2=>?_
  · walk_at "nm"
  · rw[List.append_assoc] at q1
    exact hK ρ' q1 fun x n1 n2=>(q2 x n1 n2).trans (by unfold upd;(refine rr (if_neg n1) ?_;exact rr (if_neg n2) rfl))
end
end
section
theorem a3p {h:HV}(d:J3 8 h=true):eqD h h=true:=SeqAt.eqv_refl _ (a8s 8 h d).1
noncomputable def sgn (l:List Nat):Prop:=∀ c∈l,c<0x110000
theorem Z2 {n:Nat}{l:List Nat}(h:sgn l):J3 n (.str l)=true:=by
 have:PyData.strOk ⟨l.toArray⟩=true:=by
  simp only[PyData.strOk]
  rw[Array.all_eq_true_iff_forall_mem]
  intro c hc
  have:=h c (by simpa using hc)
  simpa using this
 cases n<;>exact this
theorem a5h:∀ c:Fin 256,(pcF (.one c)).all (fun x=>decide (x<256))=true:=by decide +kernel
theorem a1c:(endsL.all fun lo=>endsL.all fun hi=>(pcF (.rg false lo hi)).all (fun x=>decide (x<256))&&(pcF (.rg true lo hi)).all (fun x=>decide (x<256)))=true:=by decide +kernel
theorem b3s (t:Pz) (h:t.good):sgn (pcF t):=by
 have key:(pcF t).all (fun x=>decide (x<256))=true:=by
  induction t using Pz.casesOn with
  | qm=>rfl
  | one c=>exact a5h ⟨c,h⟩
  | rg b lo hi=>
   cases b
   · exact(Bool.and_eq_true_iff.mp (List.all_eq_true.mp (List.all_eq_true.mp a1c lo h.1) hi h.2)).1
   · exact(Bool.and_eq_true_iff.mp (List.all_eq_true.mp (List.all_eq_true.mp a1c lo h.1) hi h.2)).2
 intro c hc
 have:=List.all_eq_true.mp key c hc
 have:c<256:=by simpa using this
 exact Nat.lt_of_lt_of_le this (by decide)
theorem G8 {a b:List Nat}(h:sgn a) (k:sgn b):sgn (a++b):=fun c hc=>(List.mem_append.mp hc).elim (h c) (k c)
noncomputable def brF (rows:List Row):List Nat:=((Ws rows).map pcF).flatten
theorem a6e (a b:List Tk) (acc:List (Option (List Nat))):(a++b).foldl trS acc=b.foldl trS (a.foldl trS acc):=List.foldl_append ..
theorem a4o (l:List (List Nat)) (acc:List (Option (List Nat))) (h:acc.getLast?≠some none\/l≠[]):(acc++l.map some).getLast?≠some none:=by
 refine Or.elim (List.eq_nil_or_concat l) (fun z83=>?_) fun z84=>?_
 · subst z83;simpa using h
 · (refine X9 z84 fun l' x z86=>?_;clear z84;clear h;subst z86);simp
theorem a6k (l:List (List Nat)) (r:List A7):l0 (l.map some++none::r)=l:=by
 induction l with
 | nil=>rfl
 | cons x l ih=>show x::l0 (l.map some++none::r)=_;exact rr ih rfl
theorem a6p (l:List (List Nat)) (r:List A7):n9 (l.map some++none::r)=none::r:=by
 induction l with
 | nil=>rfl
 | cons x l ih=>exact ih
theorem a55 (rows:List Row):((Ws rows).map fun t=>some (pcF t))=((Ws rows).map pcF).map some:=by simp[Function.comp_def]
theorem b8m {rows:List Row}(h:1<=rows.length):((Ws rows).map pcF).map (some:List Nat->A7)≠[]:=by
 induction rows using List.casesOn with
 | nil=>simp at h
 | cons r l=>unfold Ws;simp
theorem jn_1 {rows:List Row}:G9 (((Ws rows).map some).foldl trS [])=([40,63,115,58]++brF rows)++[41,92,90]:=by
 simp only[J6,List.nil_append,a55,a4h];rfl
theorem jn_2 {rows:List Row}:G9 (((Ws rows).map some++[none]).foldl trS [])=([40,63,115,58]++brF rows)++[46,42,41,92,90]:=by
 (refine rr (a6e ..) ?_;refine rr (J6 ..) ?_;refine rr (List.nil_append ..) ?_;refine rr (a55 ..) ?_)
 show G9 (if (((Ws rows).map pcF).map some).getLast? = some none then _ else _++[none])=_
 refine rr (if_neg (by have:=a4o ((Ws rows).map pcF) [] (.inl (by simp));simpa using this)) ?_
 unfold G9
 (refine rr (a6k ..) ?_;refine rr (a6p ..) ?_)
 have:∀ k,jnF (k+1) [none]=[[46,42]]:=fun k=>rfl
 simp only[List.length_append,List.length_singleton,this]
 simp[brF]
theorem jn_3 {rows:List Row}(h:1<=rows.length):G9 ((none::none::(Ws rows).map some).foldl trS [])=(([40,63,115,58]++[46,42])++brF rows)++[41,92,90]:=by
 (refine rr (J6 ..) ?_;refine rr (a55 ..) ?_)
 have hne:=b8m h
 unfold brF
 generalize (Ws rows).map pcF=M at *
 show ([40,63,115,58]++([]++(if M.map (some:List Nat->A7)=[] then [[46,42]] else if n9 (M.map some)=[] then [[46,42],(l0 (M.map some)).flatten] else _)).flatten)++[41,92,90]=_
 (refine rr (if_neg hne) ?_;refine rr (if_pos (a45 _)) ?_;refine rr (a4k ..) ?_)
 simp
theorem jn_4 {rows:List Row}(h:1<=rows.length):G9 ((none::((Ws rows).map some++[none,none])).foldl trS [])=(([40,63,115,58]++[40,63,62,46,42,63])++brF rows)++[41,46,42,41,92,90]:=by
 show G9 (((Ws rows).map some++[none,none]).foldl trS [none])=_
 rw[a6e,J6,a55]
 have hne:=b8m h
 unfold brF
 generalize (Ws rows).map pcF=M at *
 have hM:M≠[]:=fun q=>hne (by rw[q];rfl)
 have e1:trS ([none]++M.map some) none=([none]++M.map some)++[none]:=if_neg (a4o M [none] (.inr hM))
 have e2:trS (([none]++M.map some)++[none]) none=([none]++M.map some)++[none]:=if_pos List.getLast?_concat
 show G9 (trS (trS ([none]++M.map some) none) none)=_
 rw[e1,e2]
 show G9 (none::(M.map some++[none]))=_
 have hr:n9 (M.map some++[none])=[none]:=a6p M []
 have hs:l0 (M.map some++[none])=M:=a6k M []
 unfold G9
 have hl:(none::(M.map (some:List Nat->A7)++[none])).length=(M.length+1)+1:=by simp
 rw[hl]
 show ([40,63,115,58]++([]++(if M.map (some:List Nat->A7)++[none]=[] then [[46,42]] else if n9 (M.map some++[none])=[] then [[46,42],(l0 (M.map some++[none])).flatten] else (([40,63,62,46,42,63]++(l0 (M.map some++[none])).flatten)++[41])::jnF (M.length+1) (n9 (M.map some++[none])))).flatten)++[41,92,90]=_
 (refine rr (if_neg (by simp)) ?_;refine rr hr ?_;refine rr (if_neg (by simp)) ?_;refine rr hs ?_)
 have:jnF (M.length+1) [none]=[[46,42]]:=rfl
 refine rr this ?_
 simp
section
variable {Γ:Spx}{gt:Loc}(LG:a40 gt Γ){ρ:Loc}{σ:St}{rows:List Row}(h1:1<=rows.length) (h2:rows.length<=2) (hr:∀ r∈rows,C9 r)
include LG h1 h2 hr
theorem b5v {KF:KS}(e1:ρ (Str.ofString "rows")=some (.list (rows.map M3))) (e2:ρ (Str.ofString "run")=some (.list (((Ws rows).map Pz.mean).map mnT))) (e3:ρ (Str.ofString "parts")=some (.list ((Ws rows).map fun t=>.str (pcF t)))) (e4:ρ (Str.ofString "whole")=some (.str (wlF rows rows.length)))
 (e5:ρ (Str.ofString "len")=none) (e6:ρ (Str.ofString "translate")=none)
 (hK:∀ ρ',(∀ x,x ∉ [Str.ofString "due",Str.ofString "row",Str.ofString "bare",Str.ofString "texts"]->ρ' x=ρ x)->KF .nx ρ' σ) :
 evB (fun _=>false) Γ ((lawB.drop 11).take 6) ρ (d7 (b0 (stm 27)) gt) σ KF:=by
 have ln:=c8
 refine c9 LG.tx fun a8 g8 h8=>?_
 have g1:=LG.len
 conv=>arg 3;whnf
 conv=>arg 5;arg 1;whnf
 repeat' walk_at "ev"
 conv=>arg 3;whnf
 repeat' walk_at "ev"
 refine a7a g1 rows [] _ σ _ hr (by show 0 + _<=_;exact c6 (ad (ad h2 h2) h2) (by simp +arith)) i5 ?_ fun ρ1 q1 q2=>?_
 · walk_at "nm"
 rw[List.nil_append] at q1
 dsimp only
 conv=>arg 3;whnf
 have o2:ρ1 (Str.ofString "run")=some (.list (((Ws rows).map Pz.mean).map mnT)):=by refine rr (q2 _ (d6 (by decide +kernel)) (d6 (by decide +kernel))) ?_;walk_at "nm"
 have o3:ρ1 (Str.ofString "parts")=some (.list ((Ws rows).map fun t=>.str (pcF t))):=by refine rr (q2 _ (d6 (by decide +kernel)) (d6 (by decide +kernel))) ?_;walk_at "nm"
 have o4:ρ1 (Str.ofString "whole")=some (.str (wlF rows rows.length)):=by refine rr (q2 _ (d6 (by decide +kernel)) (d6 (by decide +kernel))) ?_;walk_at "nm"
 have o6:ρ1 (Str.ofString "translate")=none:=by refine rr (q2 _ (d6 (by decide +kernel)) (d6 (by decide +kernel))) ?_;walk_at "nm"
 repeat' walk_at "ev"
 refine b2j (a1z _) (a1z _) ?_
 refine rr (a3p (a1z _)) ?_
 repeat' walk_at "ev"
 refine k6 (by decide) ?_
 conv=>arg 3;whnf
 repeat' walk_at "ev"
 have hbl:(brF rows).length<=72:=by
  have h3:=V5 (B:=12) ((Ws rows).map pcF) (fun s hs=>by
   (refine c9 (List.mem_map.mp hs) fun t ht z151=>?_;refine rl z151 ?_)
   exact(P5 t (a08 hr t ht)).2.2.1)
  have h4:=a32 h2 hr
  unfold brF
  simp only[List.length_map] at h3;exact Nat.le_trans h3 (Nat.le_trans (Nat.mul_le_mul_left 12 h4) (by decide))
 refine a2u (ys:=((Ws rows).map pcF).map HV.str) (ts:=(Ws rows).map pcF) (by simp[K1,Function.comp_def]) (G3 _) (by (refine rr (o8 ..) ?_;refine rr (a0d ..) ?_);show (brF rows).length<=_;exact c2l ln hbl) ?_
 (refine rr (o8 ..) ?_;refine rr (F8 ..) ?_;refine rr (show ((Ws rows).map pcF).flatten=brF rows from rfl ..) ?_)
 repeat' walk_at "ev"
 conv=>arg 3;whnf
 repeat' walk_at "ev"
 have hwl:=b56 h2 hr
 have hwn:=a32 h2 hr
 have hgd:∀ t,some t∈((Ws rows).map some:List Tk)->t.good:=fun t ht=>by
  refine c9 (List.mem_map.mp ht) fun x hx e=>?_
  injection e with e;refine rl e ?_;exact a08 hr x hx
 have hgd2:∀ t,some t∈((Ws rows).map some++[none]:List Tk)->t.good:=fun t ht=>hgd t (by simpa using ht)
 have hgd3:∀ t,some t∈(none::none::(Ws rows).map some:List Tk)->t.good:=fun t ht=>hgd t (by simpa using ht)
 have hgd4:∀ t,some t∈(none::((Ws rows).map some++[none,none]):List Tk)->t.good:=fun t ht=>hgd t (by simpa using ht)
 refine M2 h8 ⟨(Ws rows).map some,by rw[K9 hr],by refine rr (K9 hr) ?_;exact b8x hwl,by simp;exact b99 hwn,hgd,?_⟩
 refine rr jn_1 ?_
 repeat' walk_at "ev"
 refine rr a39 ?_
 refine y9 (by simp;exact c1q ln hwl) ?_
 repeat' walk_at "ev"
 refine M2 h8 (N6 ((Ws rows).map some++[none]) (by (refine rr List.flatMap_append ?_;refine rr (K9 hr) ?_);rfl) (by (refine rr List.flatMap_append ?_;refine rr (K9 hr) ?_);simp[tkT];exact Nat.le_trans hwl (by decide)) (by simp;exact Nat.le_trans hwn (by decide)) hgd2 ?_)
 refine rr jn_2 ?_
 repeat' walk_at "ev"
 refine rr (show v9 (Str.ofString "**")=[42,42] from by kernel_rfl) ?_
 refine y9 (by simp;exact c6 (ad (lq ln.symm) hwl) (by simp +arith)) ?_
 repeat' walk_at "ev"
 refine M2 h8 (N6 (none::none::(Ws rows).map some) (by (refine rr List.flatMap_cons ?_;refine rr List.flatMap_cons ?_;refine rr (K9 hr) ?_);rfl) (by (refine rr List.flatMap_cons ?_;refine rr List.flatMap_cons ?_;refine rr (K9 hr) ?_);simp[tkT];exact Nat.le_trans hwl (by decide)) (by simp;exact Nat.le_trans hwn (by decide)) hgd3 ?_)
 refine rr (jn_3 h1) ?_
 repeat' walk_at "ev"
 refine rr a39 ?_
 refine y9 (by simp;exact c6 (ad (lq ln.symm) hwl) (by simp +arith)) ?_
 repeat' walk_at "ev"
 refine rr (show v9 (Str.ofString "**")=[42,42] from by kernel_rfl) ?_
 refine y9 (by simp;exact c6 (ad (lq ln.symm) hwl) (by simp +arith)) ?_
 repeat' walk_at "ev"
 refine M2 h8 (N6 (none::((Ws rows).map some++[none,none])) (by (refine rr List.flatMap_cons ?_;refine rr List.flatMap_append ?_;refine rr (K9 hr) ?_);simp[tkT]) (by (refine rr List.flatMap_cons ?_;refine rr List.flatMap_append ?_;refine rr (K9 hr) ?_);simp[tkT];exact Nat.le_trans hwl (by decide)) (by simp;exact Nat.le_trans hwn (by decide)) hgd4 ?_)
 refine rr (jn_4 h1) ?_
 repeat' walk_at "ev"
 conv=>arg 3;whnf
 repeat' walk_at "ev"
 refine rr T5 ?_
 refine y9 (by simp;exact b8i ln hbl) ?_
 repeat' walk_at "ev"
 refine rr a01 ?_
 refine y9 (by simp;exact c6 (ad (lq ln.symm) hbl) (by simp +arith)) ?_
 repeat' walk_at "ev"
 refine rr T5 ?_
 refine y9 (by simp;exact b8i ln hbl) ?_
 repeat' walk_at "ev"
 rw[show v9 (Str.ofString ".*)\\Z")=[46,42,41,92,90] from by kernel_rfl]
 refine y9 (by simp;exact c6 (ad (lq ln.symm) hbl) (by simp +arith)) ?_
 repeat' walk_at "ev"
 refine rr (show v9 (Str.ofString "(?s:.*")=[40,63,115,58]++[46,42] from by kernel_rfl) ?_
 refine y9 (by simp;exact c6 (ad (lq ln.symm) hbl) (by simp +arith)) ?_
 repeat' walk_at "ev"
 refine rr a01 ?_
 refine y9 (by simp;exact c6 (ad (lq ln.symm) hbl) (by simp +arith)) ?_
 repeat' walk_at "ev"
 refine rr (show v9 (Str.ofString "(?s:(?>.*?")=[40,63,115,58]++[40,63,62,46,42,63] from by kernel_rfl) ?_
 refine y9 (by simp;exact c6 (ad (lq ln.symm) hbl) (by simp +arith)) ?_
 repeat' walk_at "ev"
 refine rr (show v9 (Str.ofString ").*)\\Z")=[41,46,42,41,92,90] from by kernel_rfl) ?_
 refine y9 (by simp;exact c6 (ad (lq ln.symm) hbl) (by simp +arith)) ?_
 repeat' walk_at "ev"
 have hbs:sgn (brF rows):=fun c hc=>by
  refine c9 (List.mem_flatten.mp hc) fun l hl hcl=>?_
  (refine c9 (List.mem_map.mp hl) fun t ht z153=>?_;subst z153)
  exact b3s t (a08 hr t ht) c hcl
 have hd:J3 8 (.list [HV.str ([40,63,115,58]++brF rows++[41,92,90]),HV.str ([40,63,115,58]++brF rows++[46,42,41,92,90]),HV.str ([40,63,115,58]++[46,42]++brF rows++[41,92,90]),HV.str ([40,63,115,58]++[40,63,62,46,42,63]++brF rows++[41,46,42,41,92,90])])=true:=by
  have s1:sgn [40,63,115,58]:=by unfold sgn;decide
  have s2:sgn [41,92,90]:=by unfold sgn;decide
  have s3:sgn [46,42,41,92,90]:=by unfold sgn;decide
  have s4:sgn [46,42]:=by unfold sgn;decide
  have s5:sgn [40,63,62,46,42,63]:=by unfold sgn;decide
  have s6:sgn [41,46,42,41,92,90]:=by unfold sgn;decide
  refine List.all_eq_true.mpr fun x hx=>?_
  simp only[List.mem_cons,List.not_mem_nil,or_false] at hx
  rcases hx with rfl | rfl | rfl | rfl
  · exact Z2 (G8 (G8 s1 hbs) s2)
  · exact Z2 (G8 (G8 s1 hbs) s3)
  · exact Z2 (G8 (G8 (G8 s1 s4) hbs) s2)
  · exact Z2 (G8 (G8 (G8 s1 s5) hbs) s6)
 refine b2j hd hd ?_
 refine rr (a3p hd) ?_
 repeat' walk_at "ev"
 refine k6 (by decide) ?_
 repeat' walk_at "ev"
 refine hK _ fun x hx=>?_
 simp only[List.mem_cons,List.not_mem_nil,or_false,not_or] at hx
 refine U0 hx fun n1 n2 n3 n4=>?_
 simp only[upd,if_neg n3,if_neg n4]
 refine rr (q2 x n1 n2) ?_
 exact if_neg n1
end
end
section
noncomputable def mt:List Mn->List Nat->Bool
 | [],_=>true
 | _::_,[]=>false
 | m::ms,c::l=>B7 m c&&mt ms l
noncomputable def X0 (ms:List Mn) (o:List UInt8) (p:Nat):Bool:=decide (ms.length+p<=o.length)&&(List.range ms.length).all fun k=>B7 (ms.getD k (0,0,false)) ((o.getD (p+k) 0).toNat)
theorem a3t:∀ (ms:List Mn) (l:List Nat),(decide (ms.length<=l.length)&&(List.range ms.length).all fun k=>B7 (ms.getD k (0,0,false)) (l.getD k 0))=mt ms l
 | [],l=>by rfl
 | m::ms,[]=>by rfl
 | m::ms,c::l=>by
  simp only[mt]
  simp only[← (a3t ms l),List.length_cons,List.length_cons,List.range_succ_eq_map,List.all_cons,List.all_map]
  simp only[(show decide (ms.length+1<=l.length+1)=decide (ms.length<=l.length) from by simp)]
  show (decide (ms.length<=l.length)&&(B7 m c&&(List.range ms.length).all fun k=>B7 ((m::ms).getD (k+1) (0,0,false)) ((c::l).getD (k+1) 0)))=_
  refine rr (rfl:((List.range ms.length).all fun k=>B7 ((m::ms).getD (k+1) (0,0,false)) ((c::l).getD (k+1) 0))=(List.range ms.length).all fun k=>B7 (ms.getD k (0,0,false)) (l.getD k 0)) ?_
  cases decide (ms.length<=l.length)<;>cases B7 m c<;>rfl
theorem b68 (ms:List Mn) (o:List UInt8) (p:Nat) (hp:p<=o.length):X0 ms o p=mt ms ((o.drop p).map (·.toNat)):=by
 refine rl (a3t ..) ?_
 unfold X0
 refine rr (show decide (ms.length+p<=o.length)=decide (ms.length<=((o.drop p).map (·.toNat)).length) from by
  (refine rr (List.length_map ..) ?_;refine rr List.length_drop ?_);congr 1;rw[eq_iff_iff];exact(Nat.le_sub_iff_add_le hp).symm) ?_
 by_cases h:ms.length<=((o.drop p).map (·.toNat)).length
 · congr 1
   rw[Bool.eq_iff_iff,List.all_eq_true,List.all_eq_true]
   refine forall_congr' fun k=>forall_congr' fun hk=>?_
   have hkl:p+k<o.length:=by simp only[List.length_map,List.length_drop] at h;exact Nat.add_lt_of_lt_sub' (Nat.lt_of_lt_of_le (List.mem_range.mp hk) h)
   (rw[List.getD_eq_getElem?_getD (l:=(o.drop p).map (·.toNat))];refine rr (List.getElem?_map) ?_;refine rr (List.getElem?_drop) ?_;refine rr (List.getElem?_eq_getElem hkl) ?_;refine rr (List.getD_eq_getElem?_getD (l:=o)) ?_;refine rr (List.getElem?_eq_getElem hkl) ?_)
   rfl
 · refine rr (decide_eq_false h) ?_;rfl
theorem a7g (ms:List Mn) (l:List Nat):y8 ms l=(decide (ms.length=l.length)&&mt ms l):=by
 unfold y8
 refine rl (a3t ..) ?_
 by_cases h:ms.length=l.length
 · rw[decide_eq_true h,decide_eq_true (Nat.le_of_eq h),h];rfl
 · rw[decide_eq_false h];rfl
theorem b4c:∀ (a b:List Mn) (l:List Nat),mt (a++b) l=(mt a l&&mt b (l.drop a.length))
 | [],b,l=>by rfl
 | m::a,b,[]=>by rfl
 | m::a,b,c::l=>by
  show (B7 m c&&mt (a++b) l)=(B7 m c&&mt a l&&mt b (l.drop a.length))
  simp only[b4c a b l,Bool.and_assoc]
theorem b3b:∀ (ms:List Mn) (l:List Nat),mt ms l=true->ms.length<=l.length
 | [],l,_=>Nat.zero_le _
 | m::ms,[],h=>by simp[mt] at h
 | m::ms,c::l,h=>Nat.succ_le_succ (b3b ms l (Bool.and_eq_true_iff.mp h).2)
theorem a9f:∀ (ms:List Mn) (l:List Nat),mt ms (l.take ms.length)=mt ms l
 | [],l=>rfl
 | m::ms,[]=>rfl
 | m::ms,c::l=>by
  show (B7 m c&&mt ms (l.take ms.length))=(B7 m c&&mt ms l)
  exact rr (a9f ms l) rfl
noncomputable def tkB:List Row->List Nat->Bool
 | [],_=>true
 | _::_,[]=>false
 | r::rs,b::l=>if b<=l.length then y8 (r.map fun x=>x.1.mean) (l.take b)&&tkB rs (l.drop b) else false
theorem b2z : ∀ (rows : List Row) (l : List Nat), mt ((Ws rows).map Pz.mean) l = tkB rows l
 | [], l => by cases l <;> rfl
 | r :: rs, [] => rfl
 | r :: rs, b :: l => by
  refine rr (show (Ws (r :: rs)).map Pz.mean = (r.length, r.length, false) :: ((r.map fun x => x.1.mean) ++ (Ws rs).map Pz.mean) from by
   unfold Ws
   simp only [List.flatMap_cons, List.map_append, List.map_cons, List.map_map, List.cons_append]
   rfl) ?_
  show (B7 (r.length, r.length, false) b && mt ((r.map fun x => x.1.mean) ++ (Ws rs).map Pz.mean) l) = (if b ≤ l.length then y8 (r.map fun x => x.1.mean) (l.take b) && tkB rs (l.drop b) else false)
  simp only [b4c, b2z rs, List.length_map]
  by_cases hb : b = r.length
  · have h1 : B7 (r.length, r.length, false) b = true := by refine rr hb ?_; simp [B7]
    (refine rr h1 ?_; refine rr (Bool.true_and ..) ?_)
    by_cases hl : b ≤ l.length
    · (refine rr (if_pos hl) ?_; refine rr (a7g ..) ?_; refine rr (List.length_map ..) ?_; refine rr List.length_take ?_; refine rr (Nat.min_eq_left hl) ?_; refine rr (decide_eq_true hb.symm) ?_; rw [Bool.true_and, hb])
      have := a9f (r.map fun x => x.1.mean) l
      rw [List.length_map] at this
      exact rr this rfl
    · refine rr (if_neg hl) ?_
      induction h : mt (r.map fun x => x.1.mean) l with
      | false => rfl
      | true =>
       have := b3b _ _ h
       rw [List.length_map] at this
       lia
  · have h1 : B7 (r.length, r.length, false) b = false := by
     simp only [B7]
     have : ¬ (r.length ≤ b ∧ b ≤ r.length) := (fun h => hb (Nat.le_antisymm h.2 h.1))
     by_cases h : r.length ≤ b
     · have h' : ¬ b ≤ r.length := fun h' => this ⟨h, h'⟩
       simp [h']
     · simp [h]
    (refine rr h1 ?_; refine rr (Bool.false_and ..) ?_)
    by_cases hl : b ≤ l.length
    · (rw [if_pos hl]; refine rr (a7g ..) ?_; refine rr (List.length_map ..) ?_; refine rr List.length_take ?_; refine rr (Nat.min_eq_left hl) ?_; refine rr (decide_eq_false (fun h => hb h.symm)) ?_); rfl
    · rw [if_neg hl]
noncomputable def a8m (rows:List Row):List Nat ⊕ (List (List Nat)×Nat)->Bool
 | .inl _=>false
 | .inr (ts,_)=>(List.range rows.length).all fun k=>y8 ((rows.getD k []).map fun x=>x.1.mean) (ts.getD k [])
theorem a7k {o:List UInt8}:∀ (n p:Nat) (acc ts:List (List Nat)) (q:Nat),p0 o n p acc=.inr (ts,q)->∃ more,ts=acc++more
 | 0,p,acc,ts,q,h=>by injection h with h;injection h with h _;exact⟨[],by refine rl h ?_;simp⟩
 | n+1,p,acc,ts,q,h=>by
  induction e:rdF o p with
  | none=>rw[E2 e] at h;contradiction
  | some x=>
   obtain⟨t,p'⟩:=x
   rw[Q9 e] at h
   (refine o_e (a7k n p' _ _ _ h) fun more z255=>?_;refine rr z255 ?_)
   exact⟨t::more,by simp⟩
noncomputable def takA (acc:Nat) (rows:List Row):List Nat ⊕ (List (List Nat)×Nat)->Bool
 | .inl _=>false
 | .inr (ts,_)=>(List.range rows.length).all fun k=>y8 ((rows.getD k []).map fun x=>x.1.mean) (ts.getD (acc+k) [])
theorem b4y {o:List UInt8}:∀ (rs:List Row) (p:Nat) (acc:List (List Nat)),takA acc.length rs (p0 o rs.length p acc)=tkB rs ((o.drop p).map (·.toNat))
 | [],p,acc=>rfl
 | r::rs,p,acc=>by
  rw[List.length_cons]
  induction e:rdF o p using Option.casesOn with
  | none=>
   refine rr (E2 e) ?_
   show false=_
   unfold rdF at e
   induction hb:o[p]? using Option.casesOn with
   | none=>
    have:o.drop p=[]:=List.drop_of_length_le (by simpa using hb)
    refine rr this ?_;rfl
   | some b=>
    rw[hb] at e
    dsimp only at e
    obtain⟨hlt,hget⟩:=List.getElem?_eq_some_iff.mp hb
    have hn:¬ p+1+b.toNat<=o.length:=fun h=>by rw[if_pos h] at e;exact B5 e
    (refine rr (List.drop_eq_getElem_cons hlt) ?_;refine rr hget ?_;refine rr List.map_cons ?_)
    show false=if b.toNat<=((o.drop (p+1)).map (·.toNat)).length then _ else false
    exact rr (if_neg (by (refine rr (List.length_map ..) ?_;refine rr List.length_drop ?_);exact fun h=>hn (Nat.add_le_of_le_sub' hlt h))) rfl
  | some x=>
   obtain⟨t,p'⟩:=x
   refine rr (Q9 e) ?_
   unfold rdF at e
   induction hb:o[p]? using Option.casesOn with
   | none=>rw[hb] at e;exact c7 e
   | some b=>
    rw[hb] at e
    dsimp only at e
    obtain⟨hlt,hget⟩:=List.getElem?_eq_some_iff.mp hb
    by_cases hf:p+1+b.toNat<=o.length
    · rw[if_pos hf] at e
      injection e with e
      injection e with et ep
      have ih:=b4y (o:=o) rs p' (acc++[t])
      (refine rr (List.drop_eq_getElem_cons hlt) ?_;refine rr hget ?_;refine rr List.map_cons ?_)
      show _=if b.toNat<=((o.drop (p+1)).map (·.toNat)).length then y8 (r.map fun x=>x.1.mean) (((o.drop (p+1)).map (·.toNat)).take b.toNat)&&tkB rs (((o.drop (p+1)).map (·.toNat)).drop b.toNat) else false
      (refine rr (if_pos (by (refine rr (List.length_map ..) ?_;refine rr List.length_drop ?_);exact Nat.le_sub_of_add_le' hf)) ?_;refine rl List.map_take ?_;refine rl List.map_drop ?_;refine rr List.drop_drop ?_;refine rr et ?_;refine rr ep ?_;refine rl ih ?_)
      induction hw:p0 o rs.length p' (acc++[t]) with
      | inl m=>show false=(_&&false);simp
      | inr y=>
       obtain⟨ts,q⟩:=y
       obtain⟨more,rfl⟩:=a7k _ _ _ _ _ hw
       show ((List.range (rs.length+1)).all fun k=>y8 (((r::rs).getD k []).map fun x=>x.1.mean) ((acc++[t]++more).getD (acc.length+k) []))=(y8 (r.map fun x=>x.1.mean) t&&(List.range rs.length).all fun k=>y8 ((rs.getD k []).map fun x=>x.1.mean) ((acc++[t]++more).getD ((acc++[t]).length+k) []))
       simp only[List.range_succ_eq_map,List.all_cons,List.all_map]
       have e1:(acc++[t]++more).getD (acc.length+0) []=t:=by
        (refine rr (List.getD_eq_getElem?_getD) ?_;refine rr (List.append_assoc ..) ?_;refine rr (List.getElem?_append_right (Nat.le_add_right ..)) ?_);simp
       refine rr e1 ?_
       have e2:∀ k,acc.length+(k+1)=(acc++[t]).length+k:=fun k=>by (refine rr List.length_append ?_;refine rr List.length_singleton ?_);exact Nat.le_antisymm (by simp +arith) (by simp +arith)
       show (y8 (r.map fun x=>x.1.mean) t&&(List.range rs.length).all fun k=>y8 (((r::rs).getD (k+1) []).map fun x=>x.1.mean) ((acc++[t]++more).getD (acc.length+(k+1)) []))=_
       congr 1
       rw[Bool.eq_iff_iff,List.all_eq_true,List.all_eq_true]
       refine forall_congr' fun k=>forall_congr' fun _=>?_
       refine rr (e2 ..) ?_;rfl
    · rw[if_neg hf] at e;contradiction
theorem a8l {rows:List Row}{o:List UInt8}{p:Nat}(hp:p<=o.length):X0 ((Ws rows).map Pz.mean) o p=a8m rows (p0 o rows.length p []):=by
 (refine rr (b68 _ _ _ hp) ?_;refine rr (b2z ..) ?_;refine rl (b4y rows p []) ?_)
 induction p0 o rows.length p [] with
 | inl m=>rfl
 | inr y=>
  obtain⟨ts,q⟩:=y
  show ((List.range rows.length).all fun k=>y8 ((rows.getD k []).map fun x=>x.1.mean) (ts.getD (0+k) []))=(List.range rows.length).all fun k=>y8 ((rows.getD k []).map fun x=>x.1.mean) (ts.getD k [])
  simp
end
section
noncomputable def loopS:List Stmt:=n7 (lawB.getD 17 noS)
theorem b9p {o:List UInt8}{p p':Nat}{t:List Nat}(h:rdF o p=some (t,p')):sgn t:=by
 unfold rdF at h
 induction e:o[p]? with
 | none=>exact c7 (e▸h)
 | some b=>
  rw[e] at h
  dsimp only at h
  by_cases hl:p+1+b.toNat<=o.length
  · rw[if_pos hl] at h
    injection h with h
    injection h with h _
    intro c hc
    rw[← h] at hc
    (refine c9 (List.mem_map.mp hc) fun x _ z213=>?_;refine rl z213 ?_)
    have:=x.toNat_lt
    exact Nat.lt_of_lt_of_le this (by decide)
  · rw[if_neg hl] at h;exact c7 h
theorem a3m {o:List UInt8}:∀ (n p:Nat) (acc ts:List (List Nat)) (q:Nat),(∀ t∈acc,sgn t)->p0 o n p acc=.inr (ts,q)->∀ t∈ts,sgn t
 | 0,p,acc,ts,q,ha,h=>by injection h with h;injection h with h _;refine rl h ?_;exact ha
 | n+1,p,acc,ts,q,ha,h=>by
  induction e:rdF o p with
  | none=>rw[E2 e] at h;contradiction
  | some x=>
   obtain⟨t,p'⟩:=x
   rw[Q9 e] at h
   exact a3m n p' _ _ _ (fun u hu=>by rcases List.mem_append.mp hu with k | k;exact ha u k;refine rr (List.mem_singleton.mp k) ?_;exact b9p e) h
theorem c3t {o:List UInt8}{p p':Nat}{t:List Nat}(h:rdF o p=some (t,p')):t.length<=300:=by
 unfold rdF at h
 induction e:o[p]? with
 | none=>exact c7 (e▸h)
 | some b=>
  rw[e] at h
  dsimp only at h
  by_cases hl:p+1+b.toNat<=o.length
  · rw[if_pos hl] at h
    injection h with h
    injection h with h _
    (refine rl h ?_;refine rr (List.length_map ..) ?_;refine rr List.length_take ?_)
    have:=b.toNat_lt
    exact Nat.le_trans (Nat.min_le_left _ _) (Nat.le_trans (Nat.le_of_lt this) (by decide))
  · rw[if_neg hl] at h;exact c7 h
theorem a9c {o:List UInt8}:∀ (n p:Nat) (acc ts:List (List Nat)) (q:Nat),(∀ t∈acc,t.length<=300)->p0 o n p acc=.inr (ts,q)->∀ t∈ts,t.length<=300
 | 0,p,acc,ts,q,ha,h=>by injection h with h;injection h with h _;refine rl h ?_;exact ha
 | n+1,p,acc,ts,q,ha,h=>by
  induction e:rdF o p with
  | none=>rw[E2 e] at h;contradiction
  | some x=>
   obtain⟨t,p'⟩:=x
   rw[Q9 e] at h
   exact a9c n p' _ _ _ (fun u hu=>by rcases List.mem_append.mp hu with k | k;exact ha u k;refine rr (List.mem_singleton.mp k) ?_;exact c3t e) h
theorem a7q {o:List UInt8}:∀ (n p:Nat) (acc ts:List (List Nat)) (q:Nat),p0 o n p acc=.inr (ts,q)->ts.length=acc.length+n
 | 0,p,acc,ts,q,h=>by injection h with h;injection h with h _;refine rl h ?_;rfl
 | n+1,p,acc,ts,q,h=>by
  induction e:rdF o p with
  | none=>rw[E2 e] at h;contradiction
  | some x=>
   obtain⟨t,p'⟩:=x
   rw[Q9 e] at h
   have:=a7q n p' _ _ _ h
   refine rr this ?_;simp;exact Nat.le_antisymm (by simp +arith) (by simp +arith)
section
variable {Γ:Spx}{gt:Loc}(LG:a40 gt Γ){ρ:Loc}{σ:St}{rows:List Row}{o:List UInt8}{p:Nat}(h2:rows.length<=2) (hr:∀ r∈rows,C9 r) (ho:o.length<=200) (hp:p<=o.length)
 (e1:ρ (Str.ofString "rows")=some (.list (rows.map M3))) (e2:ρ (Str.ofString "run")=some (.list (((Ws rows).map Pz.mean).map mnT))) (e3:ρ (Str.ofString "octets")=some (.bytes o)) (e4:ρ (Str.ofString "start")=some (.int (p:Nat))) (e5:ρ (Str.ofString "items")=some (.list (rows.map fun r=>.list ((r.map fun x=>x.1.mean).map mnT)))) (e6:ρ (Str.ofString "told")=some (a0a (p0 o rows.length p [])))
 (n1:ρ (Str.ofString "len")=none) (n2:ρ (Str.ofString "range")=none) (n3:ρ (Str.ofString "isinstance")=none) (n4:ρ (Str.ofString "list")=none) (n5:ρ (Str.ofString "_law_walk")=none)
include LG h2 hr ho hp e1 e2 e3 e4 e5 e6 n1 n2 n3 n4 n5
theorem c1f {KF:KS}(hK:KF .nx ρ σ):evB (fun _=>false) Γ [loopS.getD 1 noS] ρ (d7 (b0 (stm 27)) gt) σ KF:=by
 have ln:=c8
 refine c9 LG.walk fun a g hΓ=>?_
 have g1:=LG.len
 conv=>arg 3;arg 1;whnf
 conv=>arg 5;arg 1;whnf
 repeat' walk_at "ev"
 refine rr (List.length_map ..) ?_
 refine M2 hΓ (W7 o p rows.length rfl (b97 ho) hp (b88 h2) ?_)
 induction hw:p0 o rows.length p [] with
 | inl m=>
  refine b2b ?_
  refine rr (show (m != m)=false from by simp) ?_
  repeat' walk_at "ev"
  exact hK
 | inr y=>
  obtain⟨ts,q⟩:=y
  have hd:J3 8 (.list [.list (ts.map HV.str),.int (q:Nat)])=true:=by
   have:J3 7 (.list (ts.map HV.str))=true:=List.all_eq_true.mpr fun x hx=>by
    (refine c9 (List.mem_map.mp hx) fun t ht z217=>?_;refine rl z217 ?_)
    exact Z2 (a3m _ _ [] _ _ (fun _ h=>by cases h) hw t ht)
   exact List.all_eq_true.mpr fun x hx=>by
    rcases List.mem_cons.mp hx with rfl | hx
    · exact this
    · refine rr (List.mem_singleton.mp hx) ?_;rfl
  refine b2j hd hd ?_
  refine rr (a3p hd) ?_
  repeat' walk_at "ev"
  repeat' walk_at "ev"
  exact hK
theorem b9j {KF:KS}(hK:KF .nx (upd ρ (Str.ofString "fits") (.bool (decide (((Ws rows).map Pz.mean).length+p<=o.length)))) σ):evB (fun _=>false) Γ [loopS.getD 2 noS] ρ (d7 (b0 (stm 27)) gt) σ KF:=by
 have g1:=LG.len
 conv=>arg 3;arg 1;whnf
 conv=>arg 5;arg 1;whnf
 repeat' walk_at "ev"
 refine rr (show decide ((((((Ws rows).map Pz.mean).map mnT).length:Nat):Int)<=(o.length:Int)-(p:Int))=decide (((Ws rows).map Pz.mean).length+p<=o.length) from by
  congr 1;(rw[eq_iff_iff];refine rr (List.length_map ..) ?_);exact⟨fun h=>Int.ofNat_le.mp (Int.add_le_of_le_sub_right h),fun h=>Int.le_sub_right_of_add_le (Int.ofNat_le.mpr h)⟩) ?_
 exact hK
theorem c0a {KF:KS}(e7:ρ (Str.ofString "fits")=some (.bool (decide (((Ws rows).map Pz.mean).length+p<=o.length)))) (hK:KF .nx (upd ρ (Str.ofString "fits") (.bool (X0 ((Ws rows).map Pz.mean) o p))) σ):evB (fun _=>false) Γ [loopS.getD 3 noS] ρ (d7 (b0 (stm 27)) gt) σ KF:=by
 have ln:=c8
 have g1:=LG.len
 have g2:=LG.rng
 refine c9 LG.holds fun a g hΓ=>?_
 conv=>arg 3;arg 1;whnf
 conv=>arg 5;arg 1;whnf
 repeat' walk_at "ev"
 unfold X0 at hK
 by_cases hb:((Ws rows).map Pz.mean).length+p<=o.length
 · rw[decide_eq_true hb] at hK ⊢
   refine o7 rfl ?_
   repeat' walk_at "ev"
   refine rr (List.length_map ..) ?_
   have hL:((Ws rows).map Pz.mean).length<=200:=Nat.le_trans (Nat.le_trans (Nat.le_add_right ..) hb) ho
   refine K7 (Nat.lt_of_le_of_lt hL (by decide)) ?_
   repeat' walk_at "ev"
   refine a2f (P:=fun k=>B7 (((Ws rows).map Pz.mean).getD k (0,0,false)) ((o.getD (p+k) 0).toNat)) (Nat.le_trans hL (by decide)) (fun k hk K hK=>?_) (fun k hk K hK=>?_) ?_
   · obtain⟨m,hm'⟩:∃ m,((Ws rows).map Pz.mean)[k]? = some m:=⟨((Ws rows).map Pz.mean)[k]'hk,List.getElem?_eq_getElem _⟩
     obtain⟨c,hc⟩:∃ c,o[p+k]? = some c:=⟨o[p+k]'(Nat.lt_of_lt_of_le (Nat.add_lt_add_left hk p) (Nat.le_trans (Nat.le_of_eq (Nat.add_comm ..)) hb)),List.getElem?_eq_getElem _⟩
     repeat' walk_at "ev"
     refine y2 (Nat.lt_of_lt_of_le hk (Nat.le_trans hL (by decide))) (show _=some (mnT m) from by (refine rr at_nat ?_;refine rr (List.getElem?_map) ?_;refine rr hm' ?_);rfl) ?_
     repeat' walk_at "ev"
     refine a52 (c:=c) (c2f) (by refine rr (show ((p:Int)+(k:Int)).toNat=p+k from by exact c3f) ?_;exact hc) ?_
     repeat' walk_at "ev"
     refine M2 hΓ (D4 m.1 m.2.1 m.2.2 c.toNat ⟨rfl,?_⟩)
     repeat' walk_at "ev"
     have e:B7 (((Ws rows).map Pz.mean).getD k (0,0,false)) ((o.getD (p+k) 0).toNat)=((decide ((m.1:Int)<=(c.toNat:Int))&&decide ((c.toNat:Int)<=(m.2.1:Int))) != m.2.2):=by
      (refine rr (List.getD_eq_getElem?_getD) ?_;refine rr (List.getD_eq_getElem?_getD) ?_;refine rr hm' ?_;refine rr hc ?_)
      simp[B7]
     rw[e] at hK;exact hK
   · repeat' walk_at "ev"
     exact hK
   · refine U8 rfl (by decide) (by rfl) ?_
     repeat' walk_at "ev"
     refine b2a (a5y _ _) rfl ?_
     refine rr (a54 ..) ?_
     repeat' walk_at "ev"
     exact hK
 · rw[decide_eq_false hb] at hK ⊢
   repeat' walk_at "ev"
   exact hK
theorem c05 {KF:KS}(hK:KF .nx (upd ρ (Str.ofString "taken") (.bool (p0 o rows.length p []).isRight)) σ):evB (fun _=>false) Γ [loopS.getD 4 noS] ρ (d7 (b0 (stm 27)) gt) σ KF:=by
 have g3:=LG.isi
 have g4:=LG.lst
 conv=>arg 3;arg 1;whnf
 conv=>arg 5;arg 1;whnf
 repeat' walk_at "ev"
 induction hw:p0 o rows.length p [] with
 | inl m=>
  rw[hw] at hK
  refine b2l (b:=false) rfl ?_
  repeat' walk_at "ev"
  exact hK
 | inr y=>
  rw[hw] at hK
  refine b2l (b:=true) rfl ?_
  repeat' walk_at "ev"
  exact hK
theorem c0z {KF:KS}(e7:ρ (Str.ofString "taken")=some (.bool (p0 o rows.length p []).isRight)) (hK:KF .nx (upd ρ (Str.ofString "taken") (.bool (a8m rows (p0 o rows.length p [])))) σ):evB (fun _=>false) Γ [loopS.getD 5 noS] ρ (d7 (b0 (stm 27)) gt) σ KF:=by
 have ln:=c8
 have g1:=LG.len
 have g2:=LG.rng
 refine c9 LG.takes fun a g hΓ=>?_
 conv=>arg 3;arg 1;whnf
 conv=>arg 5;arg 1;whnf
 repeat' walk_at "ev"
 induction hw:p0 o rows.length p [] with
 | inl m=>
  rw[hw] at hK
  (refine rr (show (Sum.inl m:List Nat ⊕ (List (List Nat)×Nat)).isRight=false from rfl) ?_;refine k6 (by decide) ?_)
  repeat' walk_at "ev"
  exact hK
 | inr y=>
  obtain⟨ts,q⟩:=y
  rw[hw] at hK e6
  have hts:=a7q _ _ _ _ _ hw
  have hsg:=a3m _ _ [] _ _ (fun _ h=>by contradiction) hw
  (refine rr (show (Sum.inr (ts,q):List Nat ⊕ (List (List Nat)×Nat)).isRight=true from rfl) ?_;refine o7 rfl ?_)
  have e6':ρ (Str.ofString "told")=some (.list [.list (ts.map HV.str),.int (q:Nat)]):=e6
  repeat' walk_at "ev"
  refine rr (List.length_map ..) ?_
  refine K7 (b8b h2) ?_
  repeat' walk_at "ev"
  refine a2f (P:=fun k=>y8 ((rows.getD k []).map fun x=>x.1.mean) (ts.getD k [])) (Nat.le_trans h2 (by decide)) (fun k hk K hK=>?_) (fun k hk K hK=>?_) ?_
  · have hrk:rows[k]? = some rows[k]:=List.getElem?_eq_getElem hk
    have hlt:k<ts.length:=by refine rr hts ?_;simpa using hk
    have htk:ts[k]? = some ts[k]:=List.getElem?_eq_getElem hlt
    repeat' walk_at "ev"
    refine y2 (by exact a9o hk h2) (show _=some (HV.list ((rows[k].map fun x=>x.1.mean).map mnT)) from by (refine rr at_nat ?_;refine rr (List.getElem?_map) ?_;refine rr hrk ?_);rfl) ?_
    repeat' walk_at "ev"
    refine y2 (by decide) (c:=.list (ts.map HV.str)) rfl ?_
    repeat' walk_at "ev"
    refine y2 (by exact a9o hk h2) (show _=some (HV.str ts[k]) from by (refine rr at_nat ?_;refine rr (List.getElem?_map) ?_;refine rr htk ?_);rfl) ?_
    repeat' walk_at "ev"
    have hrl:=(hr rows[k] (List.getElem_mem hk)).1
    refine M2 hΓ (M7 (rows[k].map fun x=>x.1.mean) (ts[k]) rfl ?_ (by simp;exact Nat.le_trans hrl (by decide)) ?_)
    · exact a9c _ _ [] _ _ (fun _ h=>by contradiction) hw _ (List.getElem_mem hlt)
    repeat' walk_at "ev"
    have e:y8 ((rows.getD k []).map fun x=>x.1.mean) (ts.getD k [])=y8 (rows[k].map fun x=>x.1.mean) ts[k]:=by
     (refine rr (List.getD_eq_getElem?_getD) ?_;refine rr (List.getD_eq_getElem?_getD) ?_;refine rr hrk ?_;refine rr htk ?_);rfl
    rw[e] at hK;exact hK
  · repeat' walk_at "ev"
    exact hK
  · refine U8 rfl (by decide) (by rfl) ?_
    repeat' walk_at "ev"
    refine b2a (a5y _ _) rfl ?_
    refine rr (a54 ..) ?_
    repeat' walk_at "ev"
    exact hK
theorem c1j {KF:KS}{b:Bool}(e7:ρ (Str.ofString "fits")=some (.bool b)) (e8:ρ (Str.ofString "taken")=some (.bool b)) (hK:KF .nx ρ σ):evB (fun _=>false) Γ [loopS.getD 6 noS] ρ (d7 (b0 (stm 27)) gt) σ KF:=by
 conv=>arg 3;arg 1;whnf
 conv=>arg 5;arg 1;whnf
 repeat' walk_at "ev"
 refine rr (show (b != b)=false from by clear e7 e8;cases b<;>rfl) ?_
 repeat' walk_at "ev"
 exact hK
end
end
section
noncomputable def Kp (L:Addr) (ω ω':Own):Prop:=(∀ a kk,a≠L->ω a=some (.it kk)->ω' a=some (.it kk))/\LeF ω ω'
theorem Kp.trans {L:Addr}{a b c:Own}(x:Kp L a b) (y:Kp L b c):Kp L a c:=⟨fun z kk n e=>y.1 z kk n (x.1 z kk n e),fun z o e=>y.2 z o (x.2 z o e)⟩
theorem Kp.le {L:Addr}{ω ω':Own}(x:LeS L ω ω'){m:Str->Option Value}(hL:ω L=some (.ns m)):Kp L ω ω':=
 ⟨fun a kk n e=>x a _ n e,x.f hL⟩
section
variable {prog:Program}{w:World}{B0:Heap}{os:OsState}{gs:TQ}{mg mb:Str->Option Value}{mu:Pos->Bool}{Γ:Spx}{n:Nat}{A:Around}{l:List Env}{env:Env}{sc:Scope}{G:GC}{ωb ω:Own}{s:Shared}{ρ:Loc}{σ:St}{E:Value->Shared->Prop}
theorem LX.store' {Q:Unit->Shared->Prop}{x:Str}{h:HV}{v:Value}(L:LX B0 os gs mg mb A l env sc G ωb ω s ρ σ) (hk:sc.names.lookup x=some .cell) (hc:G.c x=true) (hd:x≠("__debug__" : Str)/\x≠("__classdict__" : Str)) (r:Rd ω h v)
 (H:∀ ω' s',LX B0 os gs mg mb A l env sc G ωb ω' s' (upd ρ x h) σ->Kp env.locals ω ω'->Q () s'):wpAny (model prog w) A (storeName env x v) Q E s:=by
 refine y5 (L.O.cl x hc) fun _ c hcc=>?_
 refine c9 L.O.loc fun m hL _=>?_
 refine G6 L.O L.CO L.S L.R (show env.scope.names.lookup x=_ by refine rr L.hsc ?_;exact hk) hcc hd r fun s' v0 h0 f O' CO' S' R'=>H _ _ ⟨O',CO',S',R',L.lb.setNew _ (L.hbc _ _ hcc).1,L.Ks.set_other h0 (fun _ q=>by contradiction) _,L.hsc,L.hbc⟩ ⟨fun a kk _ e=>?_,f⟩
 refine rr (Own.set_ne _ _ (fun q=>by rw[q,h0] at e;exact absurd e nofun)) ?_;exact e
theorem LX.blk' {Q:Flow->Shared->Prop}{N:Loc->St->Prop}{blk rest:List Stmt}(L:LX B0 os gs mg mb A l env sc G ωb ω s ρ σ) (T:TopB B0 mg mb) (X:u6 prog w B0 os gs Γ n) (Rm:Room n A)
 (h:evB mu Γ blk ρ G σ (fun fl ρ' σ'=>fl=.nx/\N ρ' σ')) (H:∀ ω' s' ρ' σ',LX B0 os gs mg mb A l env sc G ωb ω' s' ρ' σ'->Kp env.locals ω ω'->N ρ' σ'->wpAny (model prog w) A (execs rest env) Q E s'):wpAny (model prog w) A (execs (blk++rest) env) Q E s:=by
 refine c9 L.O.loc fun m hL _=>?_
 exact b34 T X Rm blk ω s σ ρ L.O L.S L.R h fun ω' s' ρ' σ' le O' S' R' hN=>H ω' s' ρ' σ' (L.le le O' S' R') (Kp.le le hL) hN
theorem LX.one {Q:Flow->Shared->Prop}{r:Loc}{st:Stmt}{rest:List Stmt}(L:LX B0 os gs mg mb A l env sc G ωb ω s ρ σ) (T:TopB B0 mg mb) (X:u6 prog w B0 os gs Γ n) (Rm:Room n A)
 (h:∀ KF:KS,KF .nx r σ->evB mu Γ [st] ρ G σ KF) (H:∀ ω' s',LX B0 os gs mg mb A l env sc G ωb ω' s' r σ->Kp env.locals ω ω'->wpAny (model prog w) A (execs rest env) Q E s'):wpAny (model prog w) A (execs (st::rest) env) Q E s:=
 L.blk' (blk:=[st]) (N:=fun ρ' σ'=>ρ'=r/\σ'=σ) T X Rm (h _ (A8 rfl rfl rfl)) fun ω' s' ρ' σ' L' kp e=>H ω' s' (e.1▸e.2▸L') kp
theorem LX.ite {Q:Flow->Shared->Prop}{t:Expr}{b o rest:List Stmt}{p:Pos}{N:Bool->St->Prop}(L:LX B0 os gs mg mb A l env sc G ωb ω s ρ σ) (T:TopB B0 mg mb) (X:u6 prog w B0 os gs Γ n) (Rm:Room n A) (h:evT mu Γ t ρ G σ N)
 (H:∀ c ω' s' σ' (Q₁:Flow->Shared->Prop),(∀ s',wpAny (model prog w) A (execs rest env) Q E s'->Q₁ .next s')->LX B0 os gs mg mb A l env sc G ωb ω' s' ρ σ'->N c σ'->wpAny (model prog w) A (execs (if c then b else o) env) Q₁ E s'):wpAny (model prog w) A (execs (.If t b o p::rest) env) Q E s:=by
 refine t6 fun Q₁ n₁=>wpAny_If (P1 (h T X A E ω s env Rm L.O L.S L.R) fun c ω₁ σ1 s₁ l₁ S₁ R₁ hN=>?_)
 have:=H c ω₁ s₁ σ1 Q₁ n₁ (L.le (l₁.s _) (L.O.mono l₁) S₁ R₁) hN
 clear hN;cases c
 · exact this
 · exact this
end
end
section
noncomputable def gN:List Str:=[Str.ofString "len",Str.ofString "range",Str.ofString "isinstance",Str.ofString "list",Str.ofString "_law_walk",Str.ofString "_law_told"]
structure LF (rows:List Row) (o:List UInt8) (ρ:Loc):Prop where
 frows:ρ (Str.ofString "rows")=some (.list (rows.map M3))
 frun:ρ (Str.ofString "run")=some (.list (((Ws rows).map Pz.mean).map mnT))
 foct:ρ (Str.ofString "octets")=some (.bytes o)
 fitems:ρ (Str.ofString "items")=some (.list (rows.map fun r=>.list ((r.map fun x=>x.1.mean).map mnT)))
 fno:∀ x∈gN,ρ x=none
theorem LF.upd {rows:List Row}{o:List UInt8}{ρ:Loc}(F:LF rows o ρ){y:Str}{h:HV}(hy:y=Str.ofString "start" \/ y=Str.ofString "told" \/ y=Str.ofString "fits" \/ y=Str.ofString "taken"):LF rows o (Mine.Internal.upd ρ y h):=by
 have k:∀ x,decide (x ∉ [Str.ofString "start",Str.ofString "told",Str.ofString "fits",Str.ofString "taken"])=true->Mine.Internal.upd ρ y h x=ρ x:=fun x hx=>by
  have hx':x ∉ [Str.ofString "start",Str.ofString "told",Str.ofString "fits",Str.ofString "taken"]:=by simpa using hx
  simp only[List.mem_cons,List.not_mem_nil,or_false,not_or] at hx'
  refine U0 hx' fun a1 a2 a3 a4=>?_
  refine if_neg fun q=>?_
  refine Or.elim hy (fun r=>?_) fun z=>Or.elim z (fun r=>?_) fun z=>Or.elim z (fun r=>?_) fun r=>?_
  · exact a1 (q.trans r)
  · exact a2 (q.trans r)
  · exact a3 (q.trans r)
  · exact a4 (q.trans r)
 refine⟨by refine rr (k _ (by decide +kernel)) ?_;exact F.frows,by refine rr (k _ (by decide +kernel)) ?_;exact F.frun,by refine rr (k _ (by decide +kernel)) ?_;exact F.foct,by refine rr (k _ (by decide +kernel)) ?_;exact F.fitems,fun x hx=>?_⟩
 have hx2:=hx
 simp only[gN,List.mem_cons,List.not_mem_nil,or_false] at hx
 rcases hx with rfl | rfl | rfl | rfl | rfl | rfl<;>(refine rr (k _ (by decide +kernel)) ?_;exact F.fno _ hx2)
section
variable {prog:Program}{w:World}{B0:Heap}{os:OsState}{mg mb:Str->Option Value}{Γ:Spx}{n:Nat}{gt:Loc}
variable (B0 os mg mb gt) in
inductive FI (Γ:Spx) (A:Around) (l:List Env) (env:Env) (ωb:Own) (I:Addr) (rows:List Row) (o:List UInt8) (σ:St) (k k':Nat) (s':Shared):Prop
 | mk:∀ (i:Nat) (ω':Own) (ρ':Loc) (kk:ItK),i+k'=k->LX B0 os Γ.tq mg mb A l env (b0 (stm 27)) (d7 (b0 (stm 27)) gt) ωb ω' s' ρ' σ->ω' I=some (.it kk)->ItRd ω' kk (rgI i k')->LF rows o ρ'->FI Γ A l env ωb I rows o σ k k' s'
theorem b4b (TB : TopB B0 mg mb) (TM : a53 B0 mg) (hg : I1 mg mb gt) {a17 c17 P17 a15 dT a3 miss a26 c26 P26 : Addr} {fd17 fd15 fd26 : FuncData} (TG : a96 B0 gt a17 c17 P17 a15 dT a3 miss fd17 fd15)
 (F26 : FnK B0 a26 (stm 26) fd26 .none) (CB : X7 B0 fd26 c26 P26) (g26 : gt (Str.ofString "_law_told") = some (.val (.ref a26))) (X : u6 prog w B0 os Γ.tq Γ (n + 1 + 1 + 1 + 1 + 1 + 1)) (LG : a40 gt Γ) (h17 : (P17, F0 fd17.qualname) ∈ Γ.tq) (h26 : (P26, T2 fd26.qualname) ∈ Γ.tq)
 {A : Around} {l : List Env} {env : Env} {ωb ω : Own} {s : Shared} {ρ : Loc} {σ : St} {rows : List Row} {o : List UInt8} (h2 : rows.length ≤ 2) (hr : ∀ r ∈ rows, C9 r) (ho : o.length ≤ 200)
 (hbL : ωb env.locals = none) (Rm : Room (n + 1 + 1 + 1 + 1 + 1 + 1) A) (L : LX B0 os Γ.tq mg mb A l env (b0 (stm 27)) (d7 (b0 (stm 27)) gt) ωb ω s ρ σ) (F : LF rows o ρ)
 {Q : Flow -> Shared -> Prop} {E : Value -> Shared -> Prop} (hQ : ∀ v ω' s', LeS env.locals ωb ω' → MS B0 os ω' Γ.tq s' → RelS ω' σ → Rd ω' (.bool true) v → Q (.ret v) s') :
 wpAny (model prog w) A (execs (lawB.drop 17) env) Q E s := by
 have ln := c8
 have g1 := LG.len
 have g2 := LG.rng
 have n1 := F.fno _ (show Str.ofString "len" ∈ gN by simp [gN])
 have n2 := F.fno _ (show Str.ofString "range" ∈ gN by simp [gN])
 have e3 := F.foct
 conv => arg 3; arg 1; whnf
 refine t6 fun Q₁ n₁ => (wpAny_For (a43 (mu := fun _ => false) (Γ := Γ) (x := .rng 0 ((o.length + 1 : Nat) : Int)) (t := σ) TB X Rm L.O L.S L.R ?_ fun ω₁ v s₁ l₁ S₁ R₁ r₁ => ?_) (E7 rfl))
 · intro K hK
   repeat' walk_at "ev"
   exact K7 (c5f ho) hK
 refine a6f S₁ r₁ fun I s₂ hI S₂ => ?_
 have hnL : I ≠ env.locals := fun q => by
  refine c9 ((L.O.mono l₁).loc) fun m h1 _ => ?_
  rw [← q, hI] at h1; exact c7 h1
 have L₂ := L.le ((l₁.trans (Le.new (.it (.range 0 ((((o.length + 1 : Nat) : Int) - 0).toNat : Int))) hI)).s _) ((L.O.mono l₁).mono (Le.new _ hI)) S₂ (R₁.new hI)
 have hbI : ωb I = none := (L.lb.trans (l₁.s _)).none_of hbL hI
 refine u9 F26.at'.at' fun o26 ho26 hd26 hcd26 => ?_
 refine codeAny_forLoop (FI B0 os mg mb gt Γ A l env ωb I rows o σ (o.length + 1)) ?_ (o.length + 1) ⟨0, _, ρ, _, Nat.zero_add _, L₂, Own.set_self .., ?_, F⟩
 · intro k' s' hInv
   obtain ⟨i, ω', ρ', kk, hik, L', e1, e2, F'⟩ := hInv
   refine a1u Rm.handled L'.S e1 e2 (fun hnil s'' S'' => ?_) (fun y rest hcons u k₂ s'' rv rk S'' => ?_)
   · refine wpAny_execs_nil (n₁ _ ?_)
     conv => arg 3; arg 1; whnf
     refine wpAny_execs_cons (wpAny_Return_some (wpAny_Constant_bool ?_))
     exact hQ _ _ _ (L'.lb.delNew hbI) S'' (L'.R.del e1 (fun _ q => nomatch q) (fun _ q => nomatch q)) (by simp only [Rd])
   · obtain ⟨m, rfl⟩ : ∃ m, k' = m + 1 := by
      induction k' using Nat.casesOn with
      | zero => rw [b89] at hcons; contradiction
      | succ m => exact ⟨m, rfl⟩
     rw [b3r] at hcons
     injection hcons with h1 h2'
     subst h1 h2'
     have w3 : LeW ω' (ω'.set I (.it k₂)) := LeW.set (.it k₂) e1 rfl
     have f₃ : LeF ω' (ω'.set I (.it k₂)) := LeF.set _ e1 (fun _ q => nomatch q)
     have L₃ : LX B0 os Γ.tq mg mb A l env (b0 (stm 27)) (d7 (b0 (stm 27)) gt) ωb (ω'.set I (.it k₂)) s'' ρ' σ :=
      ⟨L'.O.monoW w3, L'.CO.monoW w3, S'', L'.R.set _ e1 (fun _ q => nomatch q) (fun _ q => nomatch q), L'.lb.setNew _ hbI, L'.Ks.mono w3, L'.hsc, L'.hbc⟩
     have i₃ : (ω'.set I (.it k₂)) I = some (.it k₂) := Own.set_self ..
     have rk3 := rk.monoF f₃
     refine wpAny_assign_Name (L₃.store' (h := .int (i : Nat)) (by decide +kernel) (by kernel_rfl) ⟨d6 (by decide +kernel), d6 (by decide +kernel)⟩ (rv.monoF f₃) fun ω₄ s₄ L4 kp4 => ?_)
     have i₄ := kp4.1 _ _ hnL i₃
     have rk4 := rk3.monoF kp4.2
     have F4 := F'.upd (h := .int (i : Nat)) (.inl rfl)
     have st4 : (Mine.Internal.upd ρ' (Str.ofString "start") (.int (i : Nat))) (Str.ofString "start") = some (.int (i : Nat)) := i5
     revert L4 F4 st4
     generalize Mine.Internal.upd ρ' (Str.ofString "start") (.int (i : Nat)) = ρ4
     intro L4 F4 st4
     have m1 := F4.fno _ (show Str.ofString "len" ∈ gN by simp [gN])
     have m3 := F4.foct
     have m4 := F4.frows
     refine b1v fun Q2 q₂ => ?_
     show wpAny _ _ (execs (loopS.getD 0 noS :: loopS.drop 1) env) _ _ _
     conv => arg 3; arg 1; arg 1; whnf
     refine t6 fun Q₃ n₃ => (wpAny_Assign_Name ?_ (k9 rfl))
     refine T3 (mu := fun _ => false) (Γ := Γ) (n := n + 1 + 1 + 1 + 1 + 1 + 1) (xs := [.bytes o, .int (i : Nat), .int (rows.length : Nat)]) (t := σ) (o := o26) (fd := fd26) TB Rm L4.O L4.S L4.R (fa := a26) ?_ rfl (u7 (okE TB X _) (u7 (okE TB X _) (u7 (okE TB X _) C3))) ?_ ?_
     · walk_at "nm"
     · intro K hK
       repeat' walk_at "ev"
       refine rr (List.length_map ..) ?_
       exact hK
     intro ω₅ vs s₅ l₅ S₅ R₅ r₅
     simp only [RdL, Rd] at r₅
     (refine d9 r₅ fun v₁ _ z50 rb z51 => ?_; clear r₅; refine rr z50 ?_; refine d9 z51 fun _ _ z52 z53 z54 => ?_; refine rr z52 ?_; (refine o_e z53 fun t0 z5 => ?_; refine rr z5 ?_); refine d9 z54 fun _ _ z55 z56 z57 => ?_; refine rr z55 ?_; obtain ⟨t1, rfl⟩ := z56; refine rr z57 ?_)
     have hi : i ≤ o.length := (c6 (lq hik) (by simp +arith))
     refine ⟨⟨S₅.top ho26 hd26, hcd26⟩, wpAny_mono (b5b (n := n) TB TM hg TG F26 CB Rm (L4.Ks.mono l₅.w) S₅ R₅ (S₅.tq _ h17) (S₅.tq _ h26) (octets := o) (b97 ho) (by simp only [Rd]; exact rb) hi (b88 h2)) (fun v6 s₆ q => ?_) fun e s₆ q => ?_⟩
     · obtain ⟨hx, ω6, σ6, gs6, l₆, S6, R6, r₆, rfl, rfl, hgs⟩ := q
       subst hgs
       have L6 := L4.le ((l₅.trans l₆).s _) (L4.O.mono (l₅.trans l₆)) S6 R6
       have i₆ := (l₅.trans l₆) _ _ i₄
       have rk6 := rk4.monoF (l₅.trans l₆).f
       refine L6.store' (h := a0a (p0 o rows.length i [])) (by decide +kernel) (by kernel_rfl) ⟨d6 (by decide +kernel), d6 (by decide +kernel)⟩ r₆ fun ω7 s7 L7 kp7 => ?_
       have i7 := kp7.1 _ _ hnL i₆
       have rk7 := rk6.monoF kp7.2
       have F7 := F4.upd (h := a0a (p0 o rows.length i [])) (.inr (.inl rfl))
       have st7 : (Mine.Internal.upd ρ4 (Str.ofString "told") (a0a (p0 o rows.length i []))) (Str.ofString "start") = some (.int (i : Nat)) := i8 (d6 (by decide +kernel)) st4
       have to7 : (Mine.Internal.upd ρ4 (Str.ofString "told") (a0a (p0 o rows.length i []))) (Str.ofString "told") = some (a0a (p0 o rows.length i [])) := i5
       revert L7 F7 st7 to7
       generalize Mine.Internal.upd ρ4 (Str.ofString "told") (a0a (p0 o rows.length i [])) = ρ7
       intro L7 F7 st7 to7
       refine n₃ _ ?_
       have nm : ∀ {ρ : Loc}, LF rows o ρ → ρ (Str.ofString "len") = none ∧ ρ (Str.ofString "range") = none ∧ ρ (Str.ofString "isinstance") = none ∧ ρ (Str.ofString "list") = none ∧ ρ (Str.ofString "_law_walk") = none := fun F => (U4 (F.fno _ (by simp [gN])) (F.fno _ (by simp [gN])) (F.fno _ (by simp [gN])) (F.fno _ (by simp [gN])) (F.fno _ (by simp [gN])))
       show wpAny _ _ (execs (loopS.getD 1 noS :: loopS.getD 2 noS :: loopS.getD 3 noS :: loopS.getD 4 noS :: loopS.getD 5 noS :: [loopS.getD 6 noS]) env) _ _ _
       refine Q8 (nm F7) fun a1 a2 a3 a4 a5 => ?_
       refine L7.one (mu := fun _ => false) (r := ρ7) TB X Rm (fun KF hK => c1f LG h2 hr ho hi F7.frows F7.frun F7.foct st7 F7.fitems to7 a1 a2 a3 a4 a5 hK) fun ω8 s8 L8 kp8 => ?_
       refine L8.one (mu := fun _ => false) TB X Rm (fun KF hK => b9j LG h2 hr ho hi F7.frows F7.frun F7.foct st7 F7.fitems to7 a1 a2 a3 a4 a5 hK) fun ω9 s9 L9 kp9 => ?_
       have F9 := F7.upd (y := Str.ofString "fits") (h := .bool (decide (((Ws rows).map Pz.mean).length + i ≤ o.length))) (.inr (.inr (.inl rfl)))
       have st9 := i8 (h := .bool (decide (((Ws rows).map Pz.mean).length + i ≤ o.length))) (d6 (a := "start") (b := "fits") (by decide +kernel)) st7
       have to9 := i8 (h := .bool (decide (((Ws rows).map Pz.mean).length + i ≤ o.length))) (d6 (a := "told") (b := "fits") (by decide +kernel)) to7
       refine Q8 (nm F9) fun b1 b2 b3 b4 b5 => ?_
       refine L9.one (mu := fun _ => false) TB X Rm (fun KF hK => c0a LG h2 hr ho hi F9.frows F9.frun F9.foct st9 F9.fitems to9 b1 b2 b3 b4 b5 i5 hK) fun ωa sa La kpa => ?_
       have Fa := F9.upd (y := Str.ofString "fits") (h := .bool (X0 ((Ws rows).map Pz.mean) o i)) (.inr (.inr (.inl rfl)))
       have sta := i8 (h := .bool (X0 ((Ws rows).map Pz.mean) o i)) (d6 (a := "start") (b := "fits") (by decide +kernel)) st9
       have toa := i8 (h := .bool (X0 ((Ws rows).map Pz.mean) o i)) (d6 (a := "told") (b := "fits") (by decide +kernel)) to9
       have fia := i5 (ρ := Mine.Internal.upd ρ7 (Str.ofString "fits") (.bool (decide (((Ws rows).map Pz.mean).length + i ≤ o.length)))) (x := Str.ofString "fits") (h := .bool (X0 ((Ws rows).map Pz.mean) o i))
       revert La Fa sta toa fia
       generalize Mine.Internal.upd (Mine.Internal.upd ρ7 (Str.ofString "fits") (.bool (decide (((Ws rows).map Pz.mean).length + i ≤ o.length)))) (Str.ofString "fits") (.bool (X0 ((Ws rows).map Pz.mean) o i)) = ρa
       intro La Fa sta toa fia
       refine Q8 (nm Fa) fun c1 c2 c3 c4 c5 => ?_
       refine La.one (mu := fun _ => false) TB X Rm (fun KF hK => c05 LG h2 hr ho hi Fa.frows Fa.frun Fa.foct sta Fa.fitems toa c1 c2 c3 c4 c5 hK) fun ωc sc Lc kpc => ?_
       have Fc := Fa.upd (y := Str.ofString "taken") (h := .bool (p0 o rows.length i []).isRight) (.inr (.inr (.inr rfl)))
       have stc := i8 (h := .bool (p0 o rows.length i []).isRight) (d6 (a := "start") (b := "taken") (by decide +kernel)) sta
       have toc := i8 (h := .bool (p0 o rows.length i []).isRight) (d6 (a := "told") (b := "taken") (by decide +kernel)) toa
       have fic := i8 (h := .bool (p0 o rows.length i []).isRight) (d6 (a := "fits") (b := "taken") (by decide +kernel)) fia
       refine Q8 (nm Fc) fun d1 d2 d3 d4 d5 => ?_
       refine Lc.one (mu := fun _ => false) TB X Rm (fun KF hK => c0z LG h2 hr ho hi Fc.frows Fc.frun Fc.foct stc Fc.fitems toc d1 d2 d3 d4 d5 i5 hK) fun ωd sd Ld kpd => ?_
       have Fd := Fc.upd (y := Str.ofString "taken") (h := .bool (a8m rows (p0 o rows.length i []))) (.inr (.inr (.inr rfl)))
       have std := i8 (h := .bool (a8m rows (p0 o rows.length i []))) (d6 (a := "start") (b := "taken") (by decide +kernel)) stc
       have tod := i8 (h := .bool (a8m rows (p0 o rows.length i []))) (d6 (a := "told") (b := "taken") (by decide +kernel)) toc
       have fid := i8 (h := .bool (a8m rows (p0 o rows.length i []))) (d6 (a := "fits") (b := "taken") (by decide +kernel)) fic
       refine Q8 (nm Fd) fun f1 f2 f3 f4 f5 => ?_
       refine Ld.one (mu := fun _ => false) TB X Rm (fun KF hK => c1j LG h2 hr ho hi Fd.frows Fd.frun Fd.foct std Fd.fitems tod f1 f2 f3 f4 f5 (b := a8m rows (p0 o rows.length i [])) (by (refine rr fid ?_; rw [a8l hi])) i5 hK) fun ωe se Le' kpe => ?_
       refine wpAny_execs_nil (q₂ _ _ ?_)
       have kp := (((((kp8.trans kp9).trans kpa).trans kpc).trans kpd).trans kpe)
       exact (j1 m (Nat.lt_succ_self _) ⟨i + 1, ωe, _, k₂, (Nat.le_antisymm (c6 (lq hik) (by simp +arith)) (c6 (lq hik.symm) (by simp +arith))), Le', kp.1 _ _ hnL i7, rk7.monoF kp.2, Fd⟩)
     · obtain ⟨_, _, _, _, _, _, _, _, _, _, _, _, _, q⟩ := q
       exact q.elim
 · show rgI 0 (o.length + 1) = (List.range (((((((o.length + 1 : Nat) : Int)) - 0).toNat : Nat) : Int)).toNat).map fun (j : Nat) => HV.int (0 + (j : Int))
   unfold rgI
   simp
end
end
section
noncomputable def a70 (q:Str):List (Pos×Str):=[(wlP,(q++".<locals>.")++"<lambda>")]
theorem b0z (q:Str):G2 (a70 q):=by
 intro a ha b hb _ _
 rw[a70,List.mem_singleton] at ha hb
 (refine rr ha ?_;exact rr hb rfl)
noncomputable def gM:List Str:=[Str.ofString "_law_octets",Str.ofString "reduce",Str.ofString "_translate",Str.ofString "translate"]++gN
section
variable {prog:Program}{w:World}{B0:Heap}{os:OsState}{mg mb:Str->Option Value}{Γ:Spx}{n:Nat}{gt:Loc}
theorem b5i (TB:TopB B0 mg mb) (TM:a53 B0 mg) (hg:I1 mg mb gt){a17 c17 P17 a15 dT a3 miss a26 c26 P26 c27 P27:Addr}{fd17 fd15 fd26 fd27:FuncData}(TG:a96 B0 gt a17 c17 P17 a15 dT a3 miss fd17 fd15)
 (F26:FnK B0 a26 (stm 26) fd26 .none) (CB:X7 B0 fd26 c26 P26) (g26:gt (Str.ofString "_law_told")=some (.val (.ref a26))) (X:u6 prog w B0 os Γ.tq Γ (n+1+1+1+1+1+1)) (LG:a40 gt Γ) (h17:(P17,F0 fd17.qualname)∈Γ.tq) (h26:(P26,T2 fd26.qualname)∈Γ.tq)
 (C27:X7 B0 fd27 c27 P27) (h27:(P27,a70 fd27.qualname)∈Γ.tq)
 {A:Around}{l:List Env}{env:Env}{ωb ω:Own}{s:Shared}{ρ:Loc}{σ:St}{rows:List Row}{ns:List Int}(h1:1<=rows.length) (h2:rows.length<=2) (hr:∀ r∈rows,C9 r) (hn:8<=ns.length) (hn2:ns.length<=14) (hnr:∀ x∈ns,0<=x/\x<10 ^ 9)
 (hcode:env.code=fd27.code) (hqual:env.qual=fd27.qualname++".<locals>.")
 (hbL:ωb env.locals=none) (Rm:Room (n+1+1+1+1+1+1) A) (L:LX B0 os Γ.tq mg mb A l env (b0 (stm 27)) (d7 (b0 (stm 27)) gt) ωb ω s ρ σ)
 (e1:ρ (Str.ofString "numbers")=some (.list (ns.map HV.int))) (e3:ρ (Str.ofString "rows")=some (.list (rows.map M3))) (hno:∀ x∈gM,ρ x=none)
 {Q:Flow->Shared->Prop}{E:Value->Shared->Prop}(hQ:∀ v ω' s',LeS env.locals ωb ω'->MS B0 os ω' Γ.tq s'->RelS ω' σ->Rd ω' (.bool true) v->Q (.ret v) s') :
 wpAny (model prog w) A (execs (lawB.drop 5) env) Q E s:=by
 have ln:=c8
 have g1:=LG.len
 have g2:=LG.rng
 have kP:env.kindOf (Str.ofString "patterns")=some .cell:=by show env.scope.names.lookup _=_;refine rr L.hsc ?_;decide +kernel
 have kI:env.kindOf (Str.ofString "items")=some .cell:=by show env.scope.names.lookup _=_;refine rr L.hsc ?_;decide +kernel
 have kR:env.kindOf (Str.ofString "run")=some .cell:=by show env.scope.names.lookup _=_;refine rr L.hsc ?_;decide +kernel
 have kW:env.kindOf (Str.ofString "rows")=some .cell:=by show env.scope.names.lookup _=_;refine rr L.hsc ?_;decide +kernel
 have d0:∀ a:String,(a=="__debug__")=false->(a=="__classdict__")=false->Str.ofString a≠("__debug__" : Str)/\Str.ofString a≠("__classdict__" : Str):=fun a q1 q2=>⟨d6 q1,d6 q2⟩
 have hno':∀ (a:String),decide (Str.ofString a∈gM)=true->ρ (Str.ofString a)=none:=fun a h=>hno _ (by simpa using h)
 have o1:=hno' "_law_octets" (by decide +kernel)
 have o2:=hno' "reduce" (by decide +kernel)
 have o3:=hno' "_translate" (by decide +kernel)
 have o4:=hno' "translate" (by decide +kernel)
 have o5:=hno' "len" (by decide +kernel)
 have o6:=hno' "range" (by decide +kernel)
 show wpAny _ _ (execs (lawB.getD 5 noS::lawB.drop 6) env) _ _ _
 conv=>arg 3;arg 1;arg 1;whnf
 refine L.cell (mu:=fun _=>false) TB X Rm (by decide +kernel) (by kernel_rfl) (d0 _ (by decide) (by decide)) (k9 rfl) (c0c LG h1 h2 hr e3 hn hn2 hnr e1 o1) fun ω₁ s₁ h σ1 L1 hh=>?_
 (refine o_a hh fun z15 z16=>?_;clear hh;(refine c9 z15 fun o z136 ho=>?_;subst z136);subst z16)
 show wpAny _ _ (execs (lawB.getD 6 noS::lawB.drop 7) env) _ _ _
 conv=>arg 3;arg 1;arg 1;whnf
 refine L1.cell (mu:=fun _=>false) TB X Rm (by decide +kernel) (by kernel_rfl) (d0 _ (by decide) (by decide)) (Y0 kP) (b9r LG h1 h2 hr (i8 (d6 (by decide +kernel)) e3)) fun ω₂ s₂ h σ₂ L₂ hh=>?_
 (refine o_a hh fun z23 z24=>?_;clear hh;subst z23;subst z24)
 show wpAny _ _ (execs (lawB.getD 7 noS::lawB.drop 8) env) _ _ _
 conv=>arg 3;arg 1;arg 1;whnf
 refine L₂.cell (mu:=fun _=>false) TB X Rm (by decide +kernel) (by kernel_rfl) (d0 _ (by decide) (by decide)) (Y0 kI) (c00 LG h1 h2 hr (by walk_at "nm") (by walk_at "nm") (by walk_at "nm")) fun ω₃ s₃ h σ₃ L₃ hh=>?_
 (refine o_a hh fun z29 z30=>?_;subst z29;subst z30)
 show wpAny _ _ (execs (lawB.getD 8 noS::lawB.drop 9) env) _ _ _
 conv=>arg 3;arg 1;arg 1;whnf
 obtain⟨G17,GC17,Gt17,G15,GdT,Gt15,GR,GF,Gt3,Gtr,Gts⟩:=id TG
 refine u9 G15.at'.at' fun o15 ho15 hd15 hcd15=>?_
 refine d9 GdT fun od nn hdT hdc hdd=>?_
 refine o_e C27.tab fun cps hcps=>?_
 have hJ:=L₃.S.tq _ h27
 have e33:(Mine.Internal.upd (Mine.Internal.upd (Mine.Internal.upd ρ (Str.ofString "octets") (.bytes o)) (Str.ofString "patterns") (.list (rows.map fun r=>.str (K5 r)))) (Str.ofString "items") (.list (rows.map fun r=>.list ((r.map fun x=>x.1.mean).map mnT)))) (Str.ofString "rows")=some (.list (rows.map M3)):=by walk_at "nm"
 have e43:(Mine.Internal.upd (Mine.Internal.upd (Mine.Internal.upd ρ (Str.ofString "octets") (.bytes o)) (Str.ofString "patterns") (.list (rows.map fun r=>.str (K5 r)))) (Str.ofString "items") (.list (rows.map fun r=>.list ((r.map fun x=>x.1.mean).map mnT)))) (Str.ofString "patterns")=some (.list (rows.map fun r=>.str (K5 r))):=by walk_at "nm"
 refine d9 (L₃.O.cel _ _ e33 (.inl kW)) fun cR vR hcR hvR hrR=>?_
 refine d9 (L₃.O.cel _ _ e43 (.inl kP)) fun cP vP hcP hvP hrP=>?_
 refine t6 fun Q₁ n₁=>wpAny_Assign_Name (wpAny_Call_ofName (B8 (h:=.val (.ref a15)) TB L₃.O L₃.S (by walk_at "nm") fun u hu=>?_)) (k9 rfl)
 cases hu
 refine rr (j2 _ _ env rfl) ?_
 refine callWith_function (o:=o15) (fd:=fd15) (p7 (d8 _ env) (spliced_cons (kla_eval rfl ?_)))
 refine a59 TB TM L₃.S C27.hd hcps C27.ne (b0z fd27.qualname) (by refine rr hqual ?_;exact .head _) hJ (b65 hcP hcR) L₃.O.glob (hcode.trans C27.code) fun f ctv pm cv ω₅ s₅ N hcv=>?_
 (refine K8 (a91 N hJ L₃.R) fun ω6 l₆ S6 R6 z37=>?_;refine o_a z37 fun hf f₆=>?_)
 refine spliced_cons (a43 (mu:=fun _=>false) (Γ:=Γ) (x:=.rng 0 (rows.length:Nat)) (t:=σ₃) TB X Rm (L₃.O.mono l₆) S6 R6 ?_ fun ω7 v7 s7 l7 S7 R7 r₇=>?_)
 · intro K hK
   repeat' walk_at "ev"
   refine rr (List.length_map ..) ?_
   exact K7 (b8b h2) hK
 refine spliced_cons (a43 (mu:=fun _=>false) (Γ:=Γ) (x:=.str []) (t:=σ₃) TB X Rm (L₃.O.mono (l₆.trans l7)) S7 R7 ?_ fun ω8 v8 s8 l8 S8 R8 r₈=>?_)
 · intro K hK
   repeat' walk_at "ev"
   refine rr o8 ?_
   exact hK
 refine spliced_nil ⟨⟨S8.top ho15 hd15,hcd15⟩,?_⟩
 have l38:=(l₆.trans l7).trans l8
 have hf8:=(l7.trans l8).f _ _ hf
 have W8:WLam ω8 f rows:=⟨_,_,pm,cv,ctv,hf8,(hcv.monoF f₆).monoF (l7.trans l8).f,fun x h e=>by
  unfold wlR Mine.Internal.upd at e
  by_cases hx:x=Str.ofString "rows"
  · rw[if_pos hx] at e
    (replace e:=Option.some.inj e;subst e)
    refine(u5 (by refine rr hx ?_;show wlS.names.lookup _=_;decide +kernel) cR vR ?_ ⟨l38 _ _ hvR,hrR.mono l38⟩)
    refine rr hx ?_;simp
  · rw[if_neg hx] at e
    by_cases hx2:x=Str.ofString "patterns"
    · rw[if_pos hx2] at e
      (replace e:=Option.some.inj e;subst e)
      refine(u5 (by refine rr hx2 ?_;show wlS.names.lookup _=_;decide +kernel) cP vP ?_ ⟨l38 _ _ hvP,hrP.mono l38⟩)
      refine rr hx2 ?_
      show List.lookup (Str.ofString "patterns") [(Str.ofString "rows",cR),(Str.ofString "patterns",cP)]=some cP
      (refine rr List.lookup_cons ?_;refine rr (beq_eq_false_iff_ne.mpr (d6 (a:="patterns") (b:="rows") (by decide +kernel))) ?_)
      simp
    · rw[if_neg hx2] at e;exact c7 e⟩
 have Ks8:=L₃.Ks.mono l38.w
 refine wpAny_mono (a2e (n:=n+1+1+1+1+1) (gt:=gt) TB hg GR G15 hdT hdc hdd (fs:=_) (KX:=fun _ _ _ _ _=>False) (J:=fun i hv σ'=>hv=.str (wlF rows i)/\σ'=σ₃) (fun _ _ _ _ _ _ _ q=>q) Rm Ks8 S8 R8 hf8 rfl (r₇.mono l8) r₈ (.inr ⟨[],rfl⟩) ⟨rfl,rfl⟩ ?_) (fun v s' q=>?_) (fun e s' q=>?_)
 · intro A l' ω' s σ' i hv vs hi Rm Ks lw S R hJ' rv
   (refine o_a hJ' fun z40 z41=>?_;clear hJ';subst z40;refine rl z41 ?_)
   exact b7j (n:=n+1+1+1+1) TB hg g1 LG.chr h2 hr (fun _ _ _ _ _ _ _ q=>q) hi Rm Ks S R (W8.monoW lw) rv
 · obtain⟨hx,ωx,σx,gx,lx,Sx,Rx,rx,⟨rfl,rfl⟩,hgx⟩:=q
   subst hgx
   have lz:=l38.trans lx
   refine o9 (h:=.str (wlF rows rows.length)) (L₃.O.mono lz) Sx Rx (by kernel_rfl) rx fun ω9 s9 l9 f₉ O9 S9 R9=>?_
   have L9:=L₃.le ((lz.s _).trans l9) O9 S9 R9
   refine n₁ _ ?_
   have gMk:∀ (a:String),decide (Str.ofString a∈gM)=true->decide (Str.ofString a ∉ [Str.ofString "octets",Str.ofString "patterns",Str.ofString "items",Str.ofString "whole"])=true->(Mine.Internal.upd (Mine.Internal.upd (Mine.Internal.upd (Mine.Internal.upd ρ (Str.ofString "octets") (.bytes o)) (Str.ofString "patterns") (.list (rows.map fun r=>.str (K5 r)))) (Str.ofString "items") (.list (rows.map fun r=>.list ((r.map fun x=>x.1.mean).map mnT)))) (Str.ofString "whole") (.str (wlF rows rows.length))) (Str.ofString a)=none:=fun a h1 h2=>by
    have h2':Str.ofString a ∉ [Str.ofString "octets",Str.ofString "patterns",Str.ofString "items",Str.ofString "whole"]:=by simpa using h2
    simp only[List.mem_cons,List.not_mem_nil,or_false,not_or] at h2'
    (refine rr (i8 h2'.2.2.2 rfl) ?_;refine rr (i8 h2'.2.2.1 rfl) ?_;refine rr (i8 h2'.2.1 rfl) ?_;refine rr (i8 h2'.1 rfl) ?_)
    exact hno' a h1
   have w9:(Mine.Internal.upd (Mine.Internal.upd (Mine.Internal.upd (Mine.Internal.upd ρ (Str.ofString "octets") (.bytes o)) (Str.ofString "patterns") (.list (rows.map fun r=>.str (K5 r)))) (Str.ofString "items") (.list (rows.map fun r=>.list ((r.map fun x=>x.1.mean).map mnT)))) (Str.ofString "whole") (.str (wlF rows rows.length))) (Str.ofString "whole")=some (.str (wlF rows rows.length)):=i5
   have r9:(Mine.Internal.upd (Mine.Internal.upd (Mine.Internal.upd (Mine.Internal.upd ρ (Str.ofString "octets") (.bytes o)) (Str.ofString "patterns") (.list (rows.map fun r=>.str (K5 r)))) (Str.ofString "items") (.list (rows.map fun r=>.list ((r.map fun x=>x.1.mean).map mnT)))) (Str.ofString "whole") (.str (wlF rows rows.length))) (Str.ofString "rows")=some (.list (rows.map M3)):=i8 (d6 (by decide +kernel)) e33
   have i9:(Mine.Internal.upd (Mine.Internal.upd (Mine.Internal.upd (Mine.Internal.upd ρ (Str.ofString "octets") (.bytes o)) (Str.ofString "patterns") (.list (rows.map fun r=>.str (K5 r)))) (Str.ofString "items") (.list (rows.map fun r=>.list ((r.map fun x=>x.1.mean).map mnT)))) (Str.ofString "whole") (.str (wlF rows rows.length))) (Str.ofString "items")=some (.list (rows.map fun r=>.list ((r.map fun x=>x.1.mean).map mnT))):=by walk_at "nm"
   have b₉:(Mine.Internal.upd (Mine.Internal.upd (Mine.Internal.upd (Mine.Internal.upd ρ (Str.ofString "octets") (.bytes o)) (Str.ofString "patterns") (.list (rows.map fun r=>.str (K5 r)))) (Str.ofString "items") (.list (rows.map fun r=>.list ((r.map fun x=>x.1.mean).map mnT)))) (Str.ofString "whole") (.str (wlF rows rows.length))) (Str.ofString "octets")=some (.bytes o):=by walk_at "nm"
   revert L9 gMk w9 r9 i9 b₉
   generalize (Mine.Internal.upd (Mine.Internal.upd (Mine.Internal.upd (Mine.Internal.upd ρ (Str.ofString "octets") (.bytes o)) (Str.ofString "patterns") (.list (rows.map fun r=>.str (K5 r)))) (Str.ofString "items") (.list (rows.map fun r=>.list ((r.map fun x=>x.1.mean).map mnT)))) (Str.ofString "whole") (.str (wlF rows rows.length)))=ρ9
   intro L9 gMk w9 r9 i9 b₉
   show wpAny _ _ (execs (lawB.getD 9 noS::lawB.drop 10) env) _ _ _
   refine L9.one (mu:=fun _=>false) TB X Rm (fun KF hK=>c18 LG h1 h2 hr w9 (gMk "_translate" (by decide +kernel) (by decide +kernel)) hK) fun ωa sa La kpa=>?_
   show wpAny _ _ (execs (lawB.getD 10 noS::lawB.drop 11) env) _ _ _
   conv=>arg 3;arg 1;arg 1;whnf
   refine La.cell (mu:=fun _=>false) TB X Rm (by decide +kernel) (by kernel_rfl) (d0 _ (by decide) (by decide)) (Y0 kR) (b77 LG h1 h2 hr i5) fun ωc sc' h σc Lc hh=>?_
   (refine o_a hh fun z34 z35=>?_;clear hh;subst z34;subst z35)
   show wpAny _ _ (execs ((lawB.drop 11).take 6++lawB.drop 17) env) _ _ _
   have nLen:=gMk "len" (by decide +kernel) (by decide +kernel)
   have nTx:=gMk "translate" (by decide +kernel) (by decide +kernel)
   refine Lc.blk' (mu:=fun _=>false) (N:=fun ρ' σ'=>(∀ x,x ∉ [Str.ofString "due",Str.ofString "row",Str.ofString "bare",Str.ofString "texts"]->ρ' x=(Mine.Internal.upd (Mine.Internal.upd ρ9 (Str.ofString "parts") (.list ((Ws rows).map fun t=>.str (pcF t)))) (Str.ofString "run") (.list (((Ws rows).map Pz.mean).map mnT))) x)/\σ'=σc) TB X Rm (b5v LG h1 h2 hr (by walk_at "nm") i5 (by walk_at "nm") (by walk_at "nm") (by walk_at "nm") (by walk_at "nm") fun ρ' hh=>(A8 rfl hh rfl)) fun ωd sd ρd σd Ld kpd hd=>?_
   obtain⟨hd,rfl⟩:=hd
   have kd:∀ (a:String),decide (Str.ofString a ∉ [Str.ofString "due",Str.ofString "row",Str.ofString "bare",Str.ofString "texts"])=true->ρd (Str.ofString a)=(Mine.Internal.upd (Mine.Internal.upd ρ9 (Str.ofString "parts") (.list ((Ws rows).map fun t=>.str (pcF t)))) (Str.ofString "run") (.list (((Ws rows).map Pz.mean).map mnT))) (Str.ofString a):=fun a h=>hd (Str.ofString a) (by simpa using h)
   refine b4b (n:=n) TB TM hg TG F26 CB g26 X LG h17 h26 h2 hr ho hbL Rm Ld ⟨?_,?_,?_,?_,fun x hx=>?_⟩ hQ
   · refine rr (kd "rows" (by decide +kernel)) ?_;walk_at "nm"
   · refine rr (kd "run" (by decide +kernel)) ?_;exact i5
   · refine rr (kd "octets" (by decide +kernel)) ?_;walk_at "nm"
   · refine rr (kd "items" (by decide +kernel)) ?_;walk_at "nm"
   · have nr:=gMk "range" (by decide +kernel) (by decide +kernel)
     have ni:=gMk "isinstance" (by decide +kernel) (by decide +kernel)
     have nl:=gMk "list" (by decide +kernel) (by decide +kernel)
     have nw:=gMk "_law_walk" (by decide +kernel) (by decide +kernel)
     have nt:=gMk "_law_told" (by decide +kernel) (by decide +kernel)
     simp only[gN,List.mem_cons,List.not_mem_nil,or_false] at hx
     rcases hx with rfl | rfl | rfl | rfl | rfl | rfl
     · refine rr (kd "len" (by decide +kernel)) ?_;walk_at "nm"
     · refine rr (kd "range" (by decide +kernel)) ?_;walk_at "nm"
     · refine rr (kd "isinstance" (by decide +kernel)) ?_;walk_at "nm"
     · refine rr (kd "list" (by decide +kernel)) ?_;walk_at "nm"
     · refine rr (kd "_law_walk" (by decide +kernel)) ?_;walk_at "nm"
     · refine rr (kd "_law_told" (by decide +kernel)) ?_;walk_at "nm"
 · obtain⟨_,_,_,_,_,_,_,_,_,_,_,_,_,q⟩:=q
   exact q.elim
end
end
section
theorem p27:B9 (stm 27) [tN "script"]=true:=by decide +kernel
theorem c4b:∀ (vals:List Value),vals.length=1->∀ fd:FuncData,fd.params=w8 (stm 27)->fd.kwdefaults=.none->fd.defaults=.none->bindArgs fd ⟨vals,[]⟩=pure ([tN "script"].zip vals):=fun vals hl fd hp h1 h2=>by
 (refine o_e (List.length_eq_one_iff.mp hl) fun a z485=>?_;refine rr z485 ?_)
 refine rr (C1 hp h1 h2) ?_
 with_unfolding_all rfl
section
variable {prog:Program}{w:World}{B0:Heap}{os:OsState}{mg mb:Str->Option Value}{Γ:Spx}{n:Nat}{gt:Loc}
theorem c0s (TB:TopB B0 mg mb) (TM:a53 B0 mg) (hg:I1 mg mb gt){a17 c17 P17 a15 dT a3 miss a26 c26 P26 a27 c27 P27:Addr}{fd17 fd15 fd26 fd27:FuncData}(TG:a96 B0 gt a17 c17 P17 a15 dT a3 miss fd17 fd15)
 (F26:FnK B0 a26 (stm 26) fd26 .none) (CB:X7 B0 fd26 c26 P26) (g26:gt (Str.ofString "_law_told")=some (.val (.ref a26))) (X:u6 prog w B0 os Γ.tq Γ (n+1+1+1+1+1+1)) (LG:a40 gt Γ) (h17:(P17,F0 fd17.qualname)∈Γ.tq) (h26:(P26,T2 fd26.qualname)∈Γ.tq)
 (F27:FnK B0 a27 (stm 27) fd27 .none) (C27:X7 B0 fd27 c27 P27) (h27:(P27,a70 fd27.qualname)∈Γ.tq)
 {A:Around}{l:List Env}{ω:Own}{s:Shared}{σ:St}{v:Value}{script:List Int}
 (Rm:Room (n+1+1+1+1+1+1+1) A) (Ks:Stk ω A l) (S:MS B0 os ω Γ.tq s) (R:RelS ω σ) (rv:Rd ω (.list (script.map HV.int)) v) (hsc:script.length<=63) :
 wpAny (model prog w) A (call (.ref a27) [v] []) (J0 B0 os ω fun h _ σ' gs'=>h=.bool true/\gs'=Γ.tq) (RaisG B0 os ω fun _ _ _ _ _=>False) s:=by
  have ln:=c8
  refine a7w (n:=n+1+1+1+1+1+1) (ps:=[tN "script"]) (hs:=[.list (script.map HV.int)]) TB (a9p F27.body F27.scope F27.glob F27.blt F27.clo (by decide +kernel) (fun vals hv=>c4b vals hv fd27 F27.params F27.kdflt F27.dflt) p27) F27.at' hg (fun _ _ _ _ _ _ _ q=>q) (fun _ _ _ _ _ _ q=>q) Rm Ks S R (by
   simp only[RdL];exact⟨v,_,rfl,rv,rfl⟩) rfl ?_
  intro env A' ωb ω₁ s₁ hfr hsc' hcode hqual O CO Rm' Ks' S₁ R₁ l₁ hbL hbc other other1
  rw[F27.scope] at O
  rw[Q6] at O
  have n1:T8 [tN "script"] [.list (script.map HV.int)]=upd (fun _=>none) (tN "script") (.list (script.map HV.int)):=rfl
  rw[n1] at O
  unfold tN at O
  have L1:LX B0 os Γ.tq mg mb A' l env (b0 (stm 27)) (d7 (b0 (stm 27)) gt) ωb ω₁ s₁ _ σ:=⟨O,CO,S₁,R₁,l₁,Ks',hsc'.trans F27.scope,fun y c h=>hbc y c h⟩
  have d0:∀ a:String,(a=="__debug__")=false->(a=="__classdict__")=false->Str.ofString a≠("__debug__" : Str)/\Str.ofString a≠("__classdict__" : Str):=fun a q1 q2=>⟨d6 q1,d6 q2⟩
  refine Y6 fun Q E hQ hE=>?_
  show wpAny _ _ (execs (lawB.take 3++lawB.drop 3) env) _ _ _
  refine L1.blk' (mu:=fun _=>false) (N:=fun ρ' σ'=>(∃ (ns:List Int) (ps:Row),(∀ x∈ns,0<=x/\x<10 ^ 9)/\8<=ns.length/\ns.length<=14/\ps.length<=4/\pcs ps/\ρ' (Str.ofString "numbers")=some (.list (ns.map HV.int))/\ρ' (Str.ofString "pieces")=some (M3 ps)/\(∀ x,x ∉ [Str.ofString "script",Str.ofString "drawn",Str.ofString "numbers",Str.ofString "pieces"]->ρ' x=none))/\σ'=σ) TB X Rm' (b9i LG hsc fun ns ps ρ' a1 a2 a3 a4 a5 a6 a7 a8=>⟨rfl,⟨ns,ps,a1,a2,a3,a4,a5,a6,a7,a8⟩,rfl⟩) fun ω₂ s₂ ρ2 σ₂ L₂ _ hN=>?_
  obtain⟨⟨ns,ps,hnr,hn,hn2,hp4,hp,e1,e2,hno⟩,rfl⟩:=hN
  have fin:∀ v ω' s',LeS env.locals ωb ω'->MS B0 os ω' Γ.tq s'->RelS ω' σ₂->Rd ω' (.bool true) v->Q (.ret v) s':=fun v ω' s' q1 q2 q3 q4=>hQ _ _ ⟨v,_,ω',σ₂,Γ.tq,rfl,q1,q2,q3,q4,rfl,rfl⟩
  have gMn:∀ x∈gM,x ∉ Str.ofString "rows" :: [Str.ofString "script",Str.ofString "drawn",Str.ofString "numbers",Str.ofString "pieces"]:=by decide +kernel
  have go:∀ (rows:List Row) (ω:Own) (s:Shared) (ρ:Loc),LX B0 os Γ.tq mg mb A' l env (b0 (stm 27)) (d7 (b0 (stm 27)) gt) ωb ω s ρ σ₂->1<=rows.length->rows.length<=2->(∀ r∈rows,C9 r)->ρ (Str.ofString "numbers")=some (.list (ns.map HV.int))->ρ (Str.ofString "rows")=some (.list (rows.map M3))->(∀ x∈gM,ρ x=none)->wpAny (model prog w) A' (execs (lawB.drop 5) env) Q E s:=
   fun rows ω s ρ L h1 h2 hr q1 q2 q3=>b5i TB TM hg TG F26 CB g26 X LG h17 h26 C27 h27 h1 h2 hr hn hn2 hnr hcode hqual hbL Rm' L q1 q2 q3 fin
  show wpAny _ _ (execs (lawB.getD 3 noS::lawB.drop 4) env) _ _ _
  conv=>arg 3;arg 1;arg 1;whnf
  refine L₂.cell (mu:=fun _=>false) TB X Rm' (by decide +kernel) (by kernel_rfl) (d0 _ (by decide) (by decide)) (k9 rfl) (c0x hn hnr hp e1 e2) fun ω₃ s₃ h σ₃ L₃ hh=>?_
  (refine o_a hh fun z501 z502=>?_;clear hh;obtain⟨r,rfl,hr⟩:=z501;subst z502)
  have e13:(upd ρ2 (Str.ofString "rows") (.list [M3 r])) (Str.ofString "numbers")=some (.list (ns.map HV.int)):=i8 (d6 (by decide +kernel)) e1
  show wpAny _ _ (execs (lawB.getD 4 noS::lawB.drop 5) env) _ _ _
  conv=>arg 3;arg 1;arg 1;whnf
  refine L₃.ite (mu:=fun _=>false) (N:=fun _ σ'=>σ'=σ₃) TB X Rm' (b9c hn hnr e13 fun _=>rfl) fun c ω₄ s₄ σ₄ Q₁ n₁ L4 hN=>?_
  cases hN
  induction c with
  | false=>
   refine wpAny_execs_nil (n₁ _ ?_)
   refine go [r] ω₄ s₄ _ L4 (by simp) (by simp) (fun r' h=>by refine rr (List.mem_singleton.mp h) ?_;exact hr) e13 i5 fun x hx=>?_
   have:=gMn x hx
   simp only[List.mem_cons,not_or] at this
   refine rr (i8 this.1 rfl) ?_
   exact hno x (by simp only[List.mem_cons,not_or];exact this.2)
  | true=>
   refine L4.cell (mu:=fun _=>false) (rest:=[]) TB X Rm' (by decide +kernel) (by kernel_rfl) (d0 _ (by decide) (by decide)) (k9 rfl) (b7o (rows:=[r]) hn hnr hp e13 (i8 (d6 (by decide +kernel)) e2) rfl (fun r' h=>by refine rr (List.mem_singleton.mp h) ?_;exact hr) i5) fun ω₅ s₅ h σ5 L5 hh=>?_
   obtain⟨⟨rows',rfl,hl,hr'⟩,rfl⟩:=hh
   refine wpAny_execs_nil (n₁ _ ?_)
   refine go rows' ω₅ s₅ _ L5 (c55 hl) (lq hl) hr' (i8 (d6 (by decide +kernel)) e13) i5 fun x hx=>?_
   have:=gMn x hx
   simp only[List.mem_cons,not_or] at this
   (refine rr (i8 this.1 rfl) ?_;refine rr (i8 this.1 rfl) ?_)
   exact hno x (by simp only[List.mem_cons,not_or];exact this.2)
end
end
section
noncomputable def c3x (l:List (Addr×Spec)):Value->Option Spec:=fun v=>match v with
 | .ref a=>l.lookup a
 | _=>none
noncomputable def gam (tq:TQ) (hp:Heap->Prop) (lv:Nat) (l:List (Addr×Spec)):Spx:=⟨c3x l,tq,hp,lv⟩
theorem mdd6:∀ (vals:List Value),vals.length=1->∀ fd:FuncData,fd.params=w8 (stm 6)->fd.kwdefaults=.none->fd.defaults=.none->bindArgs fd ⟨vals,[]⟩=pure ([tN "pat"].zip vals):=fun vals hl fd hp h1 h2=>by
 (refine o_e (List.length_eq_one_iff.mp hl) fun a z39=>?_;refine rr z39 ?_)
 refine rr (C1 hp h1 h2) ?_
 with_unfolding_all rfl
theorem qq6:B9 (stm 6) [tN "pat"]=true:=by decide +kernel
theorem c2x:∀ (vals:List Value),vals.length=3->∀ fd:FuncData,fd.params=w8 (stm 11)->fd.kwdefaults=.none->fd.defaults=.none->bindArgs fd ⟨vals,[]⟩=pure ([tN "pat",tN "STAR",tN "QUESTION_MARK"].zip vals):=fun vals hl fd hp h1 h2=>by
 (refine a4u (c0y hl) fun a b c z41=>?_;refine rr z41 ?_)
 refine rr (C1 hp h1 h2) ?_
 with_unfolding_all rfl
theorem qq11:B9 (stm 11) [tN "pat",tN "STAR",tN "QUESTION_MARK"]=true:=by decide +kernel
theorem c3d:∀ (vals:List Value),vals.length=2->∀ fd:FuncData,fd.params=w8 (stm 12)->fd.kwdefaults=.none->fd.defaults=.none->bindArgs fd ⟨vals,[]⟩=pure ([tN "inp",tN "STAR"].zip vals):=fun vals hl fd hp h1 h2=>by
 (refine X9 (a8b hl) fun a b z43=>?_;refine rr z43 ?_)
 refine rr (C1 hp h1 h2) ?_
 with_unfolding_all rfl
theorem qq12:B9 (stm 12) [tN "inp",tN "STAR"]=true:=by decide +kernel
theorem c4s:∀ (vals:List Value),vals.length=1->∀ fd:FuncData,fd.params=w8 (stm 18)->fd.kwdefaults=.none->fd.defaults=.none->bindArgs fd ⟨vals,[]⟩=pure ([tN "number"].zip vals):=fun vals hl fd hp h1 h2=>by
 (refine o_e (List.length_eq_one_iff.mp hl) fun a z45=>?_;refine rr z45 ?_)
 refine rr (C1 hp h1 h2) ?_
 with_unfolding_all rfl
theorem qq18:B9 (stm 18) [tN "number"]=true:=by decide +kernel
theorem c4j:∀ (vals:List Value),vals.length=2->∀ fd:FuncData,fd.params=w8 (stm 19)->fd.kwdefaults=.none->fd.defaults=.none->bindArgs fd ⟨vals,[]⟩=pure ([tN "numbers",tN "rows"].zip vals):=fun vals hl fd hp h1 h2=>by
 (refine X9 (a8b hl) fun a b z47=>?_;refine rr z47 ?_)
 refine rr (C1 hp h1 h2) ?_
 with_unfolding_all rfl
theorem qq19:B9 (stm 19) [tN "numbers",tN "rows"]=true:=by decide +kernel
theorem c42:∀ (vals:List Value),vals.length=2->∀ fd:FuncData,fd.params=w8 (stm 20)->fd.kwdefaults=.none->fd.defaults=.none->bindArgs fd ⟨vals,[]⟩=pure ([tN "body",tN "place"].zip vals):=fun vals hl fd hp h1 h2=>by
 (refine X9 (a8b hl) fun a b z49=>?_;refine rr z49 ?_)
 refine rr (C1 hp h1 h2) ?_
 with_unfolding_all rfl
theorem qq20:B9 (stm 20) [tN "body",tN "place"]=true:=by decide +kernel
theorem c3q:∀ (vals:List Value),vals.length=1->∀ fd:FuncData,fd.params=w8 (stm 21)->fd.kwdefaults=.none->fd.defaults=.none->bindArgs fd ⟨vals,[]⟩=pure ([tN "part"].zip vals):=fun vals hl fd hp h1 h2=>by
 (refine o_e (List.length_eq_one_iff.mp hl) fun a z51=>?_;refine rr z51 ?_)
 refine rr (C1 hp h1 h2) ?_
 with_unfolding_all rfl
theorem qq21:B9 (stm 21) [tN "part"]=true:=by decide +kernel
theorem c5j:∀ (vals:List Value),vals.length=1->∀ fd:FuncData,fd.params=w8 (stm 22)->fd.kwdefaults=.none->fd.defaults=.none->bindArgs fd ⟨vals,[]⟩=pure ([tN "text"].zip vals):=fun vals hl fd hp h1 h2=>by
 (refine o_e (List.length_eq_one_iff.mp hl) fun a z53=>?_;refine rr z53 ?_)
 refine rr (C1 hp h1 h2) ?_
 with_unfolding_all rfl
theorem qq22:B9 (stm 22) [tN "text"]=true:=by decide +kernel
theorem c4r:∀ (vals:List Value),vals.length=2->∀ fd:FuncData,fd.params=w8 (stm 23)->fd.kwdefaults=.none->fd.defaults=.none->bindArgs fd ⟨vals,[]⟩=pure ([tN "meaning",tN "code"].zip vals):=fun vals hl fd hp h1 h2=>by
 (refine X9 (a8b hl) fun a b z55=>?_;refine rr z55 ?_)
 refine rr (C1 hp h1 h2) ?_
 with_unfolding_all rfl
theorem qq23:B9 (stm 23) [tN "meaning",tN "code"]=true:=by decide +kernel
theorem c3n:∀ (vals:List Value),vals.length=2->∀ fd:FuncData,fd.params=w8 (stm 24)->fd.kwdefaults=.none->fd.defaults=.none->bindArgs fd ⟨vals,[]⟩=pure ([tN "meanings",tN "text"].zip vals):=fun vals hl fd hp h1 h2=>by
 (refine X9 (a8b hl) fun a b z57=>?_;refine rr z57 ?_)
 refine rr (C1 hp h1 h2) ?_
 with_unfolding_all rfl
theorem qq24:B9 (stm 24) [tN "meanings",tN "text"]=true:=by decide +kernel
theorem c3h:∀ (vals:List Value),vals.length=3->∀ fd:FuncData,fd.params=w8 (stm 25)->fd.kwdefaults=.none->fd.defaults=.none->bindArgs fd ⟨vals,[]⟩=pure ([tN "octets",tN "place",tN "count"].zip vals):=fun vals hl fd hp h1 h2=>by
 (refine a4u (c0y hl) fun a b c z61=>?_;refine rr z61 ?_)
 refine rr (C1 hp h1 h2) ?_
 with_unfolding_all rfl
theorem qq25:B9 (stm 25) [tN "octets",tN "place",tN "count"]=true:=by decide +kernel
theorem b0g {a:Addr}{sp:Spec}:∀ {l:List (Addr×Spec)},l.lookup a=some sp->(a,sp)∈l
 | [],e=>by exact c7 e
 | (b,t)::l,e=>by
   simp only[List.lookup_cons] at e
   split at e
   · rename_i q
     have:a=b:=by simpa using q
     (replace e:=Option.some.inj e;subst e);refine rr this ?_;exact .head _
   · exact .tail _ (b0g e)
theorem a50 {a:Addr}{sp:Spec}:∀ {l:List (Addr×Spec)},(l.map (·.1)).Nodup->(a,sp)∈l->l.lookup a=some sp
 | (b,t)::l,hn,h=>by
   rw[List.map_cons,List.nodup_cons] at hn
   simp only[List.lookup_cons]
   rcases List.mem_cons.mp h with e | h
   · (injection e with e h9;refine rl e ?_;refine rr h9 ?_);simp
   · have:a≠b:=fun q=>hn.1 (q▸List.mem_map.mpr (j1 _ h rfl))
     refine rr (beq_eq_false_iff_ne.mpr this) ?_
     exact a50 hn.2 h
section
variable {prog:Program}{w:World}{B0:Heap}{os:OsState}{tq:TQ}{hp:Heap->Prop}{lv:Nat}{mg mb:Str->Option Value}{mu:Pos->Bool}{Γ:Spx}{n:Nat}{gt:Loc}
noncomputable def EntOk (prog:Program) (w:World) (B0:Heap) (os:OsState) (gs:TQ) (a:Addr) (sp:Spec) (n:Nat):Prop:=∃ o fd,B0.get? a=some o/\o.cls≠.none/\o.data=.func fd/\
 ∀ (A:Around) (E:Value->Shared->Prop) (ω:Own) (s:Shared) (σ:St) (K:KV) (hs:List HV) (vs:List Value),Room n A->MS B0 os ω gs s->RelS ω σ->RdL ω hs vs->sp hs σ K->
  wpAny (model prog w) A (call (.ref a) vs []) (PostV B0 os gs ω K) E s
theorem EntOk.up {a:Addr}{sp:Spec}{m:Nat}(h:EntOk prog w B0 os tq a sp n) (hm:n<=m):EntOk prog w B0 os tq a sp m:=by
 refine M6 h fun o fd h1 h2 h3 h4=>?_
 exact(M7 o fd h1 h2 h3 (fun A E ω s σ K hs vs Rm=>h4 A E ω s σ K hs vs (Rm.le hm)))
theorem a3b {l:List (Addr×Spec)}(hB:hp B0) (hl:lv<=n) (h:∀ e∈l,EntOk prog w B0 os tq e.1 e.2 n):u6 prog w B0 os tq (gam tq hp lv l) n:=⟨⟨rfl,hB,hl⟩,fun v sp e=>by
 induction v using Value.casesOn with
 | ref a=>
   refine M6 (h _ (b0g (show l.lookup a=some sp from e))) fun o fd h1 h2 h3 h4=>?_
   exact(W7 a o fd rfl h1 h2 h3 h4)
 | _=>exact c7 e⟩
theorem a65 (TB:TopB B0 mg mb) (X:u6 prog w B0 os tq Γ n) (hg:I1 mg mb gt){a:Addr}{st:Stmt}{fd:FuncData}{ps:List Str}{sp:Spec}{cd:Option (Addr×Str)}(F:FnK B0 a st fd .none) (hsc:B9 st ps=true) (hn:ps.Nodup)
 (hb:∀ (vals:List Value),vals.length=ps.length->∀ fd:FuncData,fd.params=w8 st->fd.kwdefaults=.none->fd.defaults=.none->bindArgs fd ⟨vals,[]⟩=pure (ps.zip vals))
 (hcd:∀ c q,cd=some (c,q)->fd.code=.ref c/\fd.qualname++".<locals>." = q)
 (walk:∀ hs σ K,sp hs σ K->a03 cd mu Γ (b0 st) gt ps (n7 st) hs σ K):EntOk prog w B0 os tq a sp (n+1):=by
 refine u9 F.at'.at' fun o ho hc hd=>?_
 refine(M7 o fd ho hc hd (fun A E ω s σ K hs vs Rm S R r H=>?_))
 exact b0j TB X (a9p F.body F.scope F.glob F.blt F.clo hn (fun vals hv=>hb vals hv fd F.params F.kdflt F.dflt) hsc) F.at' hg A E ω s σ K hs vs Rm S R r hcd (by refine rr F.scope ?_;exact walk hs σ K H)
theorem G4 (TB:TopB B0 mg mb) (X:u6 prog w B0 os tq Γ n) (hg:I1 mg mb gt){a:Addr}{st:Stmt}{fd:FuncData}{ps:List Str}{sp:Spec}(F:FnK B0 a st fd .none) (hsc:B9 st ps=true) (hn:ps.Nodup)
 (hb:∀ (vals:List Value),vals.length=ps.length->∀ fd:FuncData,fd.params=w8 st->fd.kwdefaults=.none->fd.defaults=.none->bindArgs fd ⟨vals,[]⟩=pure (ps.zip vals))
 (walk:∀ hs σ K,sp hs σ K->B6 mu Γ (b0 st) gt ps (n7 st) hs σ K):EntOk prog w B0 os tq a sp (n+1):=
 a65 (cd:=none) TB X hg F hsc hn hb (fun _ _ e=>c7 e) walk
theorem a1s (a:Addr) (sp:Spec):(gam tq hp lv [(a,sp)]).f (.ref a)=some sp:=by simp[gam,c3x]
noncomputable def C8 (a6 a11 a18 a19 a21 a22 a23 a24 a25:Addr):List (Addr×Spec):=[(a6,a9m),(a11,a2r),(a18,a1q),(a19,b05),(a21,a0f),(a22,a1l),(a23,a00),(a24,a1x),(a25,a64)]
theorem b3z (TB:TopB B0 mg mb) (hg:I1 mg mb gt){a6 a9 a11 a12 a18 a19 a20 a21 a22 a23 a24 a25 dM pat c11 P11:Addr}{fd11:FuncData}
 (Pf6:∃ fd,FnK B0 a6 (stm 6) fd .none) (Pf9:∃ fd,FnK B0 a9 (stm 9) fd .none) (Pf12:∃ fd,FnK B0 a12 (stm 12) fd .none) (Pf18:∃ fd,FnK B0 a18 (stm 18) fd .none) (Pf19:∃ fd,FnK B0 a19 (stm 19) fd .none) (Pf20:∃ fd,FnK B0 a20 (stm 20) fd .none) (Pf21:∃ fd,FnK B0 a21 (stm 21) fd .none) (Pf22:∃ fd,FnK B0 a22 (stm 22) fd .none) (Pf23:∃ fd,FnK B0 a23 (stm 23) fd .none) (Pf24:∃ fd,FnK B0 a24 (stm 24) fd .none) (Pf25:∃ fd,FnK B0 a25 (stm 25) fd .none) (Pf11:FnK B0 a11 (stm 11) fd11 .none) (Pc11:X7 B0 fd11 c11 P11) (Ppt:PatAt B0 pat) (Pgpt:gt (Str.ofString "_twin_re_1")=some (.val (.ref pat))) (Pg_escape:gt (Str.ofString "escape")=some (.val (.ref a9))) (Pgu_translate:gt (Str.ofString "_translate")=some (.val (.ref a11))) (Pgu_join_translated_parts:gt (Str.ofString "_join_translated_parts")=some (.val (.ref a12))) (Pg_translate:gt (Str.ofString "translate")=some (.val (.ref a6))) (Pgu_law_piece:gt (Str.ofString "_law_piece")=some (.val (.ref a18))) (Pgu_law_octets:gt (Str.ofString "_law_octets")=some (.val (.ref a19))) (Pgu_law_sign:gt (Str.ofString "_law_sign")=some (.val (.ref a20))) (Pgu_law_meaning:gt (Str.ofString "_law_meaning")=some (.val (.ref a21))) (Pgu_law_meanings:gt (Str.ofString "_law_meanings")=some (.val (.ref a22))) (Pgu_law_holds:gt (Str.ofString "_law_holds")=some (.val (.ref a23))) (Pgu_law_takes:gt (Str.ofString "_law_takes")=some (.val (.ref a24))) (Pgu_law_walk:gt (Str.ofString "_law_walk")=some (.val (.ref a25))) (Pgu_special_chars_map:gt (Str.ofString "_special_chars_map")=some (.val (.ref dM))) (Pmap:∃ f,B0.MapOf (intKind prog w) dM f/\W5 f) (Psys:(dM==sysModules)=false) (Pb_isinstance:gt (Str.ofString "isinstance")=some (.val (.builtin "isinstance"))) (Pb_len:gt (Str.ofString "len")=some (.val (.builtin "len"))) (Pb_chr:gt (Str.ofString "chr")=some (.val (.builtin "chr"))) (Pb_ord:gt (Str.ofString "ord")=some (.val (.builtin "ord"))) (Pb_max:gt (Str.ofString "max")=some (.val (.builtin "max"))) (Pb_str:gt (Str.ofString "str")=some (.val (.type "str"))) (Pb_object:gt (Str.ofString "object")=some (.val (.type "object"))) (Pb_range:gt (Str.ofString "range")=some (.val (.type "range"))) (Pb_bytes:gt (Str.ofString "bytes")=some (.val (.type "bytes"))) (Pb_list:gt (Str.ofString "list")=some (.val (.type "list"))) (Pnd:[a6,a11,a12,a18,a19,a21,a22,a23,a24,a25].Nodup){qs:List (Pos×Str)}
  (hT:(P11,qs)∈tq) (hq:G2 qs) (h1:(lmP,(fd11.qualname++".<locals>.")++"<lambda>")∈qs) (h2:(gjP,(fd11.qualname++".<locals>.")++"<genexpr>")∈qs) :
  u6 prog w B0 os tq (gam tq (fun _=>True) 0 (C8 a6 a11 a18 a19 a21 a22 a23 a24 a25)) 8/\a40 gt (gam tq (fun _=>True) 0 (C8 a6 a11 a18 a19 a21 a22 a23 a24 a25)):=by
  have spx0:∀ n,u6 prog w B0 os tq (gam tq (fun _=>True) 0 []) n:=fun n=>a3b trivial (Nat.zero_le _) fun e h=>by contradiction
  have spx1:∀ {a:Addr}{sp:Spec}{n:Nat},EntOk prog w B0 os tq a sp n->u6 prog w B0 os tq (gam tq (fun _=>True) 0 [(a,sp)]) n:=fun h=>a3b trivial (Nat.zero_le _) fun e he=>by rcases List.mem_singleton.mp he with rfl;exact h
  have e9:EntOk prog w B0 os tq a9 a47 1:=by
   refine o_e Pf9 fun fd F=>?_
   refine u9 F.at'.at' fun o ho hc hd=>?_
   refine c9 Pmap fun f hm hf=>?_
   exact(M7 o fd ho hc hd (fun A E ω s σ K hs vs Rm S R r H=>c01 TB hg F Pb_isinstance Pb_str Pgu_special_chars_map hm hf Psys A E ω s σ K hs vs Rm S R r H))
  have e11:EntOk prog w B0 os tq a11 a2r 7:=by
   have X:u6 prog w B0 os tq (gam tq (fun B=>PatAt B pat/\a3g B c11 P11) 6 [(a9,a47)]) 6:=a3b ⟨Ppt,Pc11.hd,Pc11.tab⟩ (Nat.le_refl _) fun e he=>by rcases List.mem_singleton.mp he with rfl;exact e9.up ((by simp +arith))
   exact a65 (mu:=fun _=>true) (cd:=some (c11,fd11.qualname++".<locals>.")) TB X hg Pf11 qq11 (by decide +kernel) c2x (fun c q e=>by cases e;exact⟨Pc11.code,rfl⟩) fun hs σ K H=>
    b5h (Γ:=gam tq (fun B=>PatAt B pat/\a3g B c11 P11) 6 [(a9,a47)]) ⟨Pgpt,fun B h=>h,Pc11.ne,hT,hq,h1,h2,Nat.le_refl _⟩ Pb_len Pb_range Pg_escape (a1s _ _) H
  have e12:EntOk prog w B0 os tq a12 a2w 1:=by
   refine o_e Pf12 fun fd F=>?_
   exact G4 (mu:=fun _=>true) TB (spx0 0) hg F qq12 (by decide +kernel) c3d fun hs σ K H=>b17 Pb_len H
  have hnd:=Pnd
  have e6:EntOk prog w B0 os tq a6 a9m 8:=by
   refine o_e Pf6 fun fd F=>?_
   have X:u6 prog w B0 os tq (gam tq (fun _=>True) 0 [(a11,a2r),(a12,a2w)]) 7:=a3b trivial (Nat.zero_le _) fun e he=>by
    rcases List.mem_cons.mp he with rfl | he
    · exact e11
    · rcases List.mem_singleton.mp he with rfl;exact e12.up ((by simp +arith))
   have nd2:([(a11,a2r),(a12,a2w)].map (·.1)).Nodup:=hnd.sublist (by simp)
   exact G4 (mu:=fun _=>true) TB X hg F qq6 (by decide +kernel) mdd6 fun hs σ K H=>b5c Pgu_translate Pgu_join_translated_parts Pb_object (a50 nd2 (by simp)) (a50 nd2 (by simp)) H
  have e18:EntOk prog w B0 os tq a18 a1q 1:=by
   refine o_e Pf18 fun fd F=>?_
   exact G4 (mu:=fun _=>false) TB (spx0 0) hg F qq18 (by decide +kernel) c4s fun hs σ K H=>a88 Pb_chr Pb_max H
  have e19:EntOk prog w B0 os tq a19 b05 1:=by
   refine o_e Pf19 fun fd F=>?_
   exact G4 (mu:=fun _=>false) TB (spx0 0) hg F qq19 (by decide +kernel) c4j fun hs σ K H=>b37 Pb_len Pb_bytes H
  have e21:EntOk prog w B0 os tq a21 a0f 2:=by
   refine o_e Pf21 fun fd F=>?_
   exact G4 (mu:=fun _=>false) TB (spx1 (show EntOk prog w B0 os tq a20 a5s 1 from by
   refine o_e Pf20 fun fd F=>?_
   exact G4 (mu:=fun _=>false) TB (spx0 0) hg F qq20 (by decide +kernel) c42 fun hs σ K H=>b1s H)) hg F qq21 (by decide +kernel) c3q fun hs σ K H=>b0s Pb_len Pb_ord Pgu_law_sign (a1s _ _) H
  have e22:EntOk prog w B0 os tq a22 a1l 3:=by
   refine o_e Pf22 fun fd F=>?_
   exact G4 (mu:=fun _=>true) TB (spx1 e21) hg F qq22 (by decide +kernel) c5j fun hs σ K H=>a8y Pb_len Pgu_law_meaning (a1s _ _) H
  have e23:EntOk prog w B0 os tq a23 a00 1:=by
   refine o_e Pf23 fun fd F=>?_
   exact G4 (mu:=fun _=>false) TB (spx0 0) hg F qq23 (by decide +kernel) c4r fun hs σ K H=>a8e H
  have e24:EntOk prog w B0 os tq a24 a1x 2:=by
   refine o_e Pf24 fun fd F=>?_
   exact G4 (mu:=fun _=>false) TB (spx1 e23) hg F qq24 (by decide +kernel) c3n fun hs σ K H=>a7v (fun _=>rfl) Pb_len Pb_range Pb_ord Pgu_law_holds (a1s _ _) H
  have e25:EntOk prog w B0 os tq a25 a64 1:=by
   refine o_e Pf25 fun fd F=>?_
   exact G4 (mu:=fun _=>false) TB (spx0 0) hg F qq25 (by decide +kernel) c3h fun hs σ K H=>b0m Pb_len Pb_str Pb_chr Pb_range H
  have at':∀ {a:Addr}{sp:Spec},(a,sp)∈C8 a6 a11 a18 a19 a21 a22 a23 a24 a25->(gam tq (fun _=>True) 0 (C8 a6 a11 a18 a19 a21 a22 a23 a24 a25)).f (.ref a)=some sp:=fun h=>a50 (hnd.sublist (by simp[C8]):((C8 a6 a11 a18 a19 a21 a22 a23 a24 a25).map (·.1)).Nodup) h
  refine⟨a3b trivial (Nat.zero_le _) fun e he=>?_,⟨Pb_len,Pb_chr,Pb_range,Pb_isinstance,Pb_list,(j1 a18 Pgu_law_piece (at' (by simp[C8]))),(j1 a19 Pgu_law_octets (at' (by simp[C8]))),(j1 a6 Pg_translate (at' (by simp[C8]))),(j1 a11 Pgu_translate (at' (by simp[C8]))),(j1 a21 Pgu_law_meaning (at' (by simp[C8]))),(j1 a22 Pgu_law_meanings (at' (by simp[C8]))),(j1 a23 Pgu_law_holds (at' (by simp[C8]))),(j1 a24 Pgu_law_takes (at' (by simp[C8]))),(j1 a25 Pgu_law_walk (at' (by simp[C8])))⟩⟩
  simp only[C8,List.mem_cons,List.not_mem_nil,or_false] at he
  rcases he with rfl | rfl | rfl | rfl | rfl | rfl | rfl | rfl | rfl
  · exact e6
  · exact e11.up ((by simp +arith))
  · exact e18.up (by exact a97)
  · exact e19.up (by exact a97)
  · exact e21.up (by exact b7t)
  · exact e22.up ((by simp +arith))
  · exact e23.up (by exact a97)
  · exact e24.up (by exact b7t)
  · exact e25.up (by exact a97)
end
end
section
noncomputable def B4 (K:Frag) (a:Addr):Obj:=match K.lookup a with
 | some o=>o
 | none=>{ cls:=.none,data:=.plain }
noncomputable def P0 (K:Frag) (a:Addr):FuncData:=match (B4 K a).data with
 | .func fd=>fd
 | _=>{ name:="",qualname:="",params:=w8 (stm 0),body:=.stmts [],scope:=b0 (stm 0),globals:=mainGlobals,closure:=[],defaults:=.none,kwdefaults:=.none,doc:=.none,pyModule:=.none,code:=.none,builtins:=builtinsNs }
noncomputable def a3j (K:Frag) (a:Addr):Array Value:=match (B4 K a).data with
 | .fields vs=>vs
 | _=>#[]
noncomputable def a74:Value->Addr
 | .ref a=>a
 | _=>0
noncomputable def c5s:Option Value->Tok
 | some (.str _ t)=>t
 | _=>0
noncomputable def cAt (K:Frag) (a:Addr):Addr:=a74 (P0 K a).code
theorem I8 {K:Frag}{h:Heap}(KX:K.In h){a:Addr}(e:(K.lookup a).isSome=true):h.get? a=some (B4 K a):=by
 refine KX a _ ?_
 unfold B4
 induction q:K.lookup a with
 | none=>rw[q] at e;exact j0 e
 | some o=>rfl
structure B3 (K:Frag) (a:Addr) (st:Stmt) (dV:Value):Prop where
 there:(K.lookup a).isSome=true
 cls:(B4 K a).cls=.type "function"
 data:(B4 K a).data=.func (P0 K a)
 body:(P0 K a).body=.stmts (n7 st)
 scope:(P0 K a).scope=b0 st
 params:(P0 K a).params=w8 st
 clo:(P0 K a).closure=[]
 glob:(P0 K a).globals=mainGlobals
 blt:(P0 K a).builtins=builtinsNs
 dflt:(P0 K a).defaults=dV
 kdflt:(P0 K a).kwdefaults=.none
 code:(P0 K a).code=.ref (cAt K a)
 cthere:(K.lookup (cAt K a)).isSome=true
 ccls:(B4 K (cAt K a)).cls=.type "code"
 cdata:(B4 K (cAt K a)).data=.fields (a3j K (cAt K a))
 qual:(a3j K (cAt K a))[1]? = some (.str (P0 K a).qualname (c5s (a3j K (cAt K a))[1]?))
theorem C0 {K:Frag}{h:Heap}(KX:K.In h){a:Addr}{st:Stmt}{dV:Value}(G:B3 K a st dV):FnK h a st (P0 K a) dV:=
 ⟨⟨(y7 _ (I8 KX G.there) (by rw[G.cls];exact fun q=>(nomatch q)) G.data),(a80 _ _ _ _ G.code (I8 KX G.cthere) (by rw[G.ccls];exact fun q=>(nomatch q)) G.cdata G.qual)⟩,
  G.body,G.scope,G.params,G.clo,G.glob,G.blt,G.dflt,G.kdflt⟩
noncomputable def b4w (K:Frag) (a:Addr):Array DictEntry:=match (B4 K a).data with
 | .dict es _=>es
 | _=>#[]
noncomputable def a3u (K:Frag) (x:Str):Option Value:=nsFind (b4w K mainGlobals) x
noncomputable def aOf (K:Frag) (x:Str):Addr:=match a3u K x with
 | some v=>a74 v
 | none=>0
end
section
open PyProof.Rows
noncomputable def gtK (K:Frag) (x:Str):Option HV:=match a3u K x with
 | some v=>some (.val v)
 | none=>if x=("__name__" : Str) then none else match bootBuiltins x with
   | some v=>some (.val v)
   | none=>none
noncomputable def b11:Value->Bool
 | .type _=>true
 | .ref _=>true
 | _=>false
noncomputable def nAt (K:Frag) (a:Addr):Nat:=match (B4 K a).data with
 | .seq _ n=>n
 | _=>0
noncomputable def epAt (K:Frag) (a:Addr):Nat:=match (B4 K a).data with
 | .dict _ n=>n
 | _=>0
noncomputable def pAt (K:Frag) (c:Addr):Addr:=match (a3j K c)[11]? with
 | some v=>a74 v
 | none=>0
noncomputable def c04 (e:DictEntry):Bool:=match e.key with
 | .int k _=>e.hash==hashInt k
 | _=>false
noncomputable def b49 (es:Array DictEntry):Bool:=(List.range 256).all fun c=>match findBy Value.isInt es (c:Int) with
 | some (.str s _)=>specials.contains c&&s==⟨#[92,c]⟩
 | none=>!(specials.contains c)
 | _=>false
noncomputable def b1y (K:Frag):Addr:=a74 (P0 K (aOf K (tN "reduce"))).defaults
noncomputable def a7e (K:Frag):Addr:=aOf K (tN "_twin_re_1")
noncomputable def a2d (K:Frag):Addr:=a74 ((a3j K (a7e K)).getD 5 .none)
noncomputable def b9l (K:Frag) (a:Addr):Array Value:=match (B4 K a).data with
 | .seq xs _=>xs
 | _=>#[]
set_option tactic.hygienic true in
theorem b7c {es:Array DictEntry}(h:b49 es=true):W5 (findBy Value.isInt es):=fun c hc=>by
 unfold b49 at h
 have:=List.all_eq_true.mp h c (List.mem_range.mpr hc)
 split at this
 · rename_i s t q
   rw[Bool.and_eq_true,beq_iff_eq] at this
   refine rr (if_pos this.1) ?_
   (refine o_a this fun _ z446=>?_;clear this;refine rl z446 ?_)
   exact⟨t,q⟩
 · rename_i q
   refine rr (if_neg (by simpa using this)) ?_
   exact q
 · exact j0 this
theorem b4h {v:Value}(h:b11 v=true):v≠.none:=fun q=>by rw[q] at h;exact j0 h
theorem b2m {K:Frag}{h:Heap}(KX:K.In h){a:Addr}{m:Str->Option Value}(N:h.Ns a m) (e:(K.lookup a).isSome=true) (hc:b11 (B4 K a).cls=true):KNs h a m:=by
 refine S0 N fun o es ep h1 h2=>?_
 have:=I8 KX e
 rw[h1] at this
 (replace this:=Option.some.inj this;subst this)
 exact(b5x _ es ep h1 (b4h hc) h2)
theorem c3e {K:Frag}{h:Heap}(KX:K.In h){m:Str->Option Value}(N:h.Ns mainGlobals m) (e:(K.lookup mainGlobals).isSome=true) (x:Str):a3u K x=m x:=by
 refine E4 N fun o es ep h1 h2 _ h4=>?_
 have:=I8 KX e
 rw[h1] at this
 (replace this:=Option.some.inj this;clear h1;subst this)
 unfold a3u b4w
 refine rr h2 ?_
 exact h4 x
set_option tactic.hygienic true in
theorem c3y {K:Frag}{mg mb:Str->Option Value}(h1:∀ x,a3u K x=mg x) (h2:∀ x:Str,x≠"__name__" -> mb x=bootBuiltins x):I1 mg mb (gtK K):=fun x h e=>by
 unfold gtK at e
 rw[h1] at e
 split at e
 · rename_i v q
   (replace e:=Option.some.inj e;subst e)
   exact⟨v,rfl,.inl q⟩
 · rename_i q
   (revert e;refine ie rfl (fun _ e=>?_) fun _ e=>?_)
   · exact c7 e
   · rename_i hx
     split at e
     · rename_i v q2
       (replace e:=Option.some.inj e;subst e)
       exact⟨v,rfl,.inr ⟨q,(h2 x hx).trans q2⟩⟩
     · exact c7 e
end
section
open PyProof.Rows
theorem a1t {view:Program}{loose:List Str}{mean:ExcName->Option Value}{mg mb:Str->Option Value}{h:Heap}{K:Frag}(KX:K.In h) (T:Top view loose mean mg mb h) (hmg:∀ x,a3u K x=mg x){x:Str}
 (hr:((recsOf view).any fun d=>d.name==x)=true){st:Stmt}{dV:Value}(G:B3 K (aOf K x) st dV) (hx:a3u K x=some (.ref (aOf K x))) :
 X7 h (P0 K (aOf K x)) (cAt K (aOf K x)) (pAt K (cAt K (aOf K x)))/\h.get? (pAt K (cAt K (aOf K x)))=some (tabObj #[]):=by
 refine c9 (List.any_eq_true.mp hr) fun d hd hn=>?_
 have hn:d.name=x:=by simpa using hn
 (refine J4 (T.tab d hd) fun a o fd c P z583=>?_;refine a9g z583 fun h1 h2 h3 h4 h5 h6=>?_)
 simp only[hn,← hmg,hx] at h1
 have ha:aOf K x=a:=by injection h1 with q;injection q
 clear h1 z583;subst ha
 have e:=I8 KX G.there
 rw[h2] at e
 obtain rfl:=Option.some.inj e
 obtain rfl:=Data.func.inj (h3.symm.trans G.data)
 have hc:cAt K (aOf K x)=c:=by have:=G.code.symm.trans h4;injection this
 (refine o_a h6 fun z581 e5=>?_;refine M6 z581 fun oc vs e1 e2 e3 e4=>?_)
 (refine rr (show pAt K (cAt K (aOf K x))=P from by
  have e6:=I8 KX G.cthere
  rw[hc,e1] at e6
  obtain rfl:=Option.some.inj e6
  unfold pAt a3j
  (refine rr hc ?_;refine rr e3 ?_)
  refine rr e4 ?_
  rfl) ?_;refine rr hc ?_)
 refine⟨⟨h4,CodeHd.of h5 ⟨(M7 oc vs e1 e2 e3 e4),e5⟩,⟨_,e5⟩,fun q=>?_⟩,e5⟩
 (refine c9 T.nolimit fun mc z580 _=>?_;refine M8 z580 fun o' es ep ho hd' _=>?_)
 rw[← q,e5] at ho
 obtain rfl:=Option.some.inj ho
 contradiction
theorem a7o {ω:Own}:∀ {vs:List Value}{ns:List Int},IntsAre vs ns->RdL ω (ns.map HV.int) vs
 | _,_,.nil=>rfl
 | _,_,.cons n t h=>(j7 _ _ rfl ⟨t,rfl⟩ (a7o h))
noncomputable def b7l (q:Str):List (Pos×Str):=[(lmP,(q++".<locals>.")++"<lambda>"),(gjP,(q++".<locals>.")++"<genexpr>")]
theorem b23 (q:Str):G2 (b7l q):=by
 have h:lmP.line≠gjP.line:=by decide +kernel
 intro a ha b hb hl _
 simp only[b7l,List.mem_cons,List.not_mem_nil,or_false] at ha hb
 rcases ha with rfl | rfl<;>rcases hb with rfl | rfl
 · rfl
 · exact absurd hl h
 · exact absurd hl.symm h
 · rfl
noncomputable def tqK (K:Frag):TQ:=[(pAt K (cAt K (aOf K (tN "_translate"))),b7l (P0 K (aOf K (tN "_translate"))).qualname),(pAt K (cAt K (aOf K (tN "_law_tape"))),F0 (P0 K (aOf K (tN "_law_tape"))).qualname),(pAt K (cAt K (aOf K (tN "_law_told"))),T2 (P0 K (aOf K (tN "_law_told"))).qualname),(pAt K (cAt K (aOf K (tN "law"))),a70 (P0 K (aOf K (tN "law"))).qualname)]
noncomputable def omK (K:Frag) (q:Addr) (o:Obj):Own:=fun b=>if b=q then some (.fz o) else match (tqK K).lookup b with
 | some qs=>some (.tab qs #[])
 | none=>none
end
section
open PyProof.Rows
set_option tactic.hygienic true in
theorem b3w {β:Type}{a:Addr}{x:β}:∀ {l:List (Addr×β)},l.lookup a=some x->(a,x)∈l
 | [],e=>by exact c7 e
 | (b,t)::l,e=>by
   simp only[List.lookup_cons] at e
   split at e
   · rename_i q
     have:a=b:=by simpa using q
     refine Option.some.inj e▸?_;refine this▸?_;exact .head _
   · exact .tail _ (b3w e)
theorem b95 {β:Type}{a:Addr}{x:β}:∀ {l:List (Addr×β)},(l.map (·.1)).Nodup->(a,x)∈l->l.lookup a=some x
 | (b,t)::l,hn,h=>by
   rw[List.map_cons,List.nodup_cons] at hn
   simp only[List.lookup_cons]
   rcases List.mem_cons.mp h with e | h
   · (injection e with e h9;refine rl e ?_;refine rr h9 ?_);simp
   · have:a≠b:=fun q=>hn.1 (q▸List.mem_map.mpr (j1 _ h rfl))
     refine rr (beq_eq_false_iff_ne.mpr this) ?_
     exact b95 hn.2 h
set_option tactic.hygienic true in
theorem b9s {e:DictEntry}(h:c04 e=true):∃ k t,e.key=.int k t/\e.hash=hashInt k:=by
 unfold c04 at h
 split at h
 · rename_i k t q;exact(a86 k t ⟨q,by simpa using h⟩)
 · exact j0 h
theorem law_final {view prog:Program}{w:World}{loose:List Str}{mean:ExcName->Option Value}{mg mb:Str->Option Value}{s:Shared}{K:Frag}(KX:K.In s.heap) (T:Top view loose mean mg mb s.heap)
 (Cf2:B3 K (aOf K (tN "read_uint1")) (stm 2) .none) (Cg2:gtK K (tN "read_uint1")=some (.val (.ref (aOf K (tN "read_uint1"))))) (Cf3:B3 K (aOf K (tN "read_string1")) (stm 3) .none) (Cg3:gtK K (tN "read_string1")=some (.val (.ref (aOf K (tN "read_string1"))))) (Cf6:B3 K (aOf K (tN "translate")) (stm 6) .none) (Cg6:gtK K (tN "translate")=some (.val (.ref (aOf K (tN "translate"))))) (Cf9:B3 K (aOf K (tN "escape")) (stm 9) .none) (Cg9:gtK K (tN "escape")=some (.val (.ref (aOf K (tN "escape"))))) (Cf11:B3 K (aOf K (tN "_translate")) (stm 11) .none) (Cg11:gtK K (tN "_translate")=some (.val (.ref (aOf K (tN "_translate"))))) (Cf12:B3 K (aOf K (tN "_join_translated_parts")) (stm 12) .none) (Cg12:gtK K (tN "_join_translated_parts")=some (.val (.ref (aOf K (tN "_join_translated_parts"))))) (Cf15:B3 K (aOf K (tN "reduce")) (stm 15) (.ref (b1y K))) (Cg15:gtK K (tN "reduce")=some (.val (.ref (aOf K (tN "reduce"))))) (Cf17:B3 K (aOf K (tN "_law_tape")) (stm 17) .none) (Cg17:gtK K (tN "_law_tape")=some (.val (.ref (aOf K (tN "_law_tape"))))) (Cf18:B3 K (aOf K (tN "_law_piece")) (stm 18) .none) (Cg18:gtK K (tN "_law_piece")=some (.val (.ref (aOf K (tN "_law_piece"))))) (Cf19:B3 K (aOf K (tN "_law_octets")) (stm 19) .none) (Cg19:gtK K (tN "_law_octets")=some (.val (.ref (aOf K (tN "_law_octets"))))) (Cf20:B3 K (aOf K (tN "_law_sign")) (stm 20) .none) (Cg20:gtK K (tN "_law_sign")=some (.val (.ref (aOf K (tN "_law_sign"))))) (Cf21:B3 K (aOf K (tN "_law_meaning")) (stm 21) .none) (Cg21:gtK K (tN "_law_meaning")=some (.val (.ref (aOf K (tN "_law_meaning"))))) (Cf22:B3 K (aOf K (tN "_law_meanings")) (stm 22) .none) (Cg22:gtK K (tN "_law_meanings")=some (.val (.ref (aOf K (tN "_law_meanings"))))) (Cf23:B3 K (aOf K (tN "_law_holds")) (stm 23) .none) (Cg23:gtK K (tN "_law_holds")=some (.val (.ref (aOf K (tN "_law_holds"))))) (Cf24:B3 K (aOf K (tN "_law_takes")) (stm 24) .none) (Cg24:gtK K (tN "_law_takes")=some (.val (.ref (aOf K (tN "_law_takes"))))) (Cf25:B3 K (aOf K (tN "_law_walk")) (stm 25) .none) (Cg25:gtK K (tN "_law_walk")=some (.val (.ref (aOf K (tN "_law_walk"))))) (Cf26:B3 K (aOf K (tN "_law_told")) (stm 26) .none) (Cg26:gtK K (tN "_law_told")=some (.val (.ref (aOf K (tN "_law_told"))))) (Cf27:B3 K (aOf K (tN "law")) (stm 27) .none) (Cg27:gtK K (tN "law")=some (.val (.ref (aOf K (tN "law"))))) (CgM:gtK K (tN "_special_chars_map")=some (.val (.ref (aOf K (tN "_special_chars_map"))))) (CgI:gtK K (tN "_initial_missing")=some (.val (.ref (aOf K (tN "_initial_missing"))))) (CgP:gtK K (tN "_twin_re_1")=some (.val (.ref (aOf K (tN "_twin_re_1"))))) (Cb_isinstance:gtK K (tN "isinstance")=some (.val (.builtin "isinstance"))) (Cb_len:gtK K (tN "len")=some (.val (.builtin "len"))) (Cb_chr:gtK K (tN "chr")=some (.val (.builtin "chr"))) (Cb_ord:gtK K (tN "ord")=some (.val (.builtin "ord"))) (Cb_min:gtK K (tN "min")=some (.val (.builtin "min"))) (Cb_max:gtK K (tN "max")=some (.val (.builtin "max"))) (Cb_iter:gtK K (tN "iter")=some (.val (.builtin "iter"))) (Ct_str:gtK K (tN "str")=some (.val (.type "str"))) (Ct_object:gtK K (tN "object")=some (.val (.type "object"))) (Ct_range:gtK K (tN "range")=some (.val (.type "range"))) (Ct_bytes:gtK K (tN "bytes")=some (.val (.type "bytes"))) (Ct_list:gtK K (tN "list")=some (.val (.type "list"))) (Ct_ValueError:gtK K (tN "ValueError")=some (.val (.type "ValueError"))) (Cnsg:(K.lookup mainGlobals).isSome=true) (Cnsgc:b11 (B4 K mainGlobals).cls=true) (Cnsb:(K.lookup builtinsNs).isSome=true) (Cnsbc:b11 (B4 K builtinsNs).cls=true) (Cm11:a3u K (tN "_translate")=some (.ref (aOf K (tN "_translate")))) (Cr11:((recsOf view).any fun d=>d.name==tN "_translate")=true) (Cm17:a3u K (tN "_law_tape")=some (.ref (aOf K (tN "_law_tape")))) (Cr17:((recsOf view).any fun d=>d.name==tN "_law_tape")=true) (Cm26:a3u K (tN "_law_told")=some (.ref (aOf K (tN "_law_told")))) (Cr26:((recsOf view).any fun d=>d.name==tN "_law_told")=true) (Cm27:a3u K (tN "law")=some (.ref (aOf K (tN "law")))) (Cr27:((recsOf view).any fun d=>d.name==tN "law")=true) (Cmi:(K.lookup (aOf K (tN "_initial_missing"))).isSome=true) (Cmic:(B4 K (aOf K (tN "_initial_missing"))).cls=.type "object") (Cdt:(K.lookup (b1y K)).isSome=true) (Cdtc:b11 (B4 K (b1y K)).cls=true) (Cdtd:(B4 K (b1y K)).data=.seq #[.ref (aOf K (tN "_initial_missing"))] (nAt K (b1y K))) (Cdm:(K.lookup (aOf K (tN "_special_chars_map"))).isSome=true) (Cdmc:(B4 K (aOf K (tN "_special_chars_map"))).cls=.type "dict") (Cdmd:(B4 K (aOf K (tN "_special_chars_map"))).dict=none) (Cdms:(B4 K (aOf K (tN "_special_chars_map"))).slots = #[]) (Cdme:(B4 K (aOf K (tN "_special_chars_map"))).data=.dict (b4w K (aOf K (tN "_special_chars_map"))) (epAt K (aOf K (tN "_special_chars_map")))) (Cdmk:((b4w K (aOf K (tN "_special_chars_map"))).toList.all c04)=true) (Cdmm:b49 (b4w K (aOf K (tN "_special_chars_map")))=true) (Cdmn:((aOf K (tN "_special_chars_map"))==sysModules)=false) (Cpt:(K.lookup (a7e K)).isSome=true) (Cptd:B4 K (a7e K) = { cls:=.type "re.Pattern",data:=.fields (a3j K (a7e K)) }) (Cpt5:(a3j K (a7e K)).getD 5 .none=.ref (a2d K)) (Cpt2:Builtin.Re.reRawNat ((a3j K (a7e K)).getD 2 .none)=1) (Cpt6:Builtin.Re.reRawNat ((a3j K (a7e K)).getD 6 .none)=0) (Cct:(K.lookup (a2d K)).isSome=true) (Cctc:b11 (B4 K (a2d K)).cls=true) (Cctd:(B4 K (a2d K)).data=.seq (b9l K (a2d K)) (nAt K (a2d K))) (Cctm:((b9l K (a2d K)).map Builtin.Re.reRawOf).map (·.toNat)=ampCode) (Cnd:decide ([aOf K (tN "translate"),aOf K (tN "_translate"),aOf K (tN "_join_translated_parts"),aOf K (tN "_law_piece"),aOf K (tN "_law_octets"),aOf K (tN "_law_meaning"),aOf K (tN "_law_meanings"),aOf K (tN "_law_holds"),aOf K (tN "_law_takes"),aOf K (tN "_law_walk")].Nodup)=true) (CndP:decide ([pAt K (cAt K (aOf K (tN "_translate"))),pAt K (cAt K (aOf K (tN "_law_tape"))),pAt K (cAt K (aOf K (tN "_law_told"))),pAt K (cAt K (aOf K (tN "law")))].Nodup)=true)
  (hg:s.gens = #[])
   {vs:List Value}{script:List Int}{Lq:Addr}(hL:s.heap.IsList Lq vs.toArray) (hi:IntsAre vs script) (hsz:s.heap.objs.size=Lq+1) (hsc:script.length<=63) :
   wpAny (model prog w) callerA (call (.ref (aOf K (tN "law"))) [.ref Lq] []) (fun v s'=>v=.bool true/\OldK s.heap s'.heap/\s'.os=s.os/\AllBare s'.gens) (fun _ _=>False) s:=by
  have hmg:=c3e KX T.g Cnsg
  have TB:TopB s.heap mg mb:=⟨b2m KX T.g Cnsg Cnsgc,b2m KX T.b Cnsb Cnsbc,T.nolimit,T.bmain⟩
  have hgt:=c3y hmg T.builtins
  refine o_a (a1t KX T hmg Cr11 Cf11 Cm11) fun CB11 t11=>?_
  refine o_a (a1t KX T hmg Cr17 Cf17 Cm17) fun CB17 t17=>?_
  refine o_a (a1t KX T hmg Cr26 Cf26 Cm26) fun CB26 t26=>?_
  refine o_a (a1t KX T hmg Cr27 Cf27 Cm27) fun CB27 t27=>?_
  refine o_a (b3z (os:=s.os) (tq:=tqK K) (a6:=(aOf K (tN "translate"))) (a9:=(aOf K (tN "escape"))) (a11:=(aOf K (tN "_translate"))) (a12:=(aOf K (tN "_join_translated_parts"))) (a18:=(aOf K (tN "_law_piece"))) (a19:=(aOf K (tN "_law_octets"))) (a20:=(aOf K (tN "_law_sign"))) (a21:=(aOf K (tN "_law_meaning"))) (a22:=(aOf K (tN "_law_meanings"))) (a23:=(aOf K (tN "_law_holds"))) (a24:=(aOf K (tN "_law_takes"))) (a25:=(aOf K (tN "_law_walk"))) (dM:=(aOf K (tN "_special_chars_map"))) (pat:=(aOf K (tN "_twin_re_1"))) (c11:=(cAt K (aOf K (tN "_translate")))) (P11:=(pAt K (cAt K (aOf K (tN "_translate"))))) (fd11:=(P0 K (aOf K (tN "_translate")))) TB hgt ⟨_,C0 KX Cf6⟩ ⟨_,C0 KX Cf9⟩ ⟨_,C0 KX Cf12⟩ ⟨_,C0 KX Cf18⟩ ⟨_,C0 KX Cf19⟩ ⟨_,C0 KX Cf20⟩ ⟨_,C0 KX Cf21⟩ ⟨_,C0 KX Cf22⟩ ⟨_,C0 KX Cf23⟩ ⟨_,C0 KX Cf24⟩ ⟨_,C0 KX Cf25⟩ (C0 KX Cf11) CB11 (⟨a3j K (a7e K),a2d K,by refine rl Cptd ?_;exact I8 KX Cpt,Cpt5,Cpt2,Cpt6,B4 K (a2d K),b9l K (a2d K),nAt K (a2d K),I8 KX Cct,b4h Cctc,Cctd,Cctm⟩) CgP Cg9 Cg11 Cg12 Cg6 Cg18 Cg19 Cg20 Cg21 Cg22 Cg23 Cg24 Cg25 CgM (show ∃ f,s.heap.MapOf (intKind prog w) (aOf K (tN "_special_chars_map")) f/\W5 f from by
   refine(j1 _ (Heap.IntMap.mapOf (W7 _ _ _ (I8 KX Cdm) Cdmc Cdme (fun e he=>?_) (fun _=>rfl)) fun o ho=>?_) (b7c Cdmm))
   · exact b9s (List.all_eq_true.mp Cdmk e (by simpa using he))
   · rw[I8 KX Cdm] at ho
     obtain rfl:=Option.some.inj ho
     exact⟨Cdmd,Cdms⟩) Cdmn Cb_isinstance Cb_len Cb_chr Cb_ord Cb_max Ct_str Ct_object Ct_range Ct_bytes Ct_list (by simpa using Cnd) (qs:=b7l (P0 K (aOf K (tN "_translate"))).qualname) (.head _) (b23 _) (.head _) (.tail _ (.head _))) fun X LG=>?_
  (refine u9 hL fun o ho hcl z240=>?_;clear hL;refine o_e z240 fun nn hdat=>?_)
  have htab:∀ x∈tqK K,s.heap.get? x.1=some (tabObj #[]):=fun x hx=>by
   simp only[tqK,List.mem_cons,List.not_mem_nil,or_false] at hx
   rcases hx with rfl | rfl | rfl | rfl
   · exact t11
   · exact t17
   · exact t26
   · exact t27
  have hne:∀ x∈tqK K,x.1≠Lq:=fun x hx q=>by
   have:=htab x hx
   rw[q,ho] at this
   obtain rfl:=Option.some.inj this
   contradiction
  have hnd:((tqK K).map (·.1)).Nodup:=by simpa [tqK] using CndP
  have cases3:∀ b m,omK K Lq o b=some m->(b=Lq/\m=.fz o)\/(∃ qs,m=.tab qs #[]/\s.heap.get? b=some (tabObj #[])):=fun b m e=>by
   unfold omK at e
   by_cases hb:b=Lq
   · rw[if_pos hb] at e;exact .inl ⟨hb,(Option.some.inj e).symm⟩
   · rw[if_neg hb] at e
     induction hl:(tqK K).lookup b with
     | none=>rw[hl] at e;exact c7 e
     | some qs=>
       rw[hl] at e
       exact .inr ⟨qs,(Option.some.inj e).symm,htab _ (b3w hl)⟩
  have S:MS s.heap s.os (omK K Lq o) (tqK K) s:=by
   refine⟨fun b m e=>?_,OldK.refl _,fun b m e hf=>?_,AllBare.of_eq hg,rfl,(M9 Lq o ho hsz.symm),fun P qs ps e=>?_,fun x hx=>⟨#[],(fun x hx=>by
   unfold omK
   (refine rr (if_neg (hne x hx)) ?_;exact rr (b95 hnd (show (x.1,x.2)∈tqK K from hx)) rfl):∀ x∈tqK K,omK K Lq o x.1=some (.tab x.2 #[])) x hx⟩⟩
   · rcases cases3 b m e with ⟨rfl,rfl⟩ | ⟨qs,rfl,q⟩
     · exact ho
     · exact q
   · rcases cases3 b m e with ⟨rfl,rfl⟩ | ⟨qs,rfl,q⟩<;>exact B2 hf
   · rcases cases3 P _ e with ⟨rfl,q⟩ | ⟨qs',q,_⟩
     · contradiction
     · (injection q with q h9;subst q;refine rr h9 ?_)
       exact⟨trivial,fun q _=>.inl rfl⟩
  refine wpAny_mono (c0s (n:=2) (l:=[]) TB TB.m hgt (⟨C0 KX Cf17,CB17,Cg17,C0 KX Cf15,(j7 _ _ (I8 KX Cdt) (b4h Cdtc) Cdtd),Cg15,⟨CgI,(j1 _ (I8 KX Cmi) Cmic),Cb_iter⟩,
   ⟨⟨_,C0 KX Cf3⟩,(M9 _ _ (C0 KX Cf2) Cg2),⟨trivial,Cb_min,Cb_len,Ct_ValueError⟩⟩,Cg3,Ct_range,Ct_str⟩) (C0 KX Cf26) CB26 Cg26 X LG (.tail _ (.head _)) (.tail _ (.tail _ (.head _))) (C0 KX Cf27) CB27 (.tail _ (.tail _ (.tail _ (.head _)))) (⟨by decide,by decide,rfl⟩:Room 9 callerA) ⟨rfl,fun env h=>by contradiction⟩ S (fun a xs e=>by exact c7 e)
   (by exact⟨by simp;exact c2m c8 hsc,Lq,o,vs,nn,rfl,(if_pos rfl),hcl,hdat,a7o hi⟩) hsc) (fun v s' q=>?_) fun e s' q=>?_
  · obtain⟨h,ω',σ',gs',l,S',R',r,rfl,rfl⟩:=q
    exact(Q5 (by simpa [Rd] using r) (S'.old) (S'.os) (S'.gens))
  · obtain⟨a,ω',σ',gs',cls,msg,t,_,_,_,_,_,_,k⟩:=q
    exact k.elim
end
end Mine.Internal
set_option tactic.hygienic true
open PySem PySem.W PySem.W.X PyProof.Rows
namespace Mine.h
theorem tw14399419997262040773 : 0=0 := rfl
theorem tw5736452974876700187 : 0=0 := rfl
theorem tw10941837580442650309 : 0=0 := rfl
theorem tw8001799990456804257 : 0=0 := rfl
theorem tw13952029585287401633 : 0=0 := rfl
theorem tw1318658075789443830 : 0=0 := rfl
theorem tw10840482306913640982 : 0=0 := rfl
theorem tw7384019616739082511 : 0=0 := rfl
theorem tw5424507362658752262 : 0=0 := rfl
theorem tw3675434881079296188 : 0=0 := rfl
theorem tw6447736293858880476 : 0=0 := rfl
theorem tw15769423472626437093 : 0=0 := rfl
theorem tw1574859183759491827 : 0=0 := rfl
theorem tw16185560819900565977 : 0=0 := rfl
theorem tw6863484586004960462 : 0=0 := rfl
theorem tw18056562225625479666 : 0=0 := rfl
theorem tw23172917482427607 : 0=0 := rfl
theorem tw13485386283454874272 : 0=0 := rfl
theorem tw3800477195604609603 : 0=0 := rfl
theorem tw11818430215813300567 : 0=0 := rfl
theorem tw16757396875619161431 : 0=0 := rfl
theorem tw5682897255307902284 : 0=0 := rfl
theorem tw4158065403680154142 : 0=0 := rfl
theorem tw11505790168188839244 : 0=0 := rfl
theorem tw6623853736686167560 : 0=0 := rfl
theorem tw2631809298886878358 : 0=0 := rfl
theorem tw8807781055259126525 : 0=0 := rfl
theorem tw5030923949517385718 : 0=0 := rfl
theorem tw12887034139009819213 : 0=0 := rfl
theorem tw17642177447343228967 : 0=0 := rfl
theorem tw6971913605738027030 : 0=0 := rfl
theorem tw18060268182353473583 : 0=0 := rfl
theorem tw8881416665966352325 : 0=0 := rfl
theorem tw15292986432048946388 : 0=0 := rfl
theorem tw9133311651087054315 : 0=0 := rfl
theorem tw2451394554795826781 : 0=0 := rfl
theorem tw12538407080492367791 : 0=0 := rfl
theorem tw14096229533479125360 : 0=0 := rfl
theorem tw9365971424444914446 : 0=0 := rfl
theorem tw11560728680844777831 : 0=0 := rfl
theorem tw10070215211548064708 : 0=0 := rfl
theorem tw9889273426583153161 : 0=0 := rfl
theorem tw3148075909152456441 : 0=0 := rfl
theorem tw15047613307574458526 : 0=0 := rfl
theorem tw14371893646553298905 : 0=0 := rfl
theorem tw8895748791643750065 : 0=0 := rfl
theorem tw15297895931255097126 : 0=0 := rfl
theorem tw5155573041313987525 : 0=0 := rfl
theorem tw5720831314532521046 : 0=0 := rfl
theorem tw12055834552727283816 : 0=0 := rfl
theorem tw12621323619118473286 : 0=0 := rfl
theorem tw7298730038799534652 : 0=0 := rfl
theorem tw11869163234891595672 : 0=0 := rfl
theorem tw17009195942527895028 : 0=0 := rfl
theorem tw14153151714561057243 : 0=0 := rfl
theorem tw1030420409270773821 : 0=0 := rfl
theorem tw8515728988873582639 : 0=0 := rfl
theorem tw1997940426198798138 : 0=0 := rfl
theorem tw2859666747883261283 : 0=0 := rfl
theorem tw8443227515277532949 : 0=0 := rfl
theorem tw17010347451085647000 : 0=0 := rfl
theorem tw13367681610626076656 : 0=0 := rfl
theorem tw4001185896099836895 : 0=0 := rfl
theorem tw628638652546025019 : 0=0 := rfl
theorem tw5019832918158916257 : 0=0 := rfl
theorem tw6012940715707866155 : 0=0 := rfl
theorem tw16603899029016679804 : 0=0 := rfl
theorem tw8311851235269883575 : 0=0 := rfl
theorem tw1843709074693381076 : 0=0 := rfl
theorem tw12545447809533417709 : 0=0 := rfl
theorem tw17023079774689043084 : 0=0 := rfl
theorem tw12752639757568219310 : 0=0 := rfl
theorem tw9133745166886107438 : 0=0 := rfl
theorem tw8799685860057839008 : 0=0 := rfl
theorem tw10100892229463490370 : 0=0 := rfl
theorem tw18029282666148303532 : 0=0 := rfl
theorem tw9135478140289576914 : 0=0 := rfl
theorem tw17022225426733837601 : 0=0 := rfl
theorem tw7961215463749567221 : 0=0 := rfl
theorem tw17009785210595476086 : 0=0 := rfl
theorem tw2371632673724754268 : 0=0 := rfl
theorem tw3073989225477181354 : 0=0 := rfl
theorem tw12958884805911852953 : 0=0 := rfl
theorem tw1031749014193022335 : 0=0 := rfl
theorem tw14794400287006146483 : 0=0 := rfl
theorem tw8777028718390341580 : 0=0 := rfl
theorem tw3563993257590342832 : 0=0 := rfl
theorem tw17803680328377120361 : 0=0 := rfl
theorem tw10359757870518472748 : 0=0 := rfl
theorem tw14166609017263377637 : 0=0 := rfl
theorem tw2692718641611122567 : 0=0 := rfl
theorem tw1096098431174955814 : 0=0 := rfl
theorem tw789422889901917262 : 0=0 := rfl
theorem tw13827456703681584491 : 0=0 := rfl
theorem tw1257535665617204927 : 0=0 := rfl
theorem tw1420025671130060678 : 0=0 := rfl
theorem tw6475828903018274778 : 0=0 := rfl
theorem tw1702200043265445640 : 0=0 := rfl
theorem tw9618861286798998627 : 0=0 := rfl
theorem tw3417305207646270843 : 0=0 := rfl
theorem tw1314425426675203585 : 0=0 := rfl
theorem tw15050089393431439418 : 0=0 := rfl
theorem tw15606057110197216980 : 0=0 := rfl
theorem tw17224188007993522828 : 0=0 := rfl
theorem tw13287716335742610845 : 0=0 := rfl
theorem tw824195374095679102 : 0=0 := rfl
theorem tw3954582329493917830 : 0=0 := rfl
theorem tw2074880725581360038 : 0=0 := rfl
theorem tw18421646793152347822 : 0=0 := rfl
theorem tw8007243292601566339 : 0=0 := rfl
theorem tw14615084590774227335 : 0=0 := rfl
theorem tw11057389585713553597 : 0=0 := rfl
theorem tw15268565758015676967 : 0=0 := rfl
theorem tw7454182444628172814 : 0=0 := rfl
theorem tw7296983210309977632 : 0=0 := rfl
theorem tw18444589360478295509 : 0=0 := rfl
theorem tw5474624607944612352 : 0=0 := rfl
theorem tw16283859611614711437 : 0=0 := rfl
theorem tw212297404043425241 : 0=0 := rfl
theorem tw13126054857942921641 : 0=0 := rfl
theorem tw17408650447235468933 : 0=0 := rfl
theorem tw10671491894406009198 : 0=0 := rfl
theorem tw4117420023994239629 : 0=0 := rfl
theorem tw13062612507392925337 : 0=0 := rfl
theorem tw14257575845529169401 : 0=0 := rfl
theorem tw3695492264728574771 : 0=0 := rfl
theorem tw11671700250010608693 : 0=0 := rfl
theorem tw10391684211956759065 : 0=0 := rfl
theorem tw17038784670989497218 : 0=0 := rfl
theorem tw16660711157786760021 : 0=0 := rfl
theorem tw15407914284154862069 : 0=0 := rfl
theorem tw11065042233917603500 : 0=0 := rfl
theorem tw13677281111596331867 : 0=0 := rfl
theorem tw10409097666323192095 : 0=0 := rfl
theorem tw8148187187107319721 : 0=0 := rfl
theorem tw8535481145345381477 : 0=0 := rfl
theorem tw17255913459212560399 : 0=0 := rfl
theorem tw12309405420462827460 : 0=0 := rfl
theorem tw8099074806403307960 : 0=0 := rfl
theorem tw7789138162913104275 : 0=0 := rfl
theorem tw9264167367849844979 : 0=0 := rfl
theorem tw12472045239118068117 : 0=0 := rfl
theorem tw16958642587919837243 : 0=0 := rfl
theorem tw1674336028455687664 : 0=0 := rfl
theorem tw14858498577645108073 : 0=0 := rfl
theorem tw7877790397829338716 : 0=0 := rfl
theorem tw1478268388050230270 : 0=0 := rfl
theorem tw15003508082368540894 : 0=0 := rfl
theorem tw2861021800794455822 : 0=0 := rfl
theorem tw3094062239887985115 : 0=0 := rfl
theorem tw7354335322502539930 : 0=0 := rfl
theorem tw8495586460568584083 : 0=0 := rfl
theorem tw13848402257986255569 : 0=0 := rfl
theorem tw6811803383631598809 : 0=0 := rfl
theorem tw2949717528683774459 : 0=0 := rfl
theorem tw16835868912353555730 : 0=0 := rfl
theorem tw488099162253406094 : 0=0 := rfl
theorem tw5658247963528059195 : 0=0 := rfl
theorem tw7405651146223021827 : 0=0 := rfl
theorem tw11532201945115270930 : 0=0 := rfl
theorem tw13141588441406230841 : 0=0 := rfl
theorem tw5391226320760574368 : 0=0 := rfl
theorem tw8550620776099056295 : 0=0 := rfl
theorem tw8433944378910079088 : 0=0 := rfl
theorem tw4565791281888950321 : 0=0 := rfl
theorem tw2169940301741106950 : 0=0 := rfl
theorem tw13290766786742068588 : 0=0 := rfl
theorem tw8585901346899153491 : 0=0 := rfl
theorem tw12783726066489037640 : 0=0 := rfl
theorem tw4200375331950263923 : 0=0 := rfl
theorem tw14362652060161068171 : 0=0 := rfl
theorem tw4458369324899034491 : 0=0 := rfl
theorem tw6979405546019785326 : 0=0 := rfl
theorem tw8733517792868530361 : 0=0 := rfl
theorem tw2366414976554310290 : 0=0 := rfl
theorem tw11127680675960911805 : 0=0 := rfl
theorem tw12141792692166886608 : 0=0 := rfl
theorem tw5067628389024098729 : 0=0 := rfl
theorem tw15263370393660191031 : 0=0 := rfl
theorem tw8964759525405741559 : 0=0 := rfl
theorem tw8883270564671088379 : 0=0 := rfl
theorem tw9392562620605357188 : 0=0 := rfl
theorem tw5377701827173262849 : 0=0 := rfl
theorem tw14774551432355044523 : 0=0 := rfl
theorem tw15054369030813099813 : 0=0 := rfl
theorem tw9961843852490621255 : 0=0 := rfl
theorem tw18046405161658943986 : 0=0 := rfl
theorem tw15348000213203334777 : 0=0 := rfl
theorem tw2375616456415111486 : 0=0 := rfl
theorem tw3698064292603893646 : 0=0 := rfl
theorem tw6962098115093273705 : 0=0 := rfl
theorem tw18339047029534914711 : 0=0 := rfl
theorem tw15438980398918866574 : 0=0 := rfl
theorem tw16424992300477153648 : 0=0 := rfl
theorem tw3170279243120788676 : 0=0 := rfl
theorem tw6703887165990735941 : 0=0 := rfl
theorem tw5902760204271779191 : 0=0 := rfl
theorem tw5846492156318884034 : 0=0 := rfl
theorem tw2896299490504988439 : 0=0 := rfl
theorem tw4275187117610747646 : 0=0 := rfl
theorem tw9036083888439728870 : 0=0 := rfl
theorem tw54449619510540528 : 0=0 := rfl
theorem tw3097282152931753593 : 0=0 := rfl
theorem tw11982503516789913697 : 0=0 := rfl
theorem tw13932936239167542783 : 0=0 := rfl
theorem tw16616528902071036077 : 0=0 := rfl
theorem tw16502270569698505979 : 0=0 := rfl
theorem tw4223539983642813934 : 0=0 := rfl
theorem tw15809408812974084502 : 0=0 := rfl
theorem tw15242660466240379118 : 0=0 := rfl
theorem tw8864946225968683004 : 0=0 := rfl
theorem tw2901769489366431826 : 0=0 := rfl
theorem tw12778354420173306078 : 0=0 := rfl
theorem tw7541618904875886413 : 0=0 := rfl
theorem tw14623928616713253304 : 0=0 := rfl
theorem tw18316440359328880135 : 0=0 := rfl
theorem tw16060531784772056704 : 0=0 := rfl
theorem tw6699030399236418416 : 0=0 := rfl
theorem tw5661847781615515681 : 0=0 := rfl
theorem tw4375232483459336526 : 0=0 := rfl
theorem tw2882745685926584800 : 0=0 := rfl
theorem tw11340608044641968782 : 0=0 := rfl
theorem tw6549225761229430699 : 0=0 := rfl
theorem tw8339088337677584187 : 0=0 := rfl
theorem tw2805001111776851349 : 0=0 := rfl
theorem tw2664453786773030427 : 0=0 := rfl
theorem tw12656607519898960839 : 0=0 := rfl
theorem tw15930764292022707084 : 0=0 := rfl
theorem tw18223932209533589419 : 0=0 := rfl
theorem tw13786038532780640989 : 0=0 := rfl
theorem tw7378754225238929013 : 0=0 := rfl
theorem tw15932343791505041862 : 0=0 := rfl
theorem tw7002591182373784421 : 0=0 := rfl
theorem tw17853841771173400560 : 0=0 := rfl
theorem tw8984416364512963207 : 0=0 := rfl
theorem tw4933402241730370150 : 0=0 := rfl
theorem tw157172750986073172 : 0=0 := rfl
theorem tw11815960911939481381 : 0=0 := rfl
theorem tw8651657690867478452 : 0=0 := rfl
theorem tw2249562036291356349 : 0=0 := rfl
theorem tw10299696984612955047 : 0=0 := rfl
theorem tw170826705761949609 : 0=0 := rfl
theorem tw10096323720174407802 : 0=0 := rfl
theorem tw7356087959432031152 : 0=0 := rfl
theorem tw313557481420190631 : 0=0 := rfl
theorem tw7438253619521393231 : 0=0 := rfl
theorem tw14104762545385142532 : 0=0 := rfl
theorem tw4997138367060926315 : 0=0 := rfl
theorem tw9326374880101911949 : 0=0 := rfl
theorem tw2629436321594667848 : 0=0 := rfl
theorem tw7413295026681969807 : 0=0 := rfl
theorem tw2433671607472880224 : 0=0 := rfl
theorem tw8871202159777435296 : 0=0 := rfl
theorem tw1732958652628769162 : 0=0 := rfl
theorem tw13515444388654926615 : 0=0 := rfl
theorem tw15557421943941688417 : 0=0 := rfl
theorem tw12877358834701119113 : 0=0 := rfl
end Mine.h
set_option Elab.async true
set_option maxRecDepth 100000 in
set_option maxHeartbeats 0 in
theorem Mine.h : PySem.Challenge.rw_ik0158_01.Holds := by
  w_on; o_law; z_head; (case hw => w_witness2)
  k_fill
  intro w s₀ s₁ mg mb G y fa o pm cd doc dV kV ho hd hcd hD hmg hg args vals as L hpre hlay hrd hwl hlo
  z_open y L KX ZH ZN ZT
  refine Ground.open G ?_
  intro T B D TE TW
  wrow_args hpre hlay hrd hwl hlo
  obtain ⟨hat, hsz⟩ := script_at L
  have htk := script_toks L ZT
  rw [ZN] at hat hsz
  subst hat
  x_fa T KX hmg
  all_lens
  have hlaw : Mine.Internal.aOf (Mine.h.heap_1_178 w.params) (Mine.Internal.tN "law") = 161 := by kernel_rfl
  have H := Mine.Internal.law_final (prog := PySem.Challenge.rw_ik0158_01.row.prog) (w := w) KX T (by constructor <;> kernel_rfl) (by kernel_rfl) (by constructor <;> kernel_rfl) (by kernel_rfl) (by constructor <;> kernel_rfl) (by kernel_rfl) (by constructor <;> kernel_rfl) (by kernel_rfl) (by constructor <;> kernel_rfl) (by kernel_rfl) (by constructor <;> kernel_rfl) (by kernel_rfl) (by constructor <;> kernel_rfl) (by kernel_rfl) (by constructor <;> kernel_rfl) (by kernel_rfl) (by constructor <;> kernel_rfl) (by kernel_rfl) (by constructor <;> kernel_rfl) (by kernel_rfl) (by constructor <;> kernel_rfl) (by kernel_rfl) (by constructor <;> kernel_rfl) (by kernel_rfl) (by constructor <;> kernel_rfl) (by kernel_rfl) (by constructor <;> kernel_rfl) (by kernel_rfl) (by constructor <;> kernel_rfl) (by kernel_rfl) (by constructor <;> kernel_rfl) (by kernel_rfl) (by constructor <;> kernel_rfl) (by kernel_rfl) (by constructor <;> kernel_rfl) (by kernel_rfl) (by kernel_rfl) (by kernel_rfl) (by kernel_rfl) (by kernel_rfl) (by kernel_rfl) (by kernel_rfl) (by kernel_rfl) (by kernel_rfl) (by kernel_rfl) (by kernel_rfl) (by kernel_rfl) (by kernel_rfl) (by kernel_rfl) (by kernel_rfl) (by kernel_rfl) (by kernel_rfl) (by kernel_rfl) (by kernel_rfl) (by kernel_rfl) (by kernel_rfl) (by kernel_rfl) (by kernel_rfl) (by kernel_rfl) (by kernel_rfl) (by kernel_rfl) (by kernel_rfl) (by kernel_rfl) (by kernel_rfl) (by kernel_rfl) (by kernel_rfl) (by kernel_rfl) (by kernel_rfl) (by kernel_rfl) (by kernel_rfl) (by kernel_rfl) (by kernel_rfl) (by kernel_rfl) (by kernel_rfl) (by kernel_rfl) (by kernel_rfl) (by kernel_rfl) (by kernel_rfl) (by kernel_rfl) (by kernel_rfl) (by kernel_rfl) (by kernel_rfl) (by kernel_rfl) (by kernel_rfl) (by kernel_rfl) (by kernel_rfl) (by kernel_rfl) (by kernel_rfl) hg (by assumption) (by assumption) hsz (by omega)
  rw [hlaw] at H
  refine wpAny_mono H (fun v s' q => ?_) (fun _ _ h => h.elim)
  obtain ⟨rfl, h1, h2, h3⟩ := q
  exact ⟨.inl ⟨_, _, [], rfl, fun cls => rfl, .bool true, by kernel_rfl, fun _ => ⟨.nil, fun a h => (nomatch h)⟩⟩, h1, h2, h3⟩
theorem PySem.Challenge.cw_ik0158_01_holds : PySem.Challenge.rw_ik0158_01.Holds :=
  Mine.h
