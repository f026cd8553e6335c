import PyProof.Rows.All
import Wide.All
import OpenK.AllK
import Wide.FinOn
import PySem.Challenge.RW_kg0023_01
set_option Elab.async false
set_option maxRecDepth 100000
set_option maxHeartbeats 8000000
set_option autoImplicit false
set_option linter.all false
set_option compiler.extract_closed false
set_option bootstrap.genMatcherCode false
set_option tactic.hygienic false
set_option genSizeOf false
noncomputable section
namespace Mine
@[elab_as_elim] theorem rwE {α:Sort _} {a b:α} {P:α->Prop} (h:a=b) (x:P b):P a:=h▸x
theorem ltI {a b:Int} (h:b<=a->False):a<b:=Int.lt_of_not_ge h
theorem leI {a b:Int} (h:b<a->False):a<=b:=Int.not_lt.mp h
theorem ltN {a b:Nat} (h:b<=a->False):a<b:=Nat.lt_of_not_ge h
theorem leN {a b:Nat} (h:b<a->False):a<=b:=Nat.not_lt.mp h
theorem tnS {a b:Int} {n:Nat} (h:(a - b).toNat=n+1):(a - (b+1)).toNat=n:=by omega
theorem tnD {a b:Int} {n:Nat} (h:(a - b).toNat=n+1):(a - 1 - b).toNat=n:=by omega
theorem tnP {a b:Int} {n:Nat} (h:(a - b).toNat=n) (l:b<a):n=n - 1+1:=by omega
theorem fuP {n f:Nat} (h:n<f):f=f - 1+1:=by omega
theorem tnL {a:Int} {k:Nat} (h:0<k) (l:a<k):a.toNat<k:=by omega
theorem nbL {a:Int} {k:Nat} (h:0<=a) (l:a<k):a.natAbs<k:=by omega
theorem sbE {a b c:Int} (h:a=b+c):b=a - c:=by omega
theorem sbF {a b c:Int} (h:a=b+c):a - c=b:=by omega
theorem x0_2 {p0 p1 r:Prop} (h:p0/\p1) (c:p0->p1->r):r:=c h.1 h.2
theorem x0_3 {p0 p1 p2 r:Prop} (h:p0/\p1/\p2) (c:p0->p1->p2->r):r:=x0_2 h.2 (c h.1)
theorem x0_4 {p0 p1 p2 p3 r:Prop} (h:p0/\p1/\p2/\p3) (c:p0->p1->p2->p3->r):r:=x0_3 h.2 (c h.1)
theorem x0_5 {p0 p1 p2 p3 p4 r:Prop} (h:p0/\p1/\p2/\p3/\p4) (c:p0->p1->p2->p3->p4->r):r:=x0_4 h.2 (c h.1)
theorem x0_6 {p0 p1 p2 p3 p4 p5 r:Prop} (h:p0/\p1/\p2/\p3/\p4/\p5) (c:p0->p1->p2->p3->p4->p5->r):r:=x0_5 h.2 (c h.1)
theorem x0_7 {p0 p1 p2 p3 p4 p5 p6 r:Prop} (h:p0/\p1/\p2/\p3/\p4/\p5/\p6) (c:p0->p1->p2->p3->p4->p5->p6->r):r:=x0_6 h.2 (c h.1)
theorem x0_8 {p0 p1 p2 p3 p4 p5 p6 p7 r:Prop} (h:p0/\p1/\p2/\p3/\p4/\p5/\p6/\p7) (c:p0->p1->p2->p3->p4->p5->p6->p7->r):r:=x0_7 h.2 (c h.1)
theorem x0_9 {p0 p1 p2 p3 p4 p5 p6 p7 p8 r:Prop} (h:p0/\p1/\p2/\p3/\p4/\p5/\p6/\p7/\p8) (c:p0->p1->p2->p3->p4->p5->p6->p7->p8->r):r:=x0_8 h.2 (c h.1)
theorem x0_10 {p0 p1 p2 p3 p4 p5 p6 p7 p8 p9 r:Prop} (h:p0/\p1/\p2/\p3/\p4/\p5/\p6/\p7/\p8/\p9) (c:p0->p1->p2->p3->p4->p5->p6->p7->p8->p9->r):r:=x0_9 h.2 (c h.1)
theorem x0_11 {p0 p1 p2 p3 p4 p5 p6 p7 p8 p9 p10 r:Prop} (h:p0/\p1/\p2/\p3/\p4/\p5/\p6/\p7/\p8/\p9/\p10) (c:p0->p1->p2->p3->p4->p5->p6->p7->p8->p9->p10->r):r:=x0_10 h.2 (c h.1)
theorem x1_1 {α0:Sort _} {p:α0->Prop} {r:Prop} (h:∃ x0,p x0) (c:∀ x0,p x0->r):r:=h.elim c
theorem x2_1 {α0 α1:Sort _} {p:α0->α1->Prop} {r:Prop} (h:∃ x0 x1,p x0 x1) (c:∀ x0 x1,p x0 x1->r):r:=h.elim fun x h=>x1_1 h (c x)
theorem x3_1 {α0 α1 α2:Sort _} {p:α0->α1->α2->Prop} {r:Prop} (h:∃ x0 x1 x2,p x0 x1 x2) (c:∀ x0 x1 x2,p x0 x1 x2->r):r:=h.elim fun x h=>x2_1 h (c x)
theorem x4_1 {α0 α1 α2 α3:Sort _} {p:α0->α1->α2->α3->Prop} {r:Prop} (h:∃ x0 x1 x2 x3,p x0 x1 x2 x3) (c:∀ x0 x1 x2 x3,p x0 x1 x2 x3->r):r:=h.elim fun x h=>x3_1 h (c x)
theorem x5_1 {α0 α1 α2 α3 α4:Sort _} {p:α0->α1->α2->α3->α4->Prop} {r:Prop} (h:∃ x0 x1 x2 x3 x4,p x0 x1 x2 x3 x4) (c:∀ x0 x1 x2 x3 x4,p x0 x1 x2 x3 x4->r):r:=h.elim fun x h=>x4_1 h (c x)
theorem x6_1 {α0 α1 α2 α3 α4 α5:Sort _} {p:α0->α1->α2->α3->α4->α5->Prop} {r:Prop} (h:∃ x0 x1 x2 x3 x4 x5,p x0 x1 x2 x3 x4 x5) (c:∀ x0 x1 x2 x3 x4 x5,p x0 x1 x2 x3 x4 x5->r):r:=h.elim fun x h=>x5_1 h (c x)
theorem x7_1 {α0 α1 α2 α3 α4 α5 α6:Sort _} {p:α0->α1->α2->α3->α4->α5->α6->Prop} {r:Prop} (h:∃ x0 x1 x2 x3 x4 x5 x6,p x0 x1 x2 x3 x4 x5 x6) (c:∀ x0 x1 x2 x3 x4 x5 x6,p x0 x1 x2 x3 x4 x5 x6->r):r:=h.elim fun x h=>x6_1 h (c x)
theorem x8_1 {α0 α1 α2 α3 α4 α5 α6 α7:Sort _} {p:α0->α1->α2->α3->α4->α5->α6->α7->Prop} {r:Prop} (h:∃ x0 x1 x2 x3 x4 x5 x6 x7,p x0 x1 x2 x3 x4 x5 x6 x7) (c:∀ x0 x1 x2 x3 x4 x5 x6 x7,p x0 x1 x2 x3 x4 x5 x6 x7->r):r:=h.elim fun x h=>x7_1 h (c x)
theorem x1_2 {α0:Sort _} {p0 p1:α0->Prop} {r:Prop} (h:∃ x0,p0 x0/\p1 x0) (c:∀ x0,p0 x0->p1 x0->r):r:=x1_1 h fun x0 h=>x0_2 h (c x0)
theorem x1_3 {α0:Sort _} {p0 p1 p2:α0->Prop} {r:Prop} (h:∃ x0,p0 x0/\p1 x0/\p2 x0) (c:∀ x0,p0 x0->p1 x0->p2 x0->r):r:=x1_1 h fun x0 h=>x0_3 h (c x0)
theorem x2_2 {α0 α1:Sort _} {p0 p1:α0->α1->Prop} {r:Prop} (h:∃ x0 x1,p0 x0 x1/\p1 x0 x1) (c:∀ x0 x1,p0 x0 x1->p1 x0 x1->r):r:=x2_1 h fun x0 x1 h=>x0_2 h (c x0 x1)
theorem x1_4 {α0:Sort _} {p0 p1 p2 p3:α0->Prop} {r:Prop} (h:∃ x0,p0 x0/\p1 x0/\p2 x0/\p3 x0) (c:∀ x0,p0 x0->p1 x0->p2 x0->p3 x0->r):r:=x1_1 h fun x0 h=>x0_4 h (c x0)
theorem x2_3 {α0 α1:Sort _} {p0 p1 p2:α0->α1->Prop} {r:Prop} (h:∃ x0 x1,p0 x0 x1/\p1 x0 x1/\p2 x0 x1) (c:∀ x0 x1,p0 x0 x1->p1 x0 x1->p2 x0 x1->r):r:=x2_1 h fun x0 x1 h=>x0_3 h (c x0 x1)
theorem x3_2 {α0 α1 α2:Sort _} {p0 p1:α0->α1->α2->Prop} {r:Prop} (h:∃ x0 x1 x2,p0 x0 x1 x2/\p1 x0 x1 x2) (c:∀ x0 x1 x2,p0 x0 x1 x2->p1 x0 x1 x2->r):r:=x3_1 h fun x0 x1 x2 h=>x0_2 h (c x0 x1 x2)
theorem x1_5 {α0:Sort _} {p0 p1 p2 p3 p4:α0->Prop} {r:Prop} (h:∃ x0,p0 x0/\p1 x0/\p2 x0/\p3 x0/\p4 x0) (c:∀ x0,p0 x0->p1 x0->p2 x0->p3 x0->p4 x0->r):r:=x1_1 h fun x0 h=>x0_5 h (c x0)
theorem x2_4 {α0 α1:Sort _} {p0 p1 p2 p3:α0->α1->Prop} {r:Prop} (h:∃ x0 x1,p0 x0 x1/\p1 x0 x1/\p2 x0 x1/\p3 x0 x1) (c:∀ x0 x1,p0 x0 x1->p1 x0 x1->p2 x0 x1->p3 x0 x1->r):r:=x2_1 h fun x0 x1 h=>x0_4 h (c x0 x1)
theorem x3_3 {α0 α1 α2:Sort _} {p0 p1 p2:α0->α1->α2->Prop} {r:Prop} (h:∃ x0 x1 x2,p0 x0 x1 x2/\p1 x0 x1 x2/\p2 x0 x1 x2) (c:∀ x0 x1 x2,p0 x0 x1 x2->p1 x0 x1 x2->p2 x0 x1 x2->r):r:=x3_1 h fun x0 x1 x2 h=>x0_3 h (c x0 x1 x2)
theorem x4_2 {α0 α1 α2 α3:Sort _} {p0 p1:α0->α1->α2->α3->Prop} {r:Prop} (h:∃ x0 x1 x2 x3,p0 x0 x1 x2 x3/\p1 x0 x1 x2 x3) (c:∀ x0 x1 x2 x3,p0 x0 x1 x2 x3->p1 x0 x1 x2 x3->r):r:=x4_1 h fun x0 x1 x2 x3 h=>x0_2 h (c x0 x1 x2 x3)
theorem x1_6 {α0:Sort _} {p0 p1 p2 p3 p4 p5:α0->Prop} {r:Prop} (h:∃ x0,p0 x0/\p1 x0/\p2 x0/\p3 x0/\p4 x0/\p5 x0) (c:∀ x0,p0 x0->p1 x0->p2 x0->p3 x0->p4 x0->p5 x0->r):r:=x1_1 h fun x0 h=>x0_6 h (c x0)
theorem x2_5 {α0 α1:Sort _} {p0 p1 p2 p3 p4:α0->α1->Prop} {r:Prop} (h:∃ x0 x1,p0 x0 x1/\p1 x0 x1/\p2 x0 x1/\p3 x0 x1/\p4 x0 x1) (c:∀ x0 x1,p0 x0 x1->p1 x0 x1->p2 x0 x1->p3 x0 x1->p4 x0 x1->r):r:=x2_1 h fun x0 x1 h=>x0_5 h (c x0 x1)
theorem x3_4 {α0 α1 α2:Sort _} {p0 p1 p2 p3:α0->α1->α2->Prop} {r:Prop} (h:∃ x0 x1 x2,p0 x0 x1 x2/\p1 x0 x1 x2/\p2 x0 x1 x2/\p3 x0 x1 x2) (c:∀ x0 x1 x2,p0 x0 x1 x2->p1 x0 x1 x2->p2 x0 x1 x2->p3 x0 x1 x2->r):r:=x3_1 h fun x0 x1 x2 h=>x0_4 h (c x0 x1 x2)
theorem x4_3 {α0 α1 α2 α3:Sort _} {p0 p1 p2:α0->α1->α2->α3->Prop} {r:Prop} (h:∃ x0 x1 x2 x3,p0 x0 x1 x2 x3/\p1 x0 x1 x2 x3/\p2 x0 x1 x2 x3) (c:∀ x0 x1 x2 x3,p0 x0 x1 x2 x3->p1 x0 x1 x2 x3->p2 x0 x1 x2 x3->r):r:=x4_1 h fun x0 x1 x2 x3 h=>x0_3 h (c x0 x1 x2 x3)
theorem x2_6 {α0 α1:Sort _} {p0 p1 p2 p3 p4 p5:α0->α1->Prop} {r:Prop} (h:∃ x0 x1,p0 x0 x1/\p1 x0 x1/\p2 x0 x1/\p3 x0 x1/\p4 x0 x1/\p5 x0 x1) (c:∀ x0 x1,p0 x0 x1->p1 x0 x1->p2 x0 x1->p3 x0 x1->p4 x0 x1->p5 x0 x1->r):r:=x2_1 h fun x0 x1 h=>x0_6 h (c x0 x1)
theorem x3_5 {α0 α1 α2:Sort _} {p0 p1 p2 p3 p4:α0->α1->α2->Prop} {r:Prop} (h:∃ x0 x1 x2,p0 x0 x1 x2/\p1 x0 x1 x2/\p2 x0 x1 x2/\p3 x0 x1 x2/\p4 x0 x1 x2) (c:∀ x0 x1 x2,p0 x0 x1 x2->p1 x0 x1 x2->p2 x0 x1 x2->p3 x0 x1 x2->p4 x0 x1 x2->r):r:=x3_1 h fun x0 x1 x2 h=>x0_5 h (c x0 x1 x2)
theorem x4_4 {α0 α1 α2 α3:Sort _} {p0 p1 p2 p3:α0->α1->α2->α3->Prop} {r:Prop} (h:∃ x0 x1 x2 x3,p0 x0 x1 x2 x3/\p1 x0 x1 x2 x3/\p2 x0 x1 x2 x3/\p3 x0 x1 x2 x3) (c:∀ x0 x1 x2 x3,p0 x0 x1 x2 x3->p1 x0 x1 x2 x3->p2 x0 x1 x2 x3->p3 x0 x1 x2 x3->r):r:=x4_1 h fun x0 x1 x2 x3 h=>x0_4 h (c x0 x1 x2 x3)
theorem x5_3 {α0 α1 α2 α3 α4:Sort _} {p0 p1 p2:α0->α1->α2->α3->α4->Prop} {r:Prop} (h:∃ x0 x1 x2 x3 x4,p0 x0 x1 x2 x3 x4/\p1 x0 x1 x2 x3 x4/\p2 x0 x1 x2 x3 x4) (c:∀ x0 x1 x2 x3 x4,p0 x0 x1 x2 x3 x4->p1 x0 x1 x2 x3 x4->p2 x0 x1 x2 x3 x4->r):r:=x5_1 h fun x0 x1 x2 x3 x4 h=>x0_3 h (c x0 x1 x2 x3 x4)
theorem x2_7 {α0 α1:Sort _} {p0 p1 p2 p3 p4 p5 p6:α0->α1->Prop} {r:Prop} (h:∃ x0 x1,p0 x0 x1/\p1 x0 x1/\p2 x0 x1/\p3 x0 x1/\p4 x0 x1/\p5 x0 x1/\p6 x0 x1) (c:∀ x0 x1,p0 x0 x1->p1 x0 x1->p2 x0 x1->p3 x0 x1->p4 x0 x1->p5 x0 x1->p6 x0 x1->r):r:=x2_1 h fun x0 x1 h=>x0_7 h (c x0 x1)
theorem x3_6 {α0 α1 α2:Sort _} {p0 p1 p2 p3 p4 p5:α0->α1->α2->Prop} {r:Prop} (h:∃ x0 x1 x2,p0 x0 x1 x2/\p1 x0 x1 x2/\p2 x0 x1 x2/\p3 x0 x1 x2/\p4 x0 x1 x2/\p5 x0 x1 x2) (c:∀ x0 x1 x2,p0 x0 x1 x2->p1 x0 x1 x2->p2 x0 x1 x2->p3 x0 x1 x2->p4 x0 x1 x2->p5 x0 x1 x2->r):r:=x3_1 h fun x0 x1 x2 h=>x0_6 h (c x0 x1 x2)
theorem x4_5 {α0 α1 α2 α3:Sort _} {p0 p1 p2 p3 p4:α0->α1->α2->α3->Prop} {r:Prop} (h:∃ x0 x1 x2 x3,p0 x0 x1 x2 x3/\p1 x0 x1 x2 x3/\p2 x0 x1 x2 x3/\p3 x0 x1 x2 x3/\p4 x0 x1 x2 x3) (c:∀ x0 x1 x2 x3,p0 x0 x1 x2 x3->p1 x0 x1 x2 x3->p2 x0 x1 x2 x3->p3 x0 x1 x2 x3->p4 x0 x1 x2 x3->r):r:=x4_1 h fun x0 x1 x2 x3 h=>x0_5 h (c x0 x1 x2 x3)
theorem x5_4 {α0 α1 α2 α3 α4:Sort _} {p0 p1 p2 p3:α0->α1->α2->α3->α4->Prop} {r:Prop} (h:∃ x0 x1 x2 x3 x4,p0 x0 x1 x2 x3 x4/\p1 x0 x1 x2 x3 x4/\p2 x0 x1 x2 x3 x4/\p3 x0 x1 x2 x3 x4) (c:∀ x0 x1 x2 x3 x4,p0 x0 x1 x2 x3 x4->p1 x0 x1 x2 x3 x4->p2 x0 x1 x2 x3 x4->p3 x0 x1 x2 x3 x4->r):r:=x5_1 h fun x0 x1 x2 x3 x4 h=>x0_4 h (c x0 x1 x2 x3 x4)
theorem x4_6 {α0 α1 α2 α3:Sort _} {p0 p1 p2 p3 p4 p5:α0->α1->α2->α3->Prop} {r:Prop} (h:∃ x0 x1 x2 x3,p0 x0 x1 x2 x3/\p1 x0 x1 x2 x3/\p2 x0 x1 x2 x3/\p3 x0 x1 x2 x3/\p4 x0 x1 x2 x3/\p5 x0 x1 x2 x3) (c:∀ x0 x1 x2 x3,p0 x0 x1 x2 x3->p1 x0 x1 x2 x3->p2 x0 x1 x2 x3->p3 x0 x1 x2 x3->p4 x0 x1 x2 x3->p5 x0 x1 x2 x3->r):r:=x4_1 h fun x0 x1 x2 x3 h=>x0_6 h (c x0 x1 x2 x3)
theorem x5_5 {α0 α1 α2 α3 α4:Sort _} {p0 p1 p2 p3 p4:α0->α1->α2->α3->α4->Prop} {r:Prop} (h:∃ x0 x1 x2 x3 x4,p0 x0 x1 x2 x3 x4/\p1 x0 x1 x2 x3 x4/\p2 x0 x1 x2 x3 x4/\p3 x0 x1 x2 x3 x4/\p4 x0 x1 x2 x3 x4) (c:∀ x0 x1 x2 x3 x4,p0 x0 x1 x2 x3 x4->p1 x0 x1 x2 x3 x4->p2 x0 x1 x2 x3 x4->p3 x0 x1 x2 x3 x4->p4 x0 x1 x2 x3 x4->r):r:=x5_1 h fun x0 x1 x2 x3 x4 h=>x0_5 h (c x0 x1 x2 x3 x4)
theorem x5_6 {α0 α1 α2 α3 α4:Sort _} {p0 p1 p2 p3 p4 p5:α0->α1->α2->α3->α4->Prop} {r:Prop} (h:∃ x0 x1 x2 x3 x4,p0 x0 x1 x2 x3 x4/\p1 x0 x1 x2 x3 x4/\p2 x0 x1 x2 x3 x4/\p3 x0 x1 x2 x3 x4/\p4 x0 x1 x2 x3 x4/\p5 x0 x1 x2 x3 x4) (c:∀ x0 x1 x2 x3 x4,p0 x0 x1 x2 x3 x4->p1 x0 x1 x2 x3 x4->p2 x0 x1 x2 x3 x4->p3 x0 x1 x2 x3 x4->p4 x0 x1 x2 x3 x4->p5 x0 x1 x2 x3 x4->r):r:=x5_1 h fun x0 x1 x2 x3 x4 h=>x0_6 h (c x0 x1 x2 x3 x4)
theorem x8_3 {α0 α1 α2 α3 α4 α5 α6 α7:Sort _} {p0 p1 p2:α0->α1->α2->α3->α4->α5->α6->α7->Prop} {r:Prop} (h:∃ x0 x1 x2 x3 x4 x5 x6 x7,p0 x0 x1 x2 x3 x4 x5 x6 x7/\p1 x0 x1 x2 x3 x4 x5 x6 x7/\p2 x0 x1 x2 x3 x4 x5 x6 x7) (c:∀ x0 x1 x2 x3 x4 x5 x6 x7,p0 x0 x1 x2 x3 x4 x5 x6 x7->p1 x0 x1 x2 x3 x4 x5 x6 x7->p2 x0 x1 x2 x3 x4 x5 x6 x7->r):r:=x8_1 h fun x0 x1 x2 x3 x4 x5 x6 x7 h=>x0_3 h (c x0 x1 x2 x3 x4 x5 x6 x7)
theorem x5_7 {α0 α1 α2 α3 α4:Sort _} {p0 p1 p2 p3 p4 p5 p6:α0->α1->α2->α3->α4->Prop} {r:Prop} (h:∃ x0 x1 x2 x3 x4,p0 x0 x1 x2 x3 x4/\p1 x0 x1 x2 x3 x4/\p2 x0 x1 x2 x3 x4/\p3 x0 x1 x2 x3 x4/\p4 x0 x1 x2 x3 x4/\p5 x0 x1 x2 x3 x4/\p6 x0 x1 x2 x3 x4) (c:∀ x0 x1 x2 x3 x4,p0 x0 x1 x2 x3 x4->p1 x0 x1 x2 x3 x4->p2 x0 x1 x2 x3 x4->p3 x0 x1 x2 x3 x4->p4 x0 x1 x2 x3 x4->p5 x0 x1 x2 x3 x4->p6 x0 x1 x2 x3 x4->r):r:=x5_1 h fun x0 x1 x2 x3 x4 h=>x0_7 h (c x0 x1 x2 x3 x4)
theorem x8_4 {α0 α1 α2 α3 α4 α5 α6 α7:Sort _} {p0 p1 p2 p3:α0->α1->α2->α3->α4->α5->α6->α7->Prop} {r:Prop} (h:∃ x0 x1 x2 x3 x4 x5 x6 x7,p0 x0 x1 x2 x3 x4 x5 x6 x7/\p1 x0 x1 x2 x3 x4 x5 x6 x7/\p2 x0 x1 x2 x3 x4 x5 x6 x7/\p3 x0 x1 x2 x3 x4 x5 x6 x7) (c:∀ x0 x1 x2 x3 x4 x5 x6 x7,p0 x0 x1 x2 x3 x4 x5 x6 x7->p1 x0 x1 x2 x3 x4 x5 x6 x7->p2 x0 x1 x2 x3 x4 x5 x6 x7->p3 x0 x1 x2 x3 x4 x5 x6 x7->r):r:=x8_1 h fun x0 x1 x2 x3 x4 x5 x6 x7 h=>x0_4 h (c x0 x1 x2 x3 x4 x5 x6 x7)
theorem x4_9 {α0 α1 α2 α3:Sort _} {p0 p1 p2 p3 p4 p5 p6 p7 p8:α0->α1->α2->α3->Prop} {r:Prop} (h:∃ x0 x1 x2 x3,p0 x0 x1 x2 x3/\p1 x0 x1 x2 x3/\p2 x0 x1 x2 x3/\p3 x0 x1 x2 x3/\p4 x0 x1 x2 x3/\p5 x0 x1 x2 x3/\p6 x0 x1 x2 x3/\p7 x0 x1 x2 x3/\p8 x0 x1 x2 x3) (c:∀ x0 x1 x2 x3,p0 x0 x1 x2 x3->p1 x0 x1 x2 x3->p2 x0 x1 x2 x3->p3 x0 x1 x2 x3->p4 x0 x1 x2 x3->p5 x0 x1 x2 x3->p6 x0 x1 x2 x3->p7 x0 x1 x2 x3->p8 x0 x1 x2 x3->r):r:=x4_1 h fun x0 x1 x2 x3 h=>x0_9 h (c x0 x1 x2 x3)
theorem x6_7 {α0 α1 α2 α3 α4 α5:Sort _} {p0 p1 p2 p3 p4 p5 p6:α0->α1->α2->α3->α4->α5->Prop} {r:Prop} (h:∃ x0 x1 x2 x3 x4 x5,p0 x0 x1 x2 x3 x4 x5/\p1 x0 x1 x2 x3 x4 x5/\p2 x0 x1 x2 x3 x4 x5/\p3 x0 x1 x2 x3 x4 x5/\p4 x0 x1 x2 x3 x4 x5/\p5 x0 x1 x2 x3 x4 x5/\p6 x0 x1 x2 x3 x4 x5) (c:∀ x0 x1 x2 x3 x4 x5,p0 x0 x1 x2 x3 x4 x5->p1 x0 x1 x2 x3 x4 x5->p2 x0 x1 x2 x3 x4 x5->p3 x0 x1 x2 x3 x4 x5->p4 x0 x1 x2 x3 x4 x5->p5 x0 x1 x2 x3 x4 x5->p6 x0 x1 x2 x3 x4 x5->r):r:=x6_1 h fun x0 x1 x2 x3 x4 x5 h=>x0_7 h (c x0 x1 x2 x3 x4 x5)
theorem x7_6 {α0 α1 α2 α3 α4 α5 α6:Sort _} {p0 p1 p2 p3 p4 p5:α0->α1->α2->α3->α4->α5->α6->Prop} {r:Prop} (h:∃ x0 x1 x2 x3 x4 x5 x6,p0 x0 x1 x2 x3 x4 x5 x6/\p1 x0 x1 x2 x3 x4 x5 x6/\p2 x0 x1 x2 x3 x4 x5 x6/\p3 x0 x1 x2 x3 x4 x5 x6/\p4 x0 x1 x2 x3 x4 x5 x6/\p5 x0 x1 x2 x3 x4 x5 x6) (c:∀ x0 x1 x2 x3 x4 x5 x6,p0 x0 x1 x2 x3 x4 x5 x6->p1 x0 x1 x2 x3 x4 x5 x6->p2 x0 x1 x2 x3 x4 x5 x6->p3 x0 x1 x2 x3 x4 x5 x6->p4 x0 x1 x2 x3 x4 x5 x6->p5 x0 x1 x2 x3 x4 x5 x6->r):r:=x7_1 h fun x0 x1 x2 x3 x4 x5 x6 h=>x0_6 h (c x0 x1 x2 x3 x4 x5 x6)
theorem x3_11 {α0 α1 α2:Sort _} {p0 p1 p2 p3 p4 p5 p6 p7 p8 p9 p10:α0->α1->α2->Prop} {r:Prop} (h:∃ x0 x1 x2,p0 x0 x1 x2/\p1 x0 x1 x2/\p2 x0 x1 x2/\p3 x0 x1 x2/\p4 x0 x1 x2/\p5 x0 x1 x2/\p6 x0 x1 x2/\p7 x0 x1 x2/\p8 x0 x1 x2/\p9 x0 x1 x2/\p10 x0 x1 x2) (c:∀ x0 x1 x2,p0 x0 x1 x2->p1 x0 x1 x2->p2 x0 x1 x2->p3 x0 x1 x2->p4 x0 x1 x2->p5 x0 x1 x2->p6 x0 x1 x2->p7 x0 x1 x2->p8 x0 x1 x2->p9 x0 x1 x2->p10 x0 x1 x2->r):r:=x3_1 h fun x0 x1 x2 h=>x0_11 h (c x0 x1 x2)
theorem x7_8 {α0 α1 α2 α3 α4 α5 α6:Sort _} {p0 p1 p2 p3 p4 p5 p6 p7:α0->α1->α2->α3->α4->α5->α6->Prop} {r:Prop} (h:∃ x0 x1 x2 x3 x4 x5 x6,p0 x0 x1 x2 x3 x4 x5 x6/\p1 x0 x1 x2 x3 x4 x5 x6/\p2 x0 x1 x2 x3 x4 x5 x6/\p3 x0 x1 x2 x3 x4 x5 x6/\p4 x0 x1 x2 x3 x4 x5 x6/\p5 x0 x1 x2 x3 x4 x5 x6/\p6 x0 x1 x2 x3 x4 x5 x6/\p7 x0 x1 x2 x3 x4 x5 x6) (c:∀ x0 x1 x2 x3 x4 x5 x6,p0 x0 x1 x2 x3 x4 x5 x6->p1 x0 x1 x2 x3 x4 x5 x6->p2 x0 x1 x2 x3 x4 x5 x6->p3 x0 x1 x2 x3 x4 x5 x6->p4 x0 x1 x2 x3 x4 x5 x6->p5 x0 x1 x2 x3 x4 x5 x6->p6 x0 x1 x2 x3 x4 x5 x6->p7 x0 x1 x2 x3 x4 x5 x6->r):r:=x7_1 h fun x0 x1 x2 x3 x4 x5 x6 h=>x0_8 h (c x0 x1 x2 x3 x4 x5 x6)
theorem x8_7 {α0 α1 α2 α3 α4 α5 α6 α7:Sort _} {p0 p1 p2 p3 p4 p5 p6:α0->α1->α2->α3->α4->α5->α6->α7->Prop} {r:Prop} (h:∃ x0 x1 x2 x3 x4 x5 x6 x7,p0 x0 x1 x2 x3 x4 x5 x6 x7/\p1 x0 x1 x2 x3 x4 x5 x6 x7/\p2 x0 x1 x2 x3 x4 x5 x6 x7/\p3 x0 x1 x2 x3 x4 x5 x6 x7/\p4 x0 x1 x2 x3 x4 x5 x6 x7/\p5 x0 x1 x2 x3 x4 x5 x6 x7/\p6 x0 x1 x2 x3 x4 x5 x6 x7) (c:∀ x0 x1 x2 x3 x4 x5 x6 x7,p0 x0 x1 x2 x3 x4 x5 x6 x7->p1 x0 x1 x2 x3 x4 x5 x6 x7->p2 x0 x1 x2 x3 x4 x5 x6 x7->p3 x0 x1 x2 x3 x4 x5 x6 x7->p4 x0 x1 x2 x3 x4 x5 x6 x7->p5 x0 x1 x2 x3 x4 x5 x6 x7->p6 x0 x1 x2 x3 x4 x5 x6 x7->r):r:=x8_1 h fun x0 x1 x2 x3 x4 x5 x6 x7 h=>x0_7 h (c x0 x1 x2 x3 x4 x5 x6 x7)
end Mine
namespace Mine
open Lean in
local macro_rules
 | `(tactic| rw [$rs,*]) => do
  let mut a:Array (TSyntax `tactic):=#[]
  for r in rs.getElems do
   let t:TSyntax `term:=⟨r.raw[1]⟩
   let e <- if r.raw[0].isNone then pure t else `(Eq.symm $t)
   a := a.push (<- `(tactic| first | refine Mine.rwE $e ?_ | rewrite [$r:rwRule]))
  `(tactic| ($[$a:tactic];*; try with_reducible rfl))
open Lean in
local macro_rules
 | `(tactic| lia) => do
  let mut a:Array (TSyntax `tactic):=#[]
  for n in [`tnS, `tnD, `sbE, `sbF, `fuP] do a := a.push (<- `(tactic| with_reducible exact $(mkIdent n) (by assumption)))
  for n in [`tnP, `tnL, `nbL] do a := a.push (<- `(tactic| ((with_reducible apply $(mkIdent n)) <;> first | assumption | lia)))
  for n in [`ltI, `leI, `ltN, `leN] do a := a.push (<- `(tactic| (refine $(mkIdent n) fun _ => ?_; lia)))
  `(tactic| first $[| $a:tactic]*)
open Lean Lean.Parser.Tactic in
local macro_rules
 | `(tactic| obtain ⟨$ps,*⟩ := $e:term) => do
  let n:=ps.getElems.size
  let mut ts:Array (TSyntax `tactic):=#[]
  if e.raw.isIdent then ts := ts.push (<- `(tactic| try clear $(⟨e.raw⟩):ident))
  for p in ps.getElems do
   let m:TSyntax ``rcasesPatMed:=⟨p.raw[0]⟩
   ts := ts.push (<- `(tactic| rintro ($m:rcasesPatMed)))
  let mut alts:Array (TSyntax `tactic):=#[]
  for i in [0:n] do alts := alts.push (<- `(tactic| refine $(mkIdent (Name.mkSimple s!"x{n - 1 - i}_{i + 1}")) $e ?_))
  `(tactic| first | ((first $[| $alts:tactic]*); $ts;*) | rcases $e:term with ⟨$ps,*⟩)
section
open PySem PySem.W PySem.Calls PyProof.Rows
theorem obx {α β:Type} {o:Option α} {f:α->Option β} {b:β} (h:o.bind f=some b):∃ a,o=some a/\f a=some b:=Option.bind_eq_some_iff.mp h
theorem omx {α β:Type} {o:Option α} {f:α->β} {b:β} (h:o.map f=some b):∃ a,o=some a/\f a=b:=Option.map_eq_some_iff.mp h
inductive All2 {α β:Type} (R:α->β->Prop):List α->List β->Prop
 | nil:All2 R [] []
 | cons {a b l l'}:R a b->All2 R l l'->All2 R (a :: l) (b :: l')
theorem All2.mono {α β:Type} {R R':α->β->Prop} (h:∀ a b,R a b->R' a b) {l:List α} {l':List β} (x:All2 R l l'):All2 R' l l':=by
 induction x with
 | nil=>exact .nil
 | cons a _ ih=>exact .cons (h _ _ a) ih
theorem All2.length {α β:Type} {R:α->β->Prop} {l:List α} {l':List β} (x:All2 R l l'):l.length=l'.length:=by
 induction x with
 | nil=>rfl
 | cons _ _ ih=>exact congrArg (·+1) ih
theorem All2.get {α β:Type} {R:α->β->Prop} {l:List α} {l':List β} (x:All2 R l l'):∀ {i:Nat} {a},l[i]?=some a->∃ b,l'[i]?=some b/\R a b:=by
 induction x with
 | nil=>intro i a e;cases e
 | cons x y ih=>
  intro i a e
  cases i with
  | zero=>cases e;exact ⟨_,rfl,x⟩
  | succ i=>exact ih e
theorem All2.set {α β:Type} {R:α->β->Prop} {l:List α} {l':List β} (x:All2 R l l'):∀ {i:Nat} {a b},R a b->All2 R (l.set i a) (l'.set i b):=by
 induction x with
 | nil=>exact fun _=>.nil
 | cons x y ih=>
  intro i a b r
  cases i with
  | zero=>exact .cons r y
  | succ i=>exact .cons x (ih r)
theorem All2.append {α β:Type} {R:α->β->Prop} {l:List α} {l':List β} {m:List α} {m':List β} (x:All2 R l l') (y:All2 R m m'):All2 R (l ++ m) (l' ++ m'):=by
 induction x with
 | nil=>exact y
 | cons a _ ih=>exact .cons a ih
inductive Val where
 | none
 | bool (b:Bool)
 | int (i:Int)
 | str (x:Str)
 | ref (i:Nat)
 | fn (a:Addr)
inductive Ob where
 | gone
 | list (xs:List Val)
 | tup (xs:List Val)
 | inst (C:Addr) (fs:List (String×Val))
set_option genInjectivity false in
structure Sto where
 n:Nat
 get:Nat->Ob
noncomputable def Sto.put (σ:Sto) (i:Nat) (o:Ob):Sto:=⟨σ.n,fun j=>if j=i then o else σ.get j⟩
noncomputable def Sto.push (σ:Sto) (o:Ob):Sto:=⟨σ.n+1,fun j=>if j=σ.n then o else σ.get j⟩
noncomputable abbrev Map:=Nat->Nat->Addr
noncomputable def VR (ρ:Map) (n:Nat):Val->Value->Prop
 | .none,v=>v=.none
 | .bool b,v=>v=.bool b
 | .int i,v=>∃ t,v=.int i t
 | .str x,v=>∃ t,v=.str x t
 | .ref i,v=>i<n/\v=.ref (ρ i 0)
 | .fn a,v=>v=.ref a
noncomputable def nc:Ob->Nat
 | .gone=>0
 | .list _=>1
 | .tup _=>1
 | .inst ..=>2
noncomputable abbrev FR (ρ:Map) (n:Nat):List (String×Val)->List DictEntry->Prop:=
 All2 fun f e=>(∃ t,e.key=.str (Str.ofString f.1) t)/\VR ρ n f.2 e.val
noncomputable def Holds (ρ:Map) (n:Nat) (h:Heap) (i:Nat):Ob->Prop
 | .gone=>True
 | .list xs=>∃ vs:List Value,h.PlainList (ρ i 0) vs.toArray/\All2 (VR ρ n) xs vs
 | .tup xs=>∃ vs:List Value,IsTup h (ρ i 0) vs.toArray/\All2 (VR ρ n) xs vs
 | .inst C fs=>h.get? (ρ i 0)=some (instObj C (ρ i 1))/\∃ es ep,h.get? (ρ i 1)=some (dictOf es ep)/\FR ρ n fs es
noncomputable def Own (ρ:Map) (σ:Sto) (a:Addr):Prop:=∃ i k,i<σ.n/\k<nc (σ.get i)/\ρ i k=a
structure Rel (base:Heap) (ρ:Map) (σ:Sto) (h:Heap):Prop where
 stays:∀ a o,base.get? a=some o->h.get? a=some o
 hold:∀ i,i<σ.n->Holds ρ σ.n h i (σ.get i)
 inj:∀ i k j l,i<σ.n->j<σ.n->k<nc (σ.get i)->l<nc (σ.get j)->ρ i k=ρ j l->i=j/\k=l
 above:∀ a,Own ρ σ a->base.objs.size<=a
 size:base.objs.size<=h.objs.size
structure Stat (K:Frag) (base:Heap) (mg mb:Str->Option Value):Prop where
 X:K.In base
 g:base.Ns mainGlobals mg
 b:base.Ns builtinsNs mb
 nolimit:base.NoLimit
 builtins:∀ x:Str,x ≠ "__name__"->mb x=bootBuiltins x
set_option genInjectivity false in
structure G0 where
 prog:Program
 w:World
 K:Frag
 base:Heap
 mg:Str->Option Value
 mb:Str->Option Value
 ok:Stat K base mg mb
structure After (base:Heap) (X:Addr->Prop) (ρ:Map) (σ:Sto) (s:Shared) (ρ':Map) (σ':Sto) (s':Shared):Prop where
 rel:Rel base ρ' σ' s'.heap
 le:σ.n<=σ'.n
 agree:∀ i,i<σ.n->ρ' i=ρ i
 shape:∀ i,i<σ.n->nc (σ'.get i)=nc (σ.get i)
 kept:∀ a o,¬ X a->¬ Own ρ σ a->s.heap.get? a=some o->s'.heap.get? a=some o
 new:∀ i k,σ.n<=i->i<σ'.n->k<nc (σ'.get i)->s.heap.objs.size<=ρ' i k
 size:s.heap.objs.size<=s'.heap.objs.size
 gens:∀ (j:Nat) (x:GenState),s.gens[j]?=some x->s'.gens[j]?=some x
 bare:AllBare s.gens->AllBare s'.gens
 os:s'.os=s.os
noncomputable abbrev noX:Addr->Prop:=fun _=>False
section
variable {base:Heap} {X Y:Addr->Prop} {ρ ρ₁ ρ₂:Map} {σ σ₁ σ₂:Sto} {s s₁ s₂:Shared}
theorem After.refl (R:Rel base ρ σ s.heap):After base X ρ σ s ρ σ s:=
 ⟨R,Nat.le_refl _,fun _ _=>rfl,fun _ _=>rfl,fun _ _ _ _ e=>e,fun i _ h h'=>absurd h' (Nat.not_lt.mpr h),Nat.le_refl _,fun _ _ e=>e,id,rfl⟩
theorem After.own_back (a:After base X ρ σ s ρ₁ σ₁ s₁) {x:Addr} (h:Own ρ₁ σ₁ x) (hlt:x<s.heap.objs.size):Own ρ σ x:=by
 obtain ⟨i,k,hi,hk,e⟩:=h
 by_cases q:i<σ.n
 ·exact ⟨i,k,q,a.shape i q▸hk,by rw [<- a.agree i q];exact e⟩
 ·exact absurd (Nat.lt_of_le_of_lt (a.new i k (Nat.not_lt.mp q) hi hk) (e▸hlt)) (Nat.lt_irrefl _)
theorem After.own (a:After base X ρ σ s ρ₁ σ₁ s₁) {x:Addr} (h:Own ρ σ x):Own ρ₁ σ₁ x:=by
 obtain ⟨i,k,hi,hk,e⟩:=h
 exact ⟨i,k,Nat.lt_of_lt_of_le hi a.le,(a.shape i hi).symm▸hk,by rw [a.agree i hi];exact e⟩
theorem After.trans (a:After base X ρ σ s ρ₁ σ₁ s₁) (b:After base X ρ₁ σ₁ s₁ ρ₂ σ₂ s₂):After base X ρ σ s ρ₂ σ₂ s₂ where
 rel:=b.rel
 le:=Nat.le_trans a.le b.le
 agree i h:=(b.agree i (Nat.lt_of_lt_of_le h a.le)).trans (a.agree i h)
 shape i h:=(b.shape i (Nat.lt_of_lt_of_le h a.le)).trans (a.shape i h)
 kept x o hX hO e:=b.kept x o hX (fun q=>hO (a.own_back q (Heap.lt_size e))) (a.kept x o hX hO e)
 new i k h1 h2 h3:=by
  by_cases q:i<σ₁.n
  ·rw [b.shape i q] at h3;rw [b.agree i q];exact a.new i k h1 q h3
  ·exact Nat.le_trans a.size (b.new i k (Nat.not_lt.mp q) h2 h3)
 size:=Nat.le_trans a.size b.size
 gens j x e:=b.gens j x (a.gens j x e)
 bare h:=b.bare (a.bare h)
 os:=b.os.trans a.os
theorem After.weaken (a:After base X ρ σ s ρ₁ σ₁ s₁) (h:∀ x,X x->Y x):After base Y ρ σ s ρ₁ σ₁ s₁:=
 ⟨a.rel,a.le,a.agree,a.shape,fun x o hX=>a.kept x o fun q=>hX (h x q),a.new,a.size,a.gens,a.bare,a.os⟩
theorem After.drop (a:After base X ρ σ s ρ₁ σ₁ s₁) (h:∀ x,X x->Y x\/s.heap.objs.size<=x):After base Y ρ σ s ρ₁ σ₁ s₁:=
 ⟨a.rel,a.le,a.agree,a.shape,fun x o hX hO e=>a.kept x o (fun q=>(h x q).elim hX fun z=>absurd (Heap.lt_size e) (Nat.not_lt.mpr z)) hO e,a.new,a.size,a.gens,a.bare,a.os⟩
theorem VR.mono {n n':Nat} {v:Val} {val:Value} (h:VR ρ n v val) (hn:n<=n') (ha:∀ i,i<n->ρ₁ i=ρ i):VR ρ₁ n' v val:=by
 cases v<;>try exact h
 exact ⟨Nat.lt_of_lt_of_le h.1 hn,by rw [ha _ h.1];exact h.2⟩
theorem VR.after {v:Val} {val:Value} (h:VR ρ σ.n v val) (a:After base X ρ σ s ρ₁ σ₁ s₁):VR ρ₁ σ₁.n v val:=h.mono a.le a.agree
theorem VRs.after {v:List Val} {val:List Value} (h:All2 (VR ρ σ.n) v val) (a:After base X ρ σ s ρ₁ σ₁ s₁):All2 (VR ρ₁ σ₁.n) v val:=h.mono fun _ _ x=>x.after a
theorem Holds.move {n:Nat} {h h':Heap} {i:Nat} {o:Ob} (H:Holds ρ n h i o) (hk:∀ k,k<nc o->∀ x,h.get? (ρ i k)=some x->h'.get? (ρ i k)=some x):Holds ρ n h' i o:=by
 cases o with
 | gone=>trivial
 | list xs=>obtain ⟨vs,⟨o,e⟩,r⟩:=H;exact ⟨vs,⟨o,hk 0 (by simp [nc]) _ e⟩,r⟩
 | tup xs=>obtain ⟨vs,⟨o,e,q⟩,r⟩:=H;exact ⟨vs,⟨o,hk 0 (by simp [nc]) _ e,q⟩,r⟩
 | inst C fs=>obtain ⟨e,es,ep,e',r⟩:=H;exact ⟨hk 0 (by simp [nc]) _ e,es,ep,hk 1 (by simp [nc]) _ e',r⟩
theorem Holds.mono {n n':Nat} {h:Heap} {i:Nat} {o:Ob} (H:Holds ρ n h i o) (hi:i<n) (hn:n<=n') (ha:∀ i,i<n->ρ₁ i=ρ i):Holds ρ₁ n' h i o:=by
 cases o with
 | gone=>trivial
 | list xs=>obtain ⟨vs,e,r⟩:=H;exact ⟨vs,by rw [ha i hi];exact e,r.mono fun _ _ x=>x.mono hn ha⟩
 | tup xs=>obtain ⟨vs,e,r⟩:=H;exact ⟨vs,by rw [ha i hi];exact e,r.mono fun _ _ x=>x.mono hn ha⟩
 | inst C fs=>obtain ⟨e,es,ep,e',r⟩:=H;exact ⟨by rw [ha i hi];exact e,es,ep,by rw [ha i hi];exact e',r.mono fun _ _ x=>⟨x.1,x.2.mono hn ha⟩⟩
theorem Rel.move {h h':Heap} (R:Rel base ρ σ h) (hb:∀ a o,base.get? a=some o->h'.get? a=some o) (hk:∀ a,Own ρ σ a->∀ x,h.get? a=some x->h'.get? a=some x) (hz:h.objs.size<=h'.objs.size):Rel base ρ σ h':=
 ⟨hb,fun i hi=>(R.hold i hi).move fun k hk' x e=>hk _ ⟨i,k,hi,hk',rfl⟩ x e,R.inj,R.above,Nat.le_trans R.size hz⟩
theorem After.frame {a:Addr} {h':Heap} {t:Nat} (R:Rel base ρ σ s.heap) (hO:¬ Own ρ σ a) (hb:base.objs.size<=a) (hz:s.heap.objs.size<=h'.objs.size)
  (hk:∀ b o,b≠a->s.heap.get? b=some o->h'.get? b=some o):After base (fun x=>x=a) ρ σ s ρ σ { s with heap:=h',toks:=t }:=
 ⟨R.move (fun b o e=>hk b o (fun q=>absurd (Heap.lt_size e) (Nat.not_lt.mpr (q▸hb))) (R.stays b o e)) (fun b ho x e=>hk b x (fun q=>hO (q▸ho)) e) hz,Nat.le_refl _,fun _ _=>rfl,fun _ _=>rfl,
  fun b o hX _ e=>hk b o hX e,fun i _ h h'=>absurd h' (Nat.not_lt.mpr h),hz,fun _ _ e=>e,id,rfl⟩
theorem After.grow {h':Heap} {t:Nat} (R:Rel base ρ σ s.heap) (hz:s.heap.objs.size<=h'.objs.size)
  (hk:∀ b o,s.heap.get? b=some o->h'.get? b=some o):After base X ρ σ s ρ σ { s with heap:=h',toks:=t }:=
 ⟨R.move (fun b o e=>hk b o (R.stays b o e)) (fun b _ x e=>hk b x e) hz,Nat.le_refl _,fun _ _=>rfl,fun _ _=>rfl,
  fun b o _ _ e=>hk b o e,fun i _ h h'=>absurd h' (Nat.not_lt.mpr h),hz,fun _ _ e=>e,id,rfl⟩
theorem After.toks {t:Nat} (R:Rel base ρ σ s.heap):After base X ρ σ s ρ σ { s with toks:=t }:=After.grow (h':=s.heap) R (Nat.le_refl _) fun _ _ e=>e
end
open Lean in
local macro_rules
 | `(tactic| simp [$ls,*]) => do
  let mut alts : Array (TSyntax `tactic) := #[<- `(tactic| exact (rfl : (_ : Option Mine.Val) = _))]
  for l in ls.getElems do
   match l with
   | `(Lean.Parser.Tactic.simpLemma| $e:term) => alts := alts.push (<- `(tactic| exact ($e : (_ : Option Mine.Val) = _)))
   | _=>pure ()
  alts := alts.push (<- `(tactic| fail))
  `(tactic| first $[| $alts:tactic]*)
theorem kZ {M:Model} {Γ:Ctx} {p:Pos} {t:Sem Fin} {fs:List Frame} {s s':Shared} {e:End} (h:Runs M Γ p t fs s e s'):s.heap.objs.size<=s'.heap.objs.size:=by
 induction h with
 | done=>exact Nat.le_refl _
 | raise=>exact Nat.le_refl _
 | yield=>exact Nat.le_refl _
 | again _ _ ih=>exact ih
 | rule _ ih=>exact ih
 | «at» _ ih=>exact ih
 | load _ _ ih=>exact ih
 | update _ _ ih=>exact Nat.le_trans (Nat.le_of_eq (Heap.size_after_update ..).symm) ih
 | loadIfAlive _ ih=>exact ih
 | point _ ih=>exact ih
 | alloc _ ih=>exact Nat.le_trans (by show _<=(Heap.push _ _).objs.size;rw [Heap.size_push];exact Nat.le_succ _) ih
 | fresh _ ih=>exact ih
 | ask _ ih=>exact ih
 | choose _ _ ih=>exact ih
 | os _ ih=>exact ih
 | handled _ ih=>exact ih
 | genState _ _ ih=>exact ih
 | stack _ ih=>exact ih
 | thread _ ih=>exact ih
 | newGen _ ih=>exact ih
 | call _ _ ih1 ih2=>exact Nat.le_trans ih1 ih2
 | callSusp _ ih=>exact ih
 | resumeFresh _ _ _ _ ih1 ih2=>exact Nat.le_trans ih1 ih2
 | resumeSuspended _ _ _ _ ih1 ih2=>exact Nat.le_trans ih1 ih2
 | resumeJustStarted _ _ _ ih=>exact ih
 | resumeThrowFresh _ _ ih=>exact ih
 | resumeRunning _ _ ih=>exact ih
 | resumeFinished _ _ ih=>exact ih
 | segRet _ _ ih1 ih2=>exact Nat.le_trans ih1 ih2
 | segGen _ _ ih1 ih2=>exact Nat.le_trans ih1 ih2
 | segSuspOut _ _ ih=>exact ih
 | segSuspGen _ _ _ _ ih1 ih2=>exact Nat.le_trans ih1 ih2
theorem wp_size {α:Type} {M:Model} {Γ:Ctx} {E:Value->Pos->Shared->Prop} (t:Sem α):∀ {Q:α->Pos->Shared->Prop} {p:Pos} {s:Shared},Sem.wp M Γ t Q E p s->
  Sem.wp M Γ t (fun a p' s'=>s.heap.objs.size<=s'.heap.objs.size/\Q a p' s') E p s:=by
 have up:∀ {t:Sem α} {Q:α->Pos->Shared->Prop} {p:Pos} {s s₁:Shared},s.heap.objs.size<=s₁.heap.objs.size->Sem.wp M Γ t (fun a p' s'=>s₁.heap.objs.size<=s'.heap.objs.size/\Q a p' s') E p s₁->Sem.wp M Γ t (fun a p' s'=>s.heap.objs.size<=s'.heap.objs.size/\Q a p' s') E p s₁:=
  fun hz h=>Sem.wp_mono M Γ _ (fun a p' s' q=>⟨Nat.le_trans hz q.1,q.2⟩) (fun _ _ _ q=>q) _ _ h
 induction t with
 | pure a=>intro Q p s h;exact ⟨Nat.le_refl _,h⟩
 | raise x=>intro Q p s h;exact h
 | unsupported what=>intro Q p s h;exact h
 | finish x=>intro Q p s h;exact h
 | register a k=>intro Q p s h;exact h
 | yield v g l k=>intro Q p s h;exact h
 | fork c k=>intro Q p s h;exact h
 | await a f d l k=>intro Q p s h;exact h
 | rule tag k ih=>intro Q p s h;exact ih () h
 | «at» p' k ih=>intro Q p s h;exact ih () h
 | load a part k ih=>intro Q p s h;obtain ⟨o,ho,h⟩:=h;exact ⟨o,ho,ih o h⟩
 | update a part f k ih=>intro Q p s h;exact ⟨h.1,up (Nat.le_of_eq (Heap.size_after_update ..).symm) (ih () h.2)⟩
 | alloc o k ih=>
  intro Q p s h
  have z:s.heap.objs.size<=(s.heap.push o).objs.size:=by rw [Heap.size_push];exact Nat.le_succ _
  exact up (s₁:={ s with heap:=s.heap.push o }) (t:=k s.heap.objs.size) z (ih _ h)
 | loadIfAlive a k ih=>intro Q p s h;exact ih _ h
 | point l k ih=>intro Q p s h;exact ih () h
 | fresh k ih=>intro Q p s h;exact up (Nat.le_refl _) (ih _ h)
 | ask k ih=>intro Q p s h;exact ih _ h
 | choose src n k ih=>intro Q p s h;exact ⟨h.1,up (Nat.le_refl _) (ih _ h.2)⟩
 | os q l k ih=>intro Q p s h;exact up (Nat.le_refl _) (ih _ h)
 | call c h g l k ih=>intro Q p s hw;obtain ⟨r,s₁,hret,hw⟩:=hw;exact ⟨r,s₁,hret,up (kZ hret) (ih r hw)⟩
 | handled own k ih=>intro Q p s h;exact ih _ h
 | newGen c k ih=>intro Q p s h;exact up (Nat.le_refl _) (ih _ h)
 | genState g k ih=>intro Q p s h;obtain ⟨st,hg,h⟩:=h;exact ⟨st,hg,ih _ h⟩
 | resume g r l k ih=>
  intro Q p s h;obtain ⟨res,s₁,hw,h⟩:=h
  refine ⟨res,s₁,hw,up ?_ (ih res h)⟩
  unfold Wakes at hw
  cases q:s.gens[g]? with
  | none=>rw [q] at hw;exact hw.elim
  | some z=>
   rw [q] at hw
   cases z with
   | running=>rw [hw.2];exact Nat.le_refl _
   | finished=>rw [hw.2];exact Nat.le_refl _
   | suspended=>obtain ⟨e₁,s₂,hr,_,_,rfl⟩:=hw;exact (kZ hr:(s.setGen g GenState.running).heap.objs.size<=_)
   | fresh c=>
    cases r with
    | throw x=>rw [hw.2];exact Nat.le_refl _
    | send v=>
     cases v with
     | none=>obtain ⟨e₁,s₂,hr,_,_,rfl⟩:=hw;exact (kZ hr:(s.setGen g GenState.running).heap.objs.size<=_)
     | _=>rw [hw.2];exact Nat.le_refl _
 | stack k ih=>intro Q p s h;exact ih _ h
 | thread k ih=>intro Q p s h;exact ih _ h
theorem cV {α:Type} {M:Model} {A:Around} {t:Sem α} {Q:α->Shared->Prop} {E:Value->Shared->Prop} {s:Shared} (h:wpAny M A t (fun a s'=>s.heap.objs.size<=s'.heap.objs.size->Q a s') E s):wpAny M A t Q E s:=
 fun Γ p hΓ=>Sem.wp_mono M Γ t (fun _ _ _ q=>q.2 q.1) (fun _ _ _ q=>q) p s (wp_size t (h Γ p hΓ))
theorem eD {a b:String} (h:Str.ofString a=Str.ofString b):a=b:=by
 rw [Str.ofString_eq_toList,Str.ofString_eq_toList] at h
 have h1:a.toList.map Char.toNat=b.toList.map Char.toNat:=by simpa using h
 have h2:a.toList=b.toList:=by
  refine List.map_inj_right (f:=Char.toNat) ?_ |>.mp h1
  intro x y e
  have:x.val=y.val:=UInt32.toNat_inj.mp e
  exact Char.ext this
 exact String.toList_inj.mp h2
noncomputable abbrev Loc:=String->Option Val
noncomputable def Loc.put (l:Loc) (x:String) (v:Val):Loc:=fun y=>if y=x then some v else l y
noncomputable def VarAt (env:Env) (m:Str->Option Value) (h:Heap) (x:Str) (val:Value):Prop:=
 (env.kindOf x=some .local/\m x=some val)\/((env.kindOf x=some .cell\/env.kindOf x=some .free)/\∃ c o,env.cells.lookup x=some c/\h.get? c=some o/\o.data=.cell (some val))
noncomputable def Locs (ρ:Map) (n:Nat) (env:Env) (lm:Loc) (h:Heap):Prop:=
 ∃ m,h.Ns env.locals m/\∀ x v,lm x=some v->∃ val,VarAt env m h (Str.ofString x) val/\VR ρ n v val
noncomputable def aE (env:Env) (a:Addr):Prop:=a=env.locals\/∃ x,env.cells.lookup x=some a
structure Here (base:Heap) (env:Env) (lm:Loc) (ρ:Map) (σ:Sto) (s:Shared):Prop where
 rel:Rel base ρ σ s.heap
 locs:Locs ρ σ.n env lm s.heap
 own:∀ a,aE env a->¬ Own ρ σ a
 low:∀ a,aE env a->base.objs.size<=a
 lt:∀ a,aE env a->a<s.heap.objs.size
 sep:∀ x c,env.cells.lookup x=some c->c≠env.locals
 one:∀ x y c,env.cells.lookup x=some c->env.cells.lookup y=some c->x=y
 cel:∀ x c,env.cells.lookup x=some c->∃ v,s.heap.IsCell c v
 has:∀ x,env.kindOf x=some .cell->∃ c,env.cells.lookup x=some c
section
variable {base:Heap} {env:Env} {lm:Loc} {ρ ρ':Map} {σ σ':Sto} {s s':Shared} {X:Addr->Prop}
theorem Here.after (H:Here base env lm ρ σ s) (a:After base X ρ σ s ρ' σ' s') (hX:∀ x,aE env x->¬ X x):Here base env lm ρ' σ' s':=by
 refine ⟨a.rel,?locs,fun x hx q=>H.own x hx (a.own_back q (H.lt x hx)),H.low,fun x hx=>Nat.lt_of_lt_of_le (H.lt x hx) a.size,H.sep,H.one,?cel,H.has⟩
 case cel=>
  intro x c hc
  obtain ⟨v,o,ho,hd⟩:=H.cel x c hc
  exact ⟨v,o,a.kept c o (hX c (.inr ⟨x,hc⟩)) (H.own c (.inr ⟨x,hc⟩)) ho,hd⟩
 obtain ⟨m,ns,hv⟩:=H.locs
 have k:∀ x o,aE env x->s.heap.get? x=some o->s'.heap.get? x=some o:=fun x o hx e=>a.kept x o (hX x hx) (H.own x hx) e
 obtain ⟨oL,es,ep,hL,r⟩:=ns
 refine ⟨m,⟨oL,es,ep,k _ _ (.inl rfl) hL,r⟩,fun x v hl=>?_⟩
 obtain ⟨val,va,vr⟩:=hv x v hl
 refine ⟨val,?_,vr.after a⟩
 rcases va with va | ⟨kd,c,o,hc,ho,hd⟩
 ·exact .inl va
 ·exact .inr ⟨kd,c,o,hc,k _ _ (.inr ⟨_,hc⟩) ho,hd⟩
theorem Here.step (H:Here base env lm ρ σ s) (a:After base noX ρ σ s ρ' σ' s'):Here base env lm ρ' σ' s':=H.after a fun _ _ h=>h
end
noncomputable def Room (A:Around) (d:Nat):Prop:=A.depth+d<=600/\A.units+60*d<=9000/\A.handled=none
theorem Room.in1 {A:Around} {d:Nat} (h:Room A (d+1)):Room A.in1 d:=⟨by have:=h.1;show A.depth+d<=600;lia,by have:=h.2.1;show A.units+1+60*d<=9000;lia,h.2.2⟩
theorem Room.deeper {A:Around} {d:Nat} {env:Env} (h:Room A (d+1)):Room (A.deeper env) d:=⟨by have:=h.1;show A.depth+1+d<=600;lia,by have:=h.2.1;show A.units+3+60*d<=9000;lia,h.2.2⟩
theorem Room.mono {A:Around} {d d':Nat} (h:Room A d) (hd:d'<=d):Room A d':=⟨by have:=h.1;lia,by have:=h.2.1;lia,h.2.2⟩
theorem Room.limit {A:Around} {d:Nat} (h:Room A d):A.depth<recursionLimit:=by have:=h.1;unfold recursionLimit;lia
noncomputable abbrev EF:=Loc->Sto->Option (Val×Sto)
noncomputable abbrev TF:=Loc->Sto->Option (Bool×Sto)
noncomputable abbrev LF:=Loc->Sto->Option (List Val×Sto)
set_option genInjectivity false in
structure Vx where
 qual:Str
 L:Addr
 func:Option Addr
 cd:Value
 cells:List (Str×Addr)
 frame:Option Addr
noncomputable abbrev Vx.env (sc:Scope) (x:Vx):Env:={ scope:=sc,locals:=x.L,globals:=mainGlobals,cells:=x.cells,qual:=x.qual,func:=x.func,code:=x.cd,frame:=x.frame,builtins:=builtinsNs }
noncomputable abbrev vx (q:Str) (L fa:Addr) (cdv:Value) (cl:List (Str×Addr)):Vx:=⟨q ++ ".<locals>.",L,some fa,cdv,cl,some L⟩
noncomputable def SE (G:G0) (sc:Scope) (d:Nat) (e:Expr) (f:EF):Prop:=
 ∀ (x:Vx) (A:Around) (lm:Loc) (ρ:Map) (σ:Sto) (s:Shared) (v:Val) (σ':Sto) (Q:Value->Shared->Prop) (E:Value->Shared->Prop),
  Room A d->Here G.base (x.env sc) lm ρ σ s->f lm σ=some (v,σ')->
  (∀ ρ' s' val,After G.base noX ρ σ s ρ' σ' s'->VR ρ' σ'.n v val->Q val s')->wpAny (model G.prog G.w) A (eval e (x.env sc)) Q E s
noncomputable def ST (G:G0) (sc:Scope) (d:Nat) (e:Expr) (f:TF):Prop:=
 ∀ (x:Vx) (A:Around) (lm:Loc) (ρ:Map) (σ:Sto) (s:Shared) (b:Bool) (σ':Sto) (Q:Bool->Shared->Prop) (E:Value->Shared->Prop),
  Room A d->Here G.base (x.env sc) lm ρ σ s->f lm σ=some (b,σ')->
  (∀ ρ' s',After G.base noX ρ σ s ρ' σ' s'->Q b s')->wpAny (model G.prog G.w) A (isTrue e (x.env sc) (eval e (x.env sc))) Q E s
noncomputable def SL (G:G0) (sc:Scope) (d:Nat) (es:List Expr) (f:LF):Prop:=
 ∀ (x:Vx) (pos:Pos) (A:Around) (lm:Loc) (ρ:Map) (σ:Sto) (s:Shared) (v:List Val) (σ':Sto) (Q:List Value->Shared->Prop) (E:Value->Shared->Prop),
  Room A d->Here G.base (x.env sc) lm ρ σ s->f lm σ=some (v,σ')->
  (∀ ρ' s' val,After G.base noX ρ σ s ρ' σ' s'->All2 (VR ρ' σ'.n) v val->Q val s')->wpAny (model G.prog G.w) A (spliced (backTo pos (starEach es (x.env sc)))) Q E s
noncomputable abbrev FF:=List Val->Sto->Option (Val×Sto)
noncomputable def FnOK (G:G0) (d:Nat) (fa:Addr) (g:FF):Prop:=
 ∀ (A:Around) (ρ:Map) (σ:Sto) (s:Shared) (vs:List Val) (vals:List Value) (v:Val) (σ':Sto) (R:Result->Shared->Prop),
  Room A d->Rel G.base ρ σ s.heap->All2 (VR ρ σ.n) vs vals->g vs σ=some (v,σ')->
  (∀ ρ' s' val,After G.base noX ρ σ s ρ' σ' s'->VR ρ' σ'.n v val->R (.ok (.ret val)) s')->codeAny (model G.prog G.w) A (.call (.ref fa) ⟨vals,[]⟩) R s
theorem cH {α:Type} {l:List α} {n:Nat} (h:l.length=n+1):∃ a r,l=a :: r/\r.length=n:=by
 cases l with
 | nil=>cases h
 | cons a r=>exact ⟨a,r,rfl,Nat.succ.inj h⟩
theorem by0 {α:Type} {P:List α->Prop} (h:P []):∀ l:List α,l.length=0->P l:=fun l e=>by
 cases l with | nil=>exact h | cons=>cases e
theorem bz0 {α:Type} {P:List α->Prop} {k m:Nat} (hk:m=0+k) (h:P []):∀ l:List α,l.length+k=m->P l:=fun l e=>by0 h l (Nat.add_right_cancel (e.trans hk))
theorem by1 {α:Type} {P:List α->Prop} (h:∀ a,P [a]):∀ l:List α,l.length=1->P l:=fun l e=>by
 obtain ⟨a0,r0,rfl,e0⟩:=cH (n:=0) e
 rw [List.eq_nil_of_length_eq_zero e0]
 exact h a0
theorem bz1 {α:Type} {P:List α->Prop} {k m:Nat} (hk:m=1+k) (h:∀ a,P [a]):∀ l:List α,l.length+k=m->P l:=fun l e=>by1 h l (Nat.add_right_cancel (e.trans hk))
theorem by2 {α:Type} {P:List α->Prop} (h:∀ a b,P [a,b]):∀ l:List α,l.length=2->P l:=fun l e=>by
 obtain ⟨a0,r0,rfl,e0⟩:=cH (n:=1) e
 obtain ⟨a1,r1,rfl,e1⟩:=cH (n:=0) e0
 rw [List.eq_nil_of_length_eq_zero e1]
 exact h a0 a1
theorem bz2 {α:Type} {P:List α->Prop} {k m:Nat} (hk:m=2+k) (h:∀ a b,P [a,b]):∀ l:List α,l.length+k=m->P l:=fun l e=>by2 h l (Nat.add_right_cancel (e.trans hk))
theorem by3 {α:Type} {P:List α->Prop} (h:∀ a b c,P [a,b,c]):∀ l:List α,l.length=3->P l:=fun l e=>by
 obtain ⟨a0,r0,rfl,e0⟩:=cH (n:=2) e
 obtain ⟨a1,r1,rfl,e1⟩:=cH (n:=1) e0
 obtain ⟨a2,r2,rfl,e2⟩:=cH (n:=0) e1
 rw [List.eq_nil_of_length_eq_zero e2]
 exact h a0 a1 a2
theorem bz3 {α:Type} {P:List α->Prop} {k m:Nat} (hk:m=3+k) (h:∀ a b c,P [a,b,c]):∀ l:List α,l.length+k=m->P l:=fun l e=>by3 h l (Nat.add_right_cancel (e.trans hk))
theorem by4 {α:Type} {P:List α->Prop} (h:∀ a b c d,P [a,b,c,d]):∀ l:List α,l.length=4->P l:=fun l e=>by
 obtain ⟨a0,r0,rfl,e0⟩:=cH (n:=3) e
 obtain ⟨a1,r1,rfl,e1⟩:=cH (n:=2) e0
 obtain ⟨a2,r2,rfl,e2⟩:=cH (n:=1) e1
 obtain ⟨a3,r3,rfl,e3⟩:=cH (n:=0) e2
 rw [List.eq_nil_of_length_eq_zero e3]
 exact h a0 a1 a2 a3
theorem bz4 {α:Type} {P:List α->Prop} {k m:Nat} (hk:m=4+k) (h:∀ a b c d,P [a,b,c,d]):∀ l:List α,l.length+k=m->P l:=fun l e=>by4 h l (Nat.add_right_cancel (e.trans hk))
theorem by5 {α:Type} {P:List α->Prop} (h:∀ a b c d e,P [a,b,c,d,e]):∀ l:List α,l.length=5->P l:=fun l e=>by
 obtain ⟨a0,r0,rfl,e0⟩:=cH (n:=4) e
 obtain ⟨a1,r1,rfl,e1⟩:=cH (n:=3) e0
 obtain ⟨a2,r2,rfl,e2⟩:=cH (n:=2) e1
 obtain ⟨a3,r3,rfl,e3⟩:=cH (n:=1) e2
 obtain ⟨a4,r4,rfl,e4⟩:=cH (n:=0) e3
 rw [List.eq_nil_of_length_eq_zero e4]
 exact h a0 a1 a2 a3 a4
theorem bz5 {α:Type} {P:List α->Prop} {k m:Nat} (hk:m=5+k) (h:∀ a b c d e,P [a,b,c,d,e]):∀ l:List α,l.length+k=m->P l:=fun l e=>by5 h l (Nat.add_right_cancel (e.trans hk))
theorem by6 {α:Type} {P:List α->Prop} (h:∀ a b c d e f,P [a,b,c,d,e,f]):∀ l:List α,l.length=6->P l:=fun l e=>by
 obtain ⟨a0,r0,rfl,e0⟩:=cH (n:=5) e
 obtain ⟨a1,r1,rfl,e1⟩:=cH (n:=4) e0
 obtain ⟨a2,r2,rfl,e2⟩:=cH (n:=3) e1
 obtain ⟨a3,r3,rfl,e3⟩:=cH (n:=2) e2
 obtain ⟨a4,r4,rfl,e4⟩:=cH (n:=1) e3
 obtain ⟨a5,r5,rfl,e5⟩:=cH (n:=0) e4
 rw [List.eq_nil_of_length_eq_zero e5]
 exact h a0 a1 a2 a3 a4 a5
theorem bz6 {α:Type} {P:List α->Prop} {k m:Nat} (hk:m=6+k) (h:∀ a b c d e f,P [a,b,c,d,e,f]):∀ l:List α,l.length+k=m->P l:=fun l e=>by6 h l (Nat.add_right_cancel (e.trans hk))
section
variable {G:G0} {sc:Scope} {d:Nat}
theorem SE.mono {e:Expr} {f:EF} {d':Nat} (h:SE G sc d e f) (hd:d<=d'):SE G sc d' e f:=fun x A lm ρ σ s v σ' Q E r=>h x A lm ρ σ s v σ' Q E (r.mono hd)
theorem FnOK.mono {d d':Nat} {fa:Addr} {g:FF} (h:FnOK G d fa g) (hd:d<=d'):FnOK G d' fa g:=fun A ρ σ s vs vals v σ' R r=>h A ρ σ s vs vals v σ' R (r.mono hd)
noncomputable def kF (v:Val):EF:=fun _ σ=>some (v,σ)
theorem SE.int {i:Int} {k:Nat} {p:Pos}:SE G sc d (.Constant (.int i) k p) (kF (.int i)):=by
 intro x A lm ρ σ s v σ' Q E r H e hQ
 cases e
 exact wpAny_Constant_int (hQ _ _ _ (.toks H.rel) ⟨_,rfl⟩)
theorem SE.str {i:Str} {k:Nat} {p:Pos}:SE G sc d (.Constant (.str i) k p) (kF (.str i)):=by
 intro x A lm ρ σ s v σ' Q E r H e hQ
 cases e
 exact Calls.Constant_str (hQ _ _ _ (.toks H.rel) ⟨_,rfl⟩)
theorem SE.bool {b:Bool} {k:Nat} {p:Pos}:SE G sc d (.Constant (.bool b) k p) (kF (.bool b)):=by
 intro x A lm ρ σ s v σ' Q E r H e hQ
 cases e
 exact wpAny_Constant_bool (hQ _ _ _ (.refl H.rel) rfl)
theorem SE.none {k:Nat} {p:Pos}:SE G sc d (.Constant .none k p) (kF .none):=by
 intro x A lm ρ σ s v σ' Q E r H e hQ
 cases e
 exact wpAny_Constant_none (hQ _ _ _ (.refl H.rel) rfl)
noncomputable def varF (x:String):EF:=fun l σ=>(l x).map fun v=>(v,σ)
noncomputable def eG (sc:Scope) (x:Str) (k:NameKind):Prop:=∀ y:Vx,(y.env sc).kindOf x=some k
theorem SE.name {n:String} {p:Pos} {k:NameKind} (hk:sc.kind=.function) (hx:eG sc (Str.ofString n) k) (hd:(Str.ofString n == ("__debug__":Str))=false) (hc:(Str.ofString n == ("__classdict__":Str))=false) :
  SE G sc d (.Name (Str.ofString n) p) (varF n):=by
 intro x A lm ρ σ s v σ' Q E r H e hQ
 obtain ⟨v₀,hv,he⟩:=omx e
 cases he
 obtain ⟨m,ns,hl⟩:=H.locs
 obtain ⟨val,va,vr⟩:=hl n v hv
 refine wpAny_Name ?_ hd
 rcases va with ⟨kd,hm⟩ | ⟨kd | kd,c,o,hc',ho,hd'⟩
 ·exact wpAny_loadName_local hk kd ns hm (hQ _ _ _ (.refl H.rel) vr)
 ·exact wpAny_loadName_cell hk kd hc' ⟨o,ho,hd'⟩ (hQ _ _ _ (.refl H.rel) vr)
 ·exact wpAny_loadName_free hk kd hc' ⟨o,ho,hd'⟩ (hQ _ _ _ (.refl H.rel) vr) hc
theorem nL {n:String} {p:Pos} (hk:sc.kind=.function:=by rfl) (hx:eG sc (Str.ofString n) .local:=by intro _;rfl) (hd:(Str.ofString n == ("__debug__":Str))=false:=by rfl) (hc:(Str.ofString n == ("__classdict__":Str))=false:=by rfl):SE G sc d (.Name (Str.ofString n) p) (varF n):=SE.name hk hx hd hc
theorem nC {n:String} {p:Pos} (hk:sc.kind=.function:=by rfl) (hx:eG sc (Str.ofString n) .cell:=by intro _;rfl) (hd:(Str.ofString n == ("__debug__":Str))=false:=by rfl) (hc:(Str.ofString n == ("__classdict__":Str))=false:=by rfl):SE G sc d (.Name (Str.ofString n) p) (varF n):=SE.name hk hx hd hc
theorem nF {n:String} {p:Pos} (hk:sc.kind=.function:=by rfl) (hx:eG sc (Str.ofString n) .free:=by intro _;rfl) (hd:(Str.ofString n == ("__debug__":Str))=false:=by rfl) (hc:(Str.ofString n == ("__classdict__":Str))=false:=by rfl):SE G sc d (.Name (Str.ofString n) p) (varF n):=SE.name hk hx hd hc
theorem SE.glob {n:Str} {p:Pos} {a:Addr} (hk:sc.kind=.function:=by rfl) (hx:eG sc n .globalImplicit:=by intro _;rfl) (hd:(n == ("__debug__":Str))=false:=by rfl) (he:nsIn G.K mainGlobals n=some (some (.ref a)):=by kernel_rfl) :
  SE G sc d (.Name n p) (kF (.fn a)):=by
 intro x A lm ρ σ s v σ' Q E r H e hQ
 cases e
 exact Name_function_global (env:=x.env sc) hk (hx x) (loadGlobal_global (env:=x.env sc) (G.ok.g.keeps H.rel.stays) (mg_of G.ok.X G.ok.g he) (hQ _ _ _ (.refl H.rel) rfl)) hd
noncomputable def binI (op:Operator) (a b:Int):Option Val:=match op with
 | .Add=>some (.int (a+b))
 | .Sub=>some (.int (a - b))
 | .Mult=>if a.natAbs<2 ^ 64 then some (.int (a*b)) else none
 | .FloorDiv=>if 0<b/\b<2 ^ 30 then some (.int (a / b)) else none
 | .Mod=>if 0<b then some (.int (a%b)) else none
 | .LShift=>if 0<=b/\b<=1000/\a.natAbs<2 ^ 64 then some (.int (a*2 ^ b.toNat)) else none
 | .RShift=>if 0<=b then some (.int (a / 2 ^ b.toNat)) else none
 | .BitAnd=>some (.int (Builtin.bitAnd a b))
 | .BitOr=>some (.int (Builtin.bitOr a b))
 | .MatMult | .Div | .Pow | .BitXor=>none
noncomputable abbrev toI:Val->Option Int
 | .int a=>some a
 | .none | .bool _ | .str _ | .ref _ | .fn _=>none
noncomputable def binV (op:Operator) (a b:Val):Option Val:=(toI a).bind fun a=>(toI b).bind fun b=>binI op a b
theorem meas {P:Nat->Prop} (h:∀ n,(∀ m,n=m+1->P m)->P n) (n:Nat):P n:=by
 induction n with
 | zero=>exact h 0 fun m e=>nomatch e
 | succ k ih=>exact h _ fun m e=>Nat.succ.inj e▸ih
theorem byC {p:Prop} (h:(p->False)->False):p:=Classical.byContradiction h
theorem noF {α:Type} {a:α} (h:none=some a):False:=nomatch h
theorem eB {v:Val} {a:Int} (h:toI v=some a):v=.int a:=by cases v<;>first | cases h;rfl | exact nomatch h
theorem gB {α:Type} {p:Prop} [Decidable p] {a b:α} (h:(if p then some a else none)=some b):p/\a=b:=by
 by_cases q:p
 ·rw [if_pos q] at h;exact ⟨q,Option.some.inj h⟩
 ·rw [if_neg q] at h;cases h
theorem obE {α β:Type} {o:Option α} {f:α->Option β} {b:β} {P:Prop} (h:o.bind f=some b) (k:∀ a,o=some a->f a=some b->P):P:=by
 cases o with
 | none=>cases h
 | some a=>exact k a rfl h
theorem omE {α β:Type} {o:Option α} {f:α->β} {b:β} {P:Prop} (h:o.map f=some b) (k:∀ a,o=some a->f a=b->P):P:=by
 cases o with
 | none=>cases h
 | some a=>exact k a rfl (Option.some.inj h)
noncomputable def asR (v:Val):Option Nat:=match v with
 | .ref i=>some i
 | .none | .bool _ | .int _ | .str _ | .fn _=>none
noncomputable def asS (v:Val):Option Str:=match v with
 | .str x=>some x
 | .none | .bool _ | .int _ | .ref _ | .fn _=>none
noncomputable def asFn (v:Val):Option Addr:=match v with
 | .fn a=>some a
 | .none | .bool _ | .int _ | .ref _ | .str _=>none
noncomputable def asL (o:Ob):Option (List Val):=match o with
 | .list xs=>some xs
 | .gone | .tup _ | .inst _ _=>none
noncomputable def asT (o:Ob):Option (List Val):=match o with
 | .tup xs=>some xs
 | .gone | .list _ | .inst _ _=>none
noncomputable def asO (C:Addr) (o:Ob):Option (List (String×Val)):=match o with
 | .inst C' fs=>if C'=C then some fs else none
 | .gone | .list _ | .tup _=>none
noncomputable def noV (o:Option Val):Option Unit:=match o with
 | .none=>some ()
 | .some _=>none
noncomputable def as1 (xs:List Val):Option Val:=match xs with
 | [v]=>some v
 | [] | _ :: _ :: _=>none
noncomputable def as2 (xs:List Val):Option (Val×Val):=match xs with
 | [u,w]=>some (u,w)
 | [] | [_] | _ :: _ :: _ :: _=>none
noncomputable def unC (xs:List Val):Option (Val×List Val):=match xs with
 | x :: xs=>some (x,xs)
 | []=>none
theorem kR {v:Val} {i:Nat} (h:asR v=some i):v=.ref i:=by cases v<;>cases h;rfl
theorem asS_some {v:Val} {x:Str} (h:asS v=some x):v=.str x:=by cases v<;>cases h;rfl
theorem pN {v:Val} {a:Addr} (h:asFn v=some a):v=.fn a:=by cases v<;>cases h;rfl
theorem bN {o:Ob} {xs:List Val} (h:asL o=some xs):o=.list xs:=by cases o<;>cases h;rfl
theorem asT_some {o:Ob} {xs:List Val} (h:asT o=some xs):o=.tup xs:=by cases o<;>cases h;rfl
theorem dF {C:Addr} {o:Ob} {fs:List (String×Val)} (h:asO C o=some fs):o=.inst C fs:=by
 cases o with
 | inst C' f=>exact (gB h).1▸(gB h).2▸rfl
 | _=>cases h
theorem kP {o:Option Val} {u:Unit} (h:noV o=some u):o=none:=by cases o<;>cases h;rfl
theorem as1_some {xs:List Val} {v:Val} (h:as1 xs=some v):xs=[v]:=by
 cases xs with
 | nil=>cases h
 | cons a r=>cases r<;>cases h;rfl
theorem as2_some {xs:List Val} {p:Val×Val} (h:as2 xs=some p):xs=[p.1,p.2]:=by
 cases xs with
 | nil=>cases h
 | cons a r=>
  cases r with
  | nil=>cases h
  | cons b r=>cases r<;>cases h;rfl
theorem unC_some {xs:List Val} {p:Val×List Val} (h:unC xs=some p):xs=p.1 :: p.2:=by
 cases xs<;>cases h;rfl
theorem lG {o:Option Val} (h:o=none):noV o=some ():=h▸rfl
theorem eR {C:Addr} {o:Ob} {fs:List (String×Val)} (h:o=.inst C fs):asO C o=some fs:=h▸if_pos rfl
theorem dG {o:Ob} {xs:List Val} (h:o=.list xs):asL o=some xs:=h▸rfl
theorem itE {α:Type} {p:Prop} [Decidable p] {a:Option α} {b:α} {P:Prop} (h:(if p then a else none)=some b) (k:p->a=some b->P):P:=by
 by_cases q:p
 ·rw [if_pos q] at h;exact k q h
 ·rw [if_neg q] at h;exact (noF h).elim
@[elab_as_elim] theorem soE {α:Type} {a b:α} {P:α->Prop} (h:some a=some b) (k:P a):P b:=Option.some.inj h▸k
@[elab_as_elim] theorem prE {α β:Type} {a c:α} {b d:β} {P:α->β->Prop} (h:(a,b)=(c,d)) (k:P a b):P c d:=by cases h;exact k
@[elab_as_elim] theorem trE {α β γ:Type} {a c:α} {b d:β} {x y:γ} {P:α->β->γ->Prop} (h:(a,b,x)=(c,d,y)) (k:P a b x):P c d y:=by cases h;exact k
theorem prR {o:Val×Sto} {x:Option (Val×Sto)} {i:Nat} (h1:x=some o) (h2:asR o.1=some i):x=some (.ref i,o.2):=by rw [h1,<- kR h2]
theorem prI {o:Val×Sto} {x:Option (Val×Sto)} {i:Int} (h1:x=some o) (h2:toI o.1=some i):x=some (.int i,o.2):=by rw [h1,<- eB h2]
theorem prS {o:Val×Sto} {x:Option (Val×Sto)} {i:Str} (h1:x=some o) (h2:asS o.1=some i):x=some (.str i,o.2):=by rw [h1,<- asS_some h2]
theorem binV_ok {op:Operator} {a b v:Val} {ρ:Map} {n:Nat} {va vb:Value} {A:Around} {s:Shared} {Q:Value->Shared->Prop} {E:Value->Shared->Prop} (h:binV op a b=some v) (Ha:VR ρ n a va) (Hb:VR ρ n b vb)
  (hQ:∀ t val,VR ρ n v val->Q val { s with toks:=t }):wpAny (model G.prog G.w) A (binaryOp op va vb) Q E s:=by
 refine obE h fun a h1 h=>obE h fun b h2 h=>?_
 cases eB h1;cases eB h2
 obtain ⟨t,rfl⟩:=Ha;obtain ⟨u,rfl⟩:=Hb
 cases op with
 | Add=>cases h;exact add_int (hQ _ _ ⟨_,rfl⟩)
 | Sub=>cases h;exact sub_int (hQ _ _ ⟨_,rfl⟩)
 | Mult=>obtain ⟨q,rfl⟩:=gB h;exact PyProof.Rows.mul_int (hQ _ _ ⟨_,rfl⟩) (.of_left (intBits_le q))
 | FloorDiv=>
  obtain ⟨q,rfl⟩:=gB h
  refine floordiv_int (by lia) ?_ (.inl (PyProof.noPylong_small (by lia)))
  rw [Int.fdiv_eq_ediv_of_nonneg _ (by lia)]
  exact hQ _ _ ⟨_,rfl⟩
 | Mod=>
  obtain ⟨q,rfl⟩:=gB h
  refine mod_int' (Int.ne_of_gt q) ?_
  rw [Int.fmod_eq_emod_of_nonneg _ (Int.le_of_lt q)]
  exact hQ _ _ ⟨_,rfl⟩
 | LShift=>obtain ⟨q,rfl⟩:=gB h;exact lshift_int_small q.1 (by lia) q.2.2 (hQ _ _ ⟨_,rfl⟩)
 | RShift=>
  obtain ⟨q,rfl⟩:=gB h
  refine rshift_int q ?_
  rw [Int.fdiv_eq_ediv_of_nonneg _ (Int.pow_nonneg (by decide))]
  exact hQ _ _ ⟨_,rfl⟩
 | BitAnd=>cases h;exact and_int (hQ _ _ ⟨_,rfl⟩)
 | BitOr=>cases h;exact or_int (hQ _ _ ⟨_,rfl⟩)
 | MatMult | Div | Pow | BitXor=>cases h
noncomputable def binF (op:Operator) (f g:EF):EF:=fun l σ=>(f l σ).bind fun a=>(g l a.2).bind fun b=>(binV op a.1 b.1).map fun v=>(v,b.2)
theorem SE.bin {op:Operator} {l r:Expr} {p:Pos} {f g:EF} (hl:SE G sc d l f) (hr:SE G sc d r g):SE G sc d (.BinOp l op r p) (binF op f g):=by
 intro x A lm ρ σ s v σ' Q E rm H e hQ
 obtain ⟨⟨a,σ₁⟩,h1,e⟩:=obx e
 obtain ⟨⟨b,σ₂⟩,h2,e⟩:=obx e
 obtain ⟨v₀,h3,e⟩:=omx e
 cases e
 refine wpAny_BinOp (hl x A lm ρ σ s a σ₁ _ _ rm H h1 fun ρ₁ s₁ va A1 Va=>?_)
 refine hr x A lm ρ₁ σ₁ s₁ b _ _ _ rm (H.step A1) h2 fun ρ₂ s₂ vb A2 Vb=>?_
 exact binV_ok h3 (Va.after A2) Vb fun t val hv=>hQ _ _ _ ((A1.trans A2).trans (.toks A2.rel)) hv
noncomputable def unI (op:UnaryOp) (a:Int):Option Val:=match op with
 | .USub=>some (.int (-a))
 | .Invert=>some (.int (-a - 1))
 | .Not | .UAdd=>none
noncomputable def unV (op:UnaryOp) (v:Val):Option Val:=(toI v).bind (unI op)
noncomputable def unF (op:UnaryOp) (f:EF):EF:=fun l σ=>(f l σ).bind fun a=>(unV op a.1).map fun v=>(v,a.2)
theorem SE.un {op:UnaryOp} {e:Expr} {p:Pos} {f:EF} (h:SE G sc d e f):SE G sc d (.UnaryOp op e p) (unF op f):=by
 intro x A lm ρ σ s v σ' Q E rm H e hQ
 refine obE e fun a h1 e=>omE e fun v₀ h3 e=>?_
 cases e
 refine wpAny_UnaryOp (h x A lm ρ σ s a.1 _ _ _ rm H h1 fun ρ₁ s₁ va A1 Va=>?_)
 refine obE h3 fun i h2 h3=>?_
 rw [eB h2] at Va
 obtain ⟨t,rfl⟩:=Va
 cases op with
 | USub=>cases h3;exact PyProof.Rows.neg_int (hQ _ _ _ (A1.trans (.toks A1.rel)) ⟨_,rfl⟩)
 | Invert=>cases h3;exact invert_int (hQ _ _ _ (A1.trans (.toks A1.rel)) ⟨_,rfl⟩)
 | Not | UAdd=>cases h3
noncomputable def cmpI (op:CmpOp) (a b:Int):Option Bool:=match op with
 | .Eq=>some (a == b)
 | .NotEq=>some (a != b)
 | .Lt=>some (decide (a<b))
 | .LtE=>some (decide (a<=b))
 | .Gt=>some (decide (a > b))
 | .GtE=>some (decide (a>=b))
 | .Is | .IsNot | .In | .NotIn=>none
noncomputable def cmpB (op:CmpOp) (a b:Bool):Option Bool:=match op with
 | .Eq | .Is=>some (a == b)
 | .NotEq=>some (a != b)
 | .Lt | .LtE | .Gt | .GtE | .IsNot | .In | .NotIn=>none
noncomputable def isV (op:CmpOp) (b:Bool):Option Bool:=match op with
 | .Is=>some b
 | .Eq | .NotEq | .Lt | .LtE | .Gt | .GtE | .IsNot | .In | .NotIn=>none
theorem isV_ {P:CmpOp->Bool->Prop} {op:CmpOp} {b c:Bool} (h:isV op b=some c) (k:P .Is b):P op c:=by
 cases op with
 | Is=>cases h;exact k
 | _=>cases h
noncomputable def eqO (op:CmpOp) (b:Bool):Option Bool:=match op with
 | .Eq=>some b
 | .Is | .NotEq | .Lt | .LtE | .Gt | .GtE | .IsNot | .In | .NotIn=>none
theorem eqO_ {P:CmpOp->Bool->Prop} {op:CmpOp} {b c:Bool} (h:eqO op b=some c) (k:P .Eq b):P op c:=by
 cases op with
 | Eq=>cases h;exact k
 | _=>cases h
noncomputable def cmpV (op:CmpOp) (a b:Val):Option Bool:=match a with
 | .int a=>match b with
  | .int b=>cmpI op a b
  | .none=>isV op false
  | .bool _ | .str _ | .ref _ | .fn _=>none
 | .bool a=>match b with
  | .bool b=>cmpB op a b
  | .int b=>eqO op (decide ((if a then 1 else 0)=b))
  | .none | .str _ | .ref _ | .fn _=>none
 | .none=>match b with
  | .none=>isV op true
  | .int _ | .bool _ | .str _ | .ref _ | .fn _=>none
 | .fn _=>match b with
  | .none=>isV op false
  | .int _ | .bool _ | .str _ | .ref _ | .fn _=>none
 | .str _ | .ref _=>none
end
section
variable {G:G0} {sc:Scope} {d:Nat}
theorem qR {op:CmpOp} {a b:Val} {c:Bool} {ρ:Map} {n:Nat} {va vb:Value} {A:Around} {s:Shared} {Q:Value->Shared->Prop} {E:Value->Shared->Prop} (h:cmpV op a b=some c) (Ha:VR ρ n a va) (Hb:VR ρ n b vb)
  (hQ:Q (.bool c) s):wpAny (model G.prog G.w) A (compareOp op va vb) Q E s:=by
 have one:∀ {k:CmpOp} {x:Bool},(Q (.bool x) s->wpAny (model G.prog G.w) A (compareOp k va vb) Q E s)->isV op x=some c->k=.Is->wpAny (model G.prog G.w) A (compareOp op va vb) Q E s:=fun w h e=>isV_ (P:=fun op c=>Q (.bool c) s->wpAny (model G.prog G.w) A (compareOp op va vb) Q E s) h (e▸w) hQ
 refine byC fun hn=>?_
 cases a with
 | int a=>cases b with
  | int b=>
   obtain ⟨t,rfl⟩:=Ha;obtain ⟨u,rfl⟩:=Hb
   clear one
   cases op with
   | Eq=>cases h;exact hn (PyProof.Rows.eq_int hQ)
   | NotEq=>cases h;exact hn (PyProof.Rows.ne_int hQ)
   | Lt=>cases h;exact hn (PyProof.Rows.lt_int hQ)
   | LtE=>cases h;exact hn (PyProof.Rows.le_int hQ)
   | Gt=>cases h;exact hn (PyProof.Rows.gt_int hQ)
   | GtE=>cases h;exact hn (PyProof.Rows.ge_int hQ)
   | Is | IsNot | In | NotIn=>exact noF h
  | none=>obtain ⟨t,rfl⟩:=Ha;cases Hb;exact hn (one is_none_gen h rfl)
  | bool _ | str _ | ref _ | fn _=>exact noF h
 | bool a=>cases b with
  | bool b=>
   cases Ha;cases Hb
   clear one
   cases op with
   | Eq=>cases h;exact hn (PyProof.Rows.eq_bool hQ)
   | NotEq=>cases h;exact hn (PyProof.Rows.ne_bool hQ)
   | Is=>
    cases h
    refine hn (wpAny_is_plain rfl ?_)
    have e:(Value.bool a == Value.bool b)=(a == b):=by cases a<;>cases b<;>rfl
    rw [e];exact hQ
   | Lt | LtE | Gt | GtE | IsNot | In | NotIn=>exact noF h
  | int b=>
   cases Ha;obtain ⟨u,rfl⟩:=Hb
   exact hn (eqO_ (P:=fun op c=>Q (.bool c) s->wpAny (model G.prog G.w) A (compareOp op (.bool a) (.int b u)) Q E s) h EqBoolInt.eq_bool_int hQ)
  | none | str _ | ref _ | fn _=>exact noF h
 | none=>cases b with
  | none=>cases Ha;cases Hb;exact hn (one is_none_gen h rfl)
  | int _ | bool _ | str _ | ref _ | fn _=>exact noF h
 | fn _=>cases b with
  | none=>cases Ha;cases Hb;exact hn (one is_none_gen h rfl)
  | int _ | bool _ | str _ | ref _ | fn _=>exact noF h
 | str _ | ref _=>exact noF h
noncomputable def cmpF (op:CmpOp) (f g:EF):EF:=fun l σ=>(f l σ).bind fun a=>(g l a.2).bind fun b=>(cmpV op a.1 b.1).map fun v=>(.bool v,b.2)
noncomputable def cmpT (op:CmpOp) (f g:EF):TF:=fun l σ=>(f l σ).bind fun a=>(g l a.2).bind fun b=>(cmpV op a.1 b.1).map fun v=>(v,b.2)
theorem SE.cmp {op:CmpOp} {l r:Expr} {p:Pos} {f g:EF} (hl:SE G sc d l f) (hr:SE G sc d r g) (hm:behindInMarks op r=false):SE G sc d (.Compare l [op] [r] p) (cmpF op f g):=by
 intro x A lm ρ σ s v σ' Q E rm H e hQ
 obtain ⟨⟨a,σ₁⟩,h1,e⟩:=obx e
 obtain ⟨⟨b,σ₂⟩,h2,e⟩:=obx e
 obtain ⟨v₀,h3,e⟩:=omx e
 cases e
 refine wpAny_Compare1 (hl x A lm ρ σ s a σ₁ _ _ rm H h1 fun ρ₁ s₁ va A1 Va=>?_) hm
 refine hr x A lm ρ₁ σ₁ s₁ b _ _ _ rm (H.step A1) h2 fun ρ₂ s₂ vb A2 Vb=>?_
 exact qR h3 (Va.after A2) Vb (hQ _ _ _ (A1.trans A2) rfl)
theorem ST.cmp {op:CmpOp} {l r:Expr} {p:Pos} {f g:EF} (hl:SE G sc d l f) (hr:SE G sc d r g) (hm:behindInMarks op r=false):ST G sc d (.Compare l [op] [r] p) (cmpT op f g):=by
 intro x A lm ρ σ s v σ' Q E rm H e hQ
 obtain ⟨⟨a,σ₁⟩,h1,e⟩:=obx e
 obtain ⟨⟨b,σ₂⟩,h2,e⟩:=obx e
 obtain ⟨v₀,h3,e⟩:=omx e
 cases e
 refine wpAny_isTrue_Compare1 (hl x A lm ρ σ s a σ₁ _ _ rm H h1 fun ρ₁ s₁ va A1 Va=>?_) hm
 refine hr x A lm ρ₁ σ₁ s₁ b _ _ _ rm (H.step A1) h2 fun ρ₂ s₂ vb A2 Vb=>?_
 exact qR h3 (Va.after A2) Vb (wpAny_truthy_bool (hQ _ _ (A1.trans A2)))
noncomputable def truV (v:Val):Option Bool:=match v with
 | .bool b=>some b
 | .none | .int _ | .str _ | .ref _ | .fn _=>none
theorem gL {v:Val} {b:Bool} (h:truV v=some b):v=.bool b:=by cases v<;>cases h;rfl
noncomputable def valT (f:EF):TF:=fun l σ=>(f l σ).bind fun a=>(truV a.1).map fun b=>(b,a.2)
theorem pT {a:Val} {b:Bool} {ρ:Map} {n:Nat} {va:Value} {A:Around} {s:Shared} {Q:Bool->Shared->Prop} {E:Value->Shared->Prop} (h:truV a=some b) (Ha:VR ρ n a va)
  (hQ:Q b s):wpAny (model G.prog G.w) A (truthy va) Q E s:=by
 rw [gL h] at Ha
 cases Ha;exact wpAny_truthy_bool hQ
theorem ST.val {e:Expr} {f:EF} (h:SE G sc d e f) (he:∀ env whole,isTrue e env whole=(do let v <- whole;standAt e.pos;holding [v] (truthy v))):ST G sc d e (valT f):=by
 intro x A lm ρ σ s v σ' Q E rm H e hQ
 obtain ⟨⟨a,σ₁⟩,h1,e⟩:=obx e
 obtain ⟨v₀,h3,e⟩:=omx e
 cases e
 exact wpAny_isTrue_value (h x A lm ρ σ s a σ₁ _ _ rm H h1 fun ρ₁ s₁ va A1 Va=>pT h3 Va (hQ _ _ A1)) (he _ _)
noncomputable def notT (f:TF):TF:=fun l σ=>(f l σ).map fun a=>(!a.1,a.2)
theorem ST.not {e:Expr} {p:Pos} {f:TF} (h:ST G sc d e f):ST G sc d (.UnaryOp .Not e p) (notT f):=by
 intro x A lm ρ σ s v σ' Q E rm H e hQ
 obtain ⟨⟨a,σ₁⟩,h1,e⟩:=omx e
 cases e
 exact wpAny_isTrue_Not (h x A lm ρ σ s a _ _ _ rm H h1 fun ρ₁ s₁ A1=>hQ _ _ A1)
noncomputable def andT:List TF->TF
 | []=>fun _ σ=>some (true,σ)
 | f :: r=>fun l σ=>(f l σ).bind fun a=>if a.1 then andT r l a.2 else some (false,a.2)
noncomputable def orT:List TF->TF
 | []=>fun _ σ=>some (false,σ)
 | f :: r=>fun l σ=>(f l σ).bind fun a=>if a.1 then some (true,a.2) else orT r l a.2
inductive STs (G:G0) (sc:Scope) (d:Nat):List Expr->List TF->Prop
 | nil:STs G sc d [] []
 | cons {e r f fs}:ST G sc d e f->STs G sc d r fs->STs G sc d (e :: r) (f :: fs)
theorem STs.and {es:List Expr} {fs:List TF} (h:STs G sc d es fs):∀ (x:Vx) (A:Around) (lm:Loc) (ρ:Map) (σ:Sto) (s:Shared) (b:Bool) (σ':Sto) (Q:Bool->Shared->Prop) (E:Value->Shared->Prop),
  Room A d->Here G.base (x.env sc) lm ρ σ s->andT fs lm σ=some (b,σ')->
  (∀ ρ' s',After G.base noX ρ σ s ρ' σ' s'->Q b s')->wpAny (model G.prog G.w) A (allTrue .And es (x.env sc)) Q E s:=by
 induction h with
 | nil=>intro x A lm ρ σ s b σ' Q E rm H e hQ;cases e;exact wpAny_allTrue_And_nil (hQ _ _ (.refl H.rel))
 | cons h1 h2 ih=>
  intro x A lm ρ σ s b σ' Q E rm H e hQ
  obtain ⟨⟨a,σ₁⟩,e1,e⟩:=obx e
  refine wpAny_allTrue_And_cons (h1 x A lm ρ σ s a _ _ _ rm H e1 fun ρ₁ s₁ A1=>?_)
  cases a
  ·cases e;exact hQ _ _ A1
  ·exact ih x A lm _ _ _ _ _ _ _ rm (H.step A1) e fun ρ' s' A2=>hQ _ _ (A1.trans A2)
theorem STs.or {es:List Expr} {fs:List TF} (h:STs G sc d es fs):∀ (x:Vx) (A:Around) (lm:Loc) (ρ:Map) (σ:Sto) (s:Shared) (b:Bool) (σ':Sto) (Q:Bool->Shared->Prop) (E:Value->Shared->Prop),
  Room A d->Here G.base (x.env sc) lm ρ σ s->orT fs lm σ=some (b,σ')->
  (∀ ρ' s',After G.base noX ρ σ s ρ' σ' s'->Q b s')->wpAny (model G.prog G.w) A (allTrue .Or es (x.env sc)) Q E s:=by
 induction h with
 | nil=>intro x A lm ρ σ s b σ' Q E rm H e hQ;cases e;exact wpAny_allTrue_Or_nil (hQ _ _ (.refl H.rel))
 | cons h1 h2 ih=>
  intro x A lm ρ σ s b σ' Q E rm H e hQ
  obtain ⟨⟨a,σ₁⟩,e1,e⟩:=obx e
  refine wpAny_allTrue_Or_cons (h1 x A lm ρ σ s a _ _ _ rm H e1 fun ρ₁ s₁ A1=>?_)
  cases a
  ·exact ih x A lm _ _ _ _ _ _ _ rm (H.step A1) e fun ρ' s' A2=>hQ _ _ (A1.trans A2)
  ·cases e;exact hQ _ _ A1
theorem ST.and {es:List Expr} {p:Pos} {fs:List TF} (h:STs G sc d es fs):ST G sc d (.BoolOp .And es p) (andT fs):=
 fun x A lm ρ σ s b σ' Q E rm H e hQ=>wpAny_isTrue_BoolOp (h.and x A lm ρ σ s b σ' Q E rm H e hQ)
theorem ST.or {es:List Expr} {p:Pos} {fs:List TF} (h:STs G sc d es fs):ST G sc d (.BoolOp .Or es p) (orT fs):=
 fun x A lm ρ σ s b σ' Q E rm H e hQ=>wpAny_isTrue_BoolOp (h.or x A lm ρ σ s b σ' Q E rm H e hQ)
noncomputable def jW (op:BoolOp):List EF->EF
 | []=>fun _ _=>none
 | [f]=>fun l σ=>(f l σ).bind fun a=>(truV a.1).map fun b=>(.bool b,a.2)
 | f :: g :: r=>fun l σ=>(f l σ).bind fun a=>(truV a.1).bind fun b=>if b=(op == .Or) then some (.bool b,a.2) else jW op (g :: r) l a.2
inductive SEs (G:G0) (sc:Scope) (d:Nat):List Expr->List EF->Prop
 | nil:SEs G sc d [] []
 | cons {e r f fs}:SE G sc d e f->SEs G sc d r fs->SEs G sc d (e :: r) (f :: fs)
theorem SEs.boolOp {op:BoolOp} {p:Pos} {es:List Expr} {fs:List EF} (h:SEs G sc d es fs):∀ (x:Vx) (A:Around) (lm:Loc) (ρ:Map) (σ:Sto) (s:Shared) (v:Val) (σ':Sto) (Q:Value->Shared->Prop) (E:Value->Shared->Prop),
  Room A d->Here G.base (x.env sc) lm ρ σ s->jW op fs lm σ=some (v,σ')->
  (∀ ρ' s' val,After G.base noX ρ σ s ρ' σ' s'->VR ρ' σ'.n v val->Q val s')->wpAny (model G.prog G.w) A (PySem.boolOp p op (evalEach es (x.env sc))) Q E s:=by
 induction h with
 | nil=>intro x A lm ρ σ s b σ' Q E rm H e hQ;cases e
 | @cons e1 r1 f1 fs1 h1 h2 ih=>
  intro x A lm ρ σ s v σ' Q E rm H e hQ
  cases h2 with
  | nil=>
   refine obE e fun a e1 e=>omE e fun b e2 e=>?_
   cases e
   refine h1 x A lm ρ σ s a.1 _ _ _ rm H e1 fun ρ₁ s₁ va A1 Va=>hQ _ _ _ A1 ?_
   rw [gL e2] at Va;exact Va
  | cons h3 h4=>
   refine obE e fun a e1 e=>obE e fun b e2 e=>?_
   show wpAny _ A (do
    let v <- eval _ (x.env sc)
    standAt p
    let t <- holding [v] (truthy v)
    match op,t with
    | .And,false | .Or,true=>pure v
    | _,_=>PySem.boolOp p op (evalEach _ (x.env sc))) Q E s
   refine wpAny_bind (h1 x A lm ρ σ s a.1 _ _ _ rm H e1 fun ρ₁ s₁ va A1 Va=>?_)
   refine wpAny_bind (wpAny_standAt (wpAny_bind (wpAny_holding (pT e2 Va ?_))))
   rw [gL e2] at Va
   have again:jW op _ lm a.2=some (v,σ')->wpAny (model G.prog G.w) A (PySem.boolOp p op (evalEach _ (x.env sc))) Q E s₁:=fun e=>ih x A lm _ _ _ _ _ _ _ rm (H.step A1) e fun ρ' s' val A2=>hQ _ _ _ (A1.trans A2)
   have stop:(Val.bool b,a.2)=(v,σ')->wpAny (model G.prog G.w) A (pure va) Q E s₁:=fun e=>wpAny_pure (prE (P:=fun v σ'=>(∀ ρ' s' val,After G.base noX ρ σ s ρ' σ' s'->VR ρ' σ'.n v val->Q val s')->Q va s₁) e (fun hQ=>hQ _ _ _ A1 Va) hQ)
   clear ih hQ H h1 e1
   cases op<;>cases b
   ·exact stop (Option.some.inj e)
   ·exact again e
   ·exact again e
   ·exact stop (Option.some.inj e)
theorem SE.bool2 {op:BoolOp} {p:Pos} {es:List Expr} {fs:List EF} (h:SEs G sc d es fs):SE G sc d (.BoolOp op es p) (jW op fs):=
 fun x A lm ρ σ s v σ' Q E rm H e hQ=>h.boolOp x A lm ρ σ s v σ' Q E rm H e hQ
noncomputable def iteF (t:TF) (f g:EF):EF:=fun l σ=>(t l σ).bind fun b=>if b.1 then f l b.2 else g l b.2
theorem SE.ite {t e1 e2:Expr} {p:Pos} {ft:TF} {f g:EF} (ht:ST G sc d t ft) (hf:SE G sc d e1 f) (hg:SE G sc d e2 g):SE G sc d (.IfExp t e1 e2 p) (iteF ft f g):=by
 intro x A lm ρ σ s v σ' Q E rm H e hQ
 obtain ⟨⟨b,σ₁⟩,h1,e⟩:=obx e
 refine wpAny_IfExp (ht x A lm ρ σ s b _ _ _ rm H h1 fun ρ₁ s₁ A1=>?_)
 cases b
 ·exact hg x A lm _ _ _ _ _ _ _ rm (H.step A1) e fun ρ' s' val A2=>hQ _ _ _ (A1.trans A2)
 ·exact hf x A lm _ _ _ _ _ _ _ rm (H.step A1) e fun ρ' s' val A2=>hQ _ _ _ (A1.trans A2)
structure Cls (K:Frag) (C:Addr):Prop where
 ga:findIn K (.ref C) "__getattribute__"=some (some (.builtin "object.__getattribute__"))
 gn:findIn K (.ref C) "__getattr__"=some none
 hd:hasDictIn K C=true
 sa:findIn K (.ref C) "__setattr__"=some (some (.builtin "object.__setattr__"))
 po:plainOver K C=true
noncomputable def getF (fs:List (String×Val)) (x:String):Option Val:=(fs.find? fun p=>p.1 == x).map (·.2)
noncomputable def putF (fs:List (String×Val)) (x:String) (v:Val):List (String×Val):=match fs with
 | []=>[(x,v)]
 | p :: r=>if p.1 == x then (p.1,v) :: r else p :: putF r x v
theorem putF_c {p:String×Val} {r:List (String×Val)} {x:String} {v:Val}:putF (p :: r) x v=if p.1 == x then (p.1,v) :: r else p :: putF r x v:=rfl
theorem rW {k x:String} {t:Tok}:(Value.str (Str.ofString k) t).isStr (Str.ofString x)=(k == x):=by
 show (Str.ofString k == Str.ofString x)=(k == x)
 by_cases h:k=x
 ·subst h;simp
 ·have:Str.ofString k≠Str.ofString x:=fun e=>h (eD e)
  rw [beq_eq_false_iff_ne.mpr this,beq_eq_false_iff_ne.mpr h]
theorem FR.get {ρ:Map} {n:Nat} {x:String} {fs:List (String×Val)} {es:List DictEntry} (h:FR ρ n fs es) :
  match getF fs x with
  | some v=>∃ val,getL (Str.ofString x) es=some (some val)/\VR ρ n v val
  | none=>getL (Str.ofString x) es=some none:=by
 induction h with
 | nil=>rfl
 | @cons p e fs es c r ih=>
  obtain ⟨t,hk⟩:=c.1
  unfold getF at ih |-
  unfold getL at ih |-
  rw [List.find?_cons,List.find?_cons,List.any_cons,hk,rW]
  cases q:p.1 == x with
  | true=>exact ⟨_,rfl,c.2⟩
  | false=>
   have rk:e.refKey=false:=by unfold DictEntry.refKey;rw [hk]
   rw [rk,Bool.false_or]
   exact ih
theorem FR.put {ρ:Map} {n:Nat} {x:String} {v:Val} {val:Value} {hs:Int} {tk:Tok} (hv:VR ρ n v val) {fs:List (String×Val)} {es:List DictEntry} (h:FR ρ n fs es) :
  FR ρ n (putF fs x v) (putL (Str.ofString x) hs (.str (Str.ofString x) tk) val es):=by
 induction h with
 | nil=>exact .cons ⟨⟨_,rfl⟩,hv⟩ .nil
 | @cons p e fs es c r ih=>
  obtain ⟨t,hk⟩:=c.1
  unfold putF putL
  rw [hk,rW]
  cases q:p.1 == x with
  | true=>exact .cons ⟨⟨t,rfl⟩,hv⟩ r
  | false=>exact .cons c ih
theorem VR.handed {ρ:Map} {n:Nat} {v:Val} {val:Value} (h:VR ρ n v val):handedIn val=true:=by
 cases v with
 | none=>cases h;rfl
 | bool=>cases h;rfl
 | int=>obtain ⟨t,rfl⟩:=h;rfl
 | str=>obtain ⟨t,rfl⟩:=h;rfl
 | ref=>obtain ⟨_,rfl⟩:=h;rfl
 | fn=>cases h;rfl
theorem Rel.inst {base:Heap} {ρ:Map} {σ:Sto} {h:Heap} (R:Rel base ρ σ h) {i:Nat} {C:Addr} {fs:List (String×Val)} (hi:i<σ.n) (e:σ.get i=.inst C fs) :
  ∃ es ep,InstAt h (ρ i 0) (instObj C (ρ i 1)) C (some (dictOf es ep))/\FR ρ σ.n fs es:=by
 have:=R.hold i hi
 rw [e] at this
 obtain ⟨h1,es,ep,h2,r⟩:=this
 exact ⟨es,ep,⟨h1,rfl,rfl,h2⟩,r⟩
noncomputable def aC (C:Addr) (x:String) (f:EF):EF:=fun l σ=>(f l σ).bind fun o=>(asR o.1).bind fun i=>(asO C (o.2.get i)).bind fun fs=>(getF fs x).map fun v=>(v,o.2)
theorem attrF_inv {C:Addr} {x:String} {f:EF} {l:Loc} {σ σ':Sto} {v:Val} (e:aC C x f l σ=some (v,σ')):∃ i fs,f l σ=some (.ref i,σ')/\σ'.get i=.inst C fs/\getF fs x=some v:=by
 refine obE e fun o h1 e=>obE e fun i h2 e=>obE e fun fs h3 e=>omE e fun w h4 e=>prE e ?_
 exact ⟨i,fs,prR h1 h2,dF h3,h4⟩
theorem jS {C:Addr} {x:String} {attr:Option Value} (hC:Cls G.K C) (ha:findIn G.K (.ref C) (Str.ofString x)=some attr) (hn:noGet G.K attr=true)
  {ρ:Map} {σ:Sto} {s:Shared} {i:Nat} {fs:List (String×Val)} {v:Val} {A:Around} {ex:Bool} {Q:Value->Shared->Prop} {E:Value->Shared->Prop} (R:Rel G.base ρ σ s.heap) (hi:i<σ.n) (e:σ.get i=.inst C fs) (hv:getF fs x=some v)
  (hQ:∀ val t,VR ρ σ.n v val->Q val { s with toks:=t }):wpAny (model G.prog G.w) A (getAttr (.ref (ρ i 0)) (Str.ofString x) ex) Q E s:=by
 obtain ⟨es,ep,I,r⟩:=R.inst hi e
 have g:=r.get (x:=x)
 rw [hv] at g
 obtain ⟨val,hl,hr⟩:=g
 exact get_value (G.ok.X.keeps R.stays) I hC.ga (findObj_own hC.hd ha hn hl) hr.handed (hQ _ _ hr)
theorem SE.attr {C:Addr} {x:String} {e:Expr} {p:Pos} {f:EF} (hC:Cls G.K C) (h:SE G sc d e f) (ha:findIn G.K (.ref C) (Str.ofString x)=some Option.none:=by kernel_rfl)
  (he:∀ env,eval (.Attribute e (Str.ofString x) p) env=(do
   let o <- eval e env
   standAt p.atName
   let r <- holding [o] (getAttr o (Str.ofString x) true)
   letTemporaryGo e o r
   pure r):=by intro _;rfl):SE G sc d (.Attribute e (Str.ofString x) p) (aC C x f):=by
 intro y A lm ρ σ s v σ' Q E rm H eq hQ
 obtain ⟨i,fs,h1,h2,h3⟩:=attrF_inv eq
 refine Attribute_any_ (h y A lm ρ σ s _ _ _ _ rm H h1 fun ρ₁ s₁ va A1 Va=>?_) (he _)
 obtain ⟨hi,rfl⟩:=Va
 exact jS hC ha rfl A1.rel hi h2 h3 fun val t vr=>hQ _ _ _ (A1.trans (.toks A1.rel)) vr
noncomputable def nilL:LF:=fun _ σ=>some ([],σ)
noncomputable def aA (f:EF) (g:LF):LF:=fun l σ=>(f l σ).bind fun a=>(g l a.2).map fun b=>(a.1 :: b.1,b.2)
theorem SL.nil:SL G sc d [] nilL:=by
 intro x pos A lm ρ σ s v σ' Q E rm H e hQ
 cases e
 exact Calls.spliced_nil (hQ _ _ _ (.refl H.rel) .nil)
theorem SL.cons {e:Expr} {r:List Expr} {f:EF} {g:LF} (h:SE G sc d e f) (hr:SL G sc d r g) (hs:∀ env,starEach (e :: r) env=(false,eval e env) :: starEach r env:=by intro _;rfl):SL G sc d (e :: r) (aA f g):=by
 intro x pos A lm ρ σ s v σ' Q E rm H eq hQ
 obtain ⟨⟨a,σ₁⟩,h1,eq⟩:=obx eq
 obtain ⟨⟨b,σ₂⟩,h2,eq⟩:=omx eq
 cases eq
 rw [hs]
 refine Calls.spliced_cons (h x A lm ρ σ s a _ _ _ rm H h1 fun ρ₁ s₁ va A1 Va=>?_)
 exact hr x pos A lm _ _ _ _ _ _ _ rm (H.step A1) h2 fun ρ₂ s₂ vb A2 Vb=>hQ _ _ _ (A1.trans A2) (.cons (Va.after A2) Vb)
theorem jH {M:Model} {A:Around} {E:Value->Shared->Prop} {s:Shared} {f:Value} {Q:Args->Shared->Prop}
  (h:wpAny M A (spliced []) (fun vs s'=>Q ⟨vs,[]⟩ s') E s):wpAny M A (evalArgs f true [] []) Q E s:=by
 unfold evalArgs
 show wpAny M A (spliced [] >>= _) Q E s
 refine wpAny_bind (wpAny_mono h (fun vs s' h'=>?_) fun _ _ x=>x)
 refine wpAny_bind (wpAny_pure ?_)
 refine wpAny_holding ?_
 exact wpAny_bind (wpAny_pure (wpAny_bind (wpAny_pure (wpAny_pure h'))))
theorem cF {M:Model} {A:Around} {E:Value->Shared->Prop} {s:Shared} {K:Frag} {env:Env} {pos:Pos} {f:Value} {first:List Value} {Q:Value->Shared->Prop} {args:List Expr} (hk:keepIn K f=true)
  (hs:∀ env,starEach args env=args.map fun e=>(false,eval e env))
  (h:wpAny M A (spliced (backTo pos (starEach args env))) (fun vs s₁=>K.In s₁.heap/\wpAny M A (call f (first ++ vs)) Q E s₁) E s) :
  wpAny M A (callWith pos f first (backTo pos (starEach args env)) []) Q E s:=by
 have hp:(backTo pos (starEach args env)).any (·.1)=false:=by
  rw [hs]
  unfold backTo
  rw [List.map_map]
  induction args with
  | nil=>rfl
  | cons a r ih=>simp
 refine callWith_of (P:=K.In) (by rw [hp];rfl) (keeps_K hk) ?_
 rw [hs] at h |-
 cases args with
 | nil=>exact jH h
 | cons a r=>exact evalArgs_plain h
end
theorem nc_le {o:Ob}:nc o<=2:=by cases o<;>simp [nc]
section
variable {base:Heap} {X:Addr->Prop} {ρ:Map} {σ:Sto} {s:Shared}
theorem oJ {i:Nat} {o':Ob} (hnc:nc o'=nc (σ.get i)) (j:Nat):nc ((σ.put i o').get j)=nc (σ.get j):=by
 show nc (if j=i then o' else σ.get j)=_
 by_cases q:j=i
 ·rw [if_pos q,hnc,q]
 ·rw [if_neg q]
theorem own_put {i:Nat} {o':Ob} (hnc:nc o'=nc (σ.get i)) {a:Addr}:Own ρ (σ.put i o') a ↔ Own ρ σ a:=by
 constructor
 ·rintro ⟨j,k,hj,hk,e⟩;exact ⟨j,k,hj,oJ hnc j▸hk,e⟩
 ·rintro ⟨j,k,hj,hk,e⟩;exact ⟨j,k,hj,(oJ hnc j).symm▸hk,e⟩
theorem After.put {i k:Nat} {o':Ob} {h':Heap} {t:Nat} (R:Rel base ρ σ s.heap) (hi:i<σ.n) (hk:k<nc (σ.get i)) (hnc:nc o'=nc (σ.get i)) (hsb:Heap.SameBut (ρ i k) s.heap h')
  (hh:Holds ρ σ.n h' i o'):After base X ρ σ s ρ (σ.put i o') { s with heap:=h',toks:=t }:=by
 have ow:Own ρ σ (ρ i k):=⟨i,k,hi,hk,rfl⟩
 refine ⟨⟨fun a o e=>(hsb.2 a fun q=>?_).trans (R.stays a o e),fun j hj=>?_,fun j l j' l' hj hj' hl hl' e=>R.inj j l j' l' hj hj' (oJ hnc j▸hl) (oJ hnc j'▸hl') e,fun a ha=>R.above a ((own_put hnc).mp ha),by show _<=h'.objs.size;rw [hsb.1];exact R.size⟩,
  Nat.le_refl _,fun _ _=>rfl,fun j _=>oJ hnc j,fun a o _ hO e=>(hsb.2 a fun q=>hO (q▸ow)).trans e,fun j _ h h'=>absurd h' (Nat.not_lt.mpr h),by show _<=h'.objs.size;rw [hsb.1];exact Nat.le_refl _,fun _ _ e=>e,id,rfl⟩
 ·exact absurd (Heap.lt_size e) (Nat.not_lt.mpr (q▸R.above _ ow))
 ·show Holds ρ σ.n h' j (if j=i then o' else σ.get j)
  by_cases q:j=i
  ·rw [if_pos q,q];exact hh
  ·rw [if_neg q]
   exact (R.hold j hj).move fun l hl x e=>(hsb.2 _ fun z=>q (R.inj j l i k hj hi hl hk z).1).trans e
theorem Rel.own_lt {base:Heap} {ρ:Map} {σ:Sto} {h:Heap} (R:Rel base ρ σ h) {a:Addr} (ho:Own ρ σ a):a<h.objs.size:=by
 obtain ⟨j,k,hj,hkk,rfl⟩:=ho
 have:=R.hold j hj
 cases q:σ.get j with
 | gone=>rw [q] at hkk;simp [nc] at hkk
 | list xs=>rw [q] at this hkk;simp [nc] at hkk;subst hkk;obtain ⟨_,⟨_,e⟩,_⟩:=this;exact Heap.lt_size e
 | tup xs=>rw [q] at this hkk;simp [nc] at hkk;subst hkk;obtain ⟨_,⟨_,e,_⟩,_⟩:=this;exact Heap.lt_size e
 | inst C fs=>
  rw [q] at this hkk;simp [nc] at hkk;obtain ⟨e,_,_,e',_⟩:=this
  rcases Nat.lt_succ_iff_lt_or_eq.mp hkk with h | rfl
  ·have:k=0:=by lia
   subst this;exact Heap.lt_size e
  ·exact Heap.lt_size e'
noncomputable def iJ (ρ:Map) (n:Nat) (f:Nat->Addr):Map:=fun j=>if j=n then f else ρ j
theorem After.push {o:Ob} {f:Nat->Addr} {h':Heap} {t:Nat} (R:Rel base ρ σ s.heap) (hk:∀ a x,s.heap.get? a=some x->h'.get? a=some x) (hz:s.heap.objs.size<=h'.objs.size)
  (hh:Holds (iJ ρ σ.n f) (σ.n+1) h' σ.n o) (hnew:∀ k,k<nc o->s.heap.objs.size<=f k) (hinj:∀ k l,k<nc o->l<nc o->f k=f l->k=l) :
  After base X ρ σ s (iJ ρ σ.n f) (σ.push o) { s with heap:=h',toks:=t }:=by
 have old:∀ j,j<σ.n->iJ ρ σ.n f j=ρ j:=fun j hj=>if_neg (Nat.ne_of_lt hj)
 have oldg:∀ j,j<σ.n->(σ.push o).get j=σ.get j:=fun j hj=>if_neg (Nat.ne_of_lt hj)
 have newg:(σ.push o).get σ.n=o:=if_pos rfl
 have newm:iJ ρ σ.n f σ.n=f:=if_pos rfl
 have lt_of:∀ j k,j<σ.n->k<nc (σ.get j)->ρ j k<s.heap.objs.size:=fun j k hj hkk=>R.own_lt ⟨j,k,hj,hkk,rfl⟩
 have cases_n:∀ j,j<σ.n+1->j<σ.n\/j=σ.n:=fun j hj=>Nat.lt_succ_iff_lt_or_eq.mp hj
 refine ⟨⟨fun a x e=>hk a x (R.stays a x e),fun j hj=>?_,fun j k j' k' hj hj' hl hl' e=>?_,fun a ha=>?_,Nat.le_trans R.size hz⟩,
  Nat.le_succ _,old,fun j hj=>by rw [oldg j hj],fun a x _ _ e=>hk a x e,fun j k h1 h2 h3=>?_,hz,fun _ _ e=>e,id,rfl⟩
 ·rcases cases_n j hj with q | rfl
  ·rw [oldg j q]
   exact ((R.hold j q).move (h':=h') fun k _ x e=>hk _ x e).mono q (Nat.le_succ _) old
  ·rw [newg];exact hh
 ·rcases cases_n j hj with q | rfl<;>rcases cases_n j' hj' with q' | rfl
  ·rw [oldg j q] at hl;rw [oldg j' q'] at hl';rw [old j q,old j' q'] at e
   exact R.inj j k j' k' q q' hl hl' e
  ·rw [oldg j q] at hl;rw [newg] at hl';rw [old j q,newm] at e
   exact absurd (lt_of j k q hl) (Nat.not_lt.mpr (e▸hnew k' hl'))
  ·rw [newg] at hl;rw [oldg j' q'] at hl';rw [newm,old j' q'] at e
   exact absurd (lt_of j' k' q' hl') (Nat.not_lt.mpr (e▸hnew k hl))
  ·rw [newg] at hl hl';rw [newm] at e
   exact ⟨rfl,hinj k k' hl hl' e⟩
 ·obtain ⟨j,k,hj,hl,e⟩:=ha
  rcases cases_n j hj with q | rfl
  ·rw [oldg j q] at hl;rw [old j q] at e
   exact R.above a ⟨j,k,q,hl,e⟩
  ·rw [newg] at hl;rw [newm] at e
   exact e▸Nat.le_trans R.size (hnew k hl)
 ·have:j=σ.n:=Nat.le_antisymm (Nat.lt_succ_iff.mp h2) h1
  subst this
  rw [newg] at h3;rw [newm];exact hnew k h3
end
section
variable {G:G0} {sc:Scope} {d:Nat}
theorem Here.fr {base:Heap} {env:Env} {lm:Loc} {ρ:Map} {σ:Sto} {s:Shared} (H:Here base env lm ρ σ s):∃ m,Fr base env.locals s.heap m:=
 let ⟨m,ns,_⟩:=H.locs;⟨m,ns,H.rel.stays,H.low _ (.inl rfl)⟩
noncomputable def fnF (g:FF) (f:LF):EF:=fun l σ=>(f l σ).bind fun a=>g a.1 a.2
theorem SE.fn {e:Expr} {args:List Expr} {p:Pos} {fa:Addr} {g:FF} {f:LF} {d':Nat} (he:SE G sc d e (kF (.fn fa))) (F:FnOK G d' fa g) (ha:SL G sc d args f) (hd:d'<=d:=by decide) (hk:keepIn G.K (.ref fa)=true:=by kernel_rfl)
  (hc:∀ env,eval (.Call e args [] p) env=(do callWith p (<- eval e env) [] (backTo p (starEach args env)) (backToKw p (keywordEach [] env))):=by intro _;rfl)
  (hs:∀ env,starEach args env=args.map fun e=>(false,eval e env):=by intro _;rfl):SE G sc d (.Call e args [] p) (fnF g f):=by
 intro x A lm ρ σ s v σ' Q E rm H eq hQ
 obtain ⟨⟨vs,σ₁⟩,h1,eq⟩:=obx eq
 refine Call_ (he x A lm ρ σ s _ _ _ _ rm H rfl fun ρ₀ s₀ va A0 Va=>?_) (hc _)
 cases Va
 refine cF hk hs (ha x p A lm ρ₀ σ s₀ _ _ _ _ rm (H.step A0) h1 fun ρ₁ s₁ vals A1 Vs=>⟨G.ok.X.keeps A1.rel.stays,?_⟩)
 exact wpAny_call (F.mono hd A ρ₁ σ₁ s₁ vs vals v σ' _ rm A1.rel Vs eq fun ρ' s' val A2 hv=>hQ _ _ _ ((A0.trans A1).trans A2) hv)
noncomputable def aF (C:Addr) (x:String) (g:FF) (f:EF) (fa:LF):EF:=fun l σ=>(f l σ).bind fun o=>(asR o.1).bind fun i=>(asO C (o.2.get i)).bind fun fs=>(noV (getF fs x)).bind fun _=>(fa l o.2).bind fun a=>g (.ref i :: a.1) a.2
theorem methF_inv {C:Addr} {x:String} {g:FF} {f:EF} {fa:LF} {l:Loc} {σ σ':Sto} {v:Val} (e:aF C x g f fa l σ=some (v,σ')) :
  ∃ i fs σ₁ vs σ₂,f l σ=some (.ref i,σ₁)/\σ₁.get i=.inst C fs/\getF fs x=none/\fa l σ₁=some (vs,σ₂)/\g (.ref i :: vs) σ₂=some (v,σ'):=by
 refine obE e fun o h1 e=>obE e fun i h2 e=>obE e fun fs h3 e=>obE e fun _ h4 e=>obE e fun a h5 e=>?_
 exact ⟨i,fs,o.2,a.1,a.2,prR h1 h2,dF h3,kP h4,h5,e⟩
theorem SE.meth {C:Addr} {x:String} {e:Expr} {args:List Expr} {ap p:Pos} {fa:Addr} {g:FF} {f:EF} {fl:LF} {d':Nat} (hC:Cls G.K C) (F₀:FnOK G d' fa g) (he:SE G sc d e f) (ha:SL G sc d args fl) (hd:d'<=d:=by decide) (hf:findIn G.K (.ref C) (Str.ofString x)=some (some (.ref fa)):=by kernel_rfl) (hfn:isFn G.K (.ref fa)=true:=by kernel_rfl)
  (hk:keepIn G.K (.ref fa)=true:=by kernel_rfl)
  (hm:∀ env,∃ pl,eval (.Call (.Attribute e (Str.ofString x) ap) args [] p) env=(do
   let ov <- eval e env
   standAt ap.atName
   let (f,first) <- holding [ov] (getMethod ov (Str.ofString x) pl)
   callWith p f first (backTo p (starEach args env)) []):=by intro _;exact ⟨_,rfl⟩)
  (hs:∀ env,starEach args env=args.map fun e=>(false,eval e env):=by intro _;rfl):SE G sc d (.Call (.Attribute e (Str.ofString x) ap) args [] p) (aF C x g f fl):=by
 have F:=F₀.mono hd
 intro y A lm ρ σ s v σ' Q E rm H eq hQ
 obtain ⟨i,fs,σ₁,vs,σ₂,h1,h2,h3,h4,h5⟩:=methF_inv eq
 obtain ⟨pl,hm⟩:=hm (y.env sc)
 refine MethodCall_ (pl:=pl) (he y A lm ρ σ s _ _ _ _ rm H h1 fun ρ₁ s₁ va A1 Va=>?_) hm
 obtain ⟨hi,rfl⟩:=Va
 obtain ⟨es,ep,I,r⟩:=A1.rel.inst hi h2
 have gl:=r.get (x:=x)
 rw [h3] at gl
 refine method_fn (G.ok.X.keeps A1.rel.stays) I hC.ga hC.gn hf (beq_iff_eq.mp hfn) (by show (lookIn _ (dictOf es ep)).map _=_;rw [lookIn_dict,gl];rfl) ?_
 refine cF hk hs (ha y p A lm ρ₁ σ₁ s₁ _ _ _ _ rm (H.step A1) h4 fun ρ₂ s₂ vals A2 Vs=>⟨G.ok.X.keeps A2.rel.stays,?_⟩)
 refine wpAny_call (F A ρ₂ σ₂ s₂ _ _ v σ' _ rm A2.rel (.cons (show VR ρ₂ σ₂.n (.ref i) _ from VR.after (show VR ρ₁ σ₁.n (.ref i) _ from ⟨hi,rfl⟩) A2) Vs) h5 fun ρ' s' val A3 hv=>?_)
 exact hQ _ _ _ ((A1.trans A2).trans A3) hv
noncomputable def idxF (f g:EF):EF:=fun l σ=>(f l σ).bind fun a=>(g l a.2).bind fun b=>(asR a.1).bind fun i=>(toI b.1).bind fun k=>(asL (b.2.get i)).bind fun xs=>if 0<=k/\k<2 ^ 62 then (xs[k.toNat]?).map fun v=>(v,b.2) else none
theorem Rel.plain {base:Heap} {ρ:Map} {σ:Sto} {h:Heap} (R:Rel base ρ σ h) {i:Nat} {xs:List Val} (hi:i<σ.n) (e:σ.get i=.list xs) :
  ∃ (vs:List Value) (n:Nat),h.get? (ρ i 0)=some { cls:=.type "list",data:=.seq vs.toArray n }/\All2 (VR ρ σ.n) xs vs:=by
 have:=R.hold i hi
 rw [e] at this
 obtain ⟨vs,⟨n,h⟩,r⟩:=this
 exact ⟨vs,n,h,r⟩
theorem Rel.isList {base:Heap} {ρ:Map} {σ:Sto} {h:Heap} (R:Rel base ρ σ h) {i:Nat} {xs:List Val} (hi:i<σ.n) (e:σ.get i=.list xs) :
  ∃ vs,h.IsList (ρ i 0) vs.toArray/\All2 (VR ρ σ.n) xs vs:=by
 obtain ⟨vs,n,h1,r⟩:=R.plain hi e
 exact ⟨vs,⟨_,h1,rfl,n,rfl⟩,r⟩
theorem idxF_inv {f g:EF} {l:Loc} {σ σ':Sto} {v:Val} (e:idxF f g l σ=some (v,σ')):∃ i k xs σ₁,f l σ=some (.ref i,σ₁)/\g l σ₁=some (.int k,σ')/\σ'.get i=.list xs/\(0<=k/\k<2 ^ 62)/\xs[k.toNat]?=some v:=by
 refine obE e fun a h1 e=>obE e fun b h2 e=>obE e fun i h3 e=>obE e fun k h4 e=>obE e fun xs h5 e=>itE e fun h6 e=>omE e fun w h7 e=>prE e ?_
 exact ⟨i,k,xs,a.2,prR h1 h3,prI h2 h4,bN h5,h6,h7⟩
theorem SE.idx {e1 e2:Expr} {p:Pos} {f g:EF} (h1:SE G sc d e1 f) (h2:SE G sc d e2 g) (hs:∀ o i,∃ ops,subscripted e2 false o i=operate ops (getItem o i):=by intro _ _;exact ⟨_,rfl⟩):SE G sc d (.Subscript e1 e2 p) (idxF f g):=by
 intro y A lm ρ σ s v σ' Q E rm H eq hQ
 obtain ⟨i,k,xs,σ₁,q1,q2,q3,q4,q5⟩:=idxF_inv eq
 refine Subscript_ (h1 y A lm ρ σ s _ _ _ _ rm H q1 fun ρ₁ s₁ va A1 Va=>h2 y A lm ρ₁ σ₁ s₁ _ _ _ _ rm (H.step A1) q2 fun ρ₂ s₂ vb A2 Vb=>?_)
 obtain ⟨hi,rfl⟩:=Va.after A2
 obtain ⟨t,rfl⟩:=Vb
 obtain ⟨vs,hl,r⟩:=A2.rel.isList hi q3
 obtain ⟨val,hv,vr⟩:=r.get q5
 obtain ⟨ops,hops⟩:=hs (.ref (ρ₂ i 0)) (.int k t)
 exact tail_any hl.typeIs slot_list_getitem.lookup (wpAny_getItem_list hl q4.1 (by lia) (by rw [List.getElem?_toArray];exact hv) (hQ _ _ _ (A1.trans A2) vr)) hops
noncomputable def subF (C:Addr) (g:FF) (f h:EF):EF:=fun l σ=>(f l σ).bind fun a=>(h l a.2).bind fun b=>(asR a.1).bind fun i=>(asO C (b.2.get i)).bind fun _=>g [.ref i,b.1] b.2
theorem subF_inv {C:Addr} {g:FF} {f h:EF} {l:Loc} {σ σ':Sto} {v:Val} (e:subF C g f h l σ=some (v,σ')):∃ i b fs σ₁ σ₂,f l σ=some (.ref i,σ₁)/\h l σ₁=some (b,σ₂)/\σ₂.get i=.inst C fs/\g [.ref i,b] σ₂=some (v,σ'):=by
 refine obE e fun a h1 e=>obE e fun b h2 e=>obE e fun i h3 e=>obE e fun fs h4 e=>?_
 exact ⟨i,b.1,fs,a.2,b.2,prR h1 h3,h2,dF h4,e⟩
theorem SE.sub {C fa:Addr} {g:FF} {e1 e2:Expr} {p:Pos} {f h:EF} {d':Nat} (F₀:FnOK G d' fa g)
  (h1:SE G sc (d+1) e1 f) (h2:SE G sc (d+1) e2 h) (hd:d'<=d:=by decide) (hf:findIn G.K (.ref C) "__getitem__"=some (some (.ref fa)):=by kernel_rfl) (hfn:isFn G.K (.ref fa)=true:=by kernel_rfl) (hin:fnIn G.K fa=true:=by kernel_rfl) (hs:∀ o i,subscripted e2 true o i=runValue (.builtin "lifetime.subscript" ⟨[o,i],[]⟩):=by intro _ _;rfl):SE G sc (d+1) (.Subscript e1 e2 p) (subF C g f h):=by
 have F:=F₀.mono hd
 intro y A lm ρ σ s v σ' Q E rm H eq hQ
 obtain ⟨i,b,fs,σ₁,σ₂,q1,q2,q3,eq⟩:=subF_inv eq
 refine Subscript_ (h1 y A lm ρ σ s _ _ _ _ rm H q1 fun ρ₁ s₁ va A1 Va=>h2 y A lm ρ₁ σ₁ s₁ _ _ _ _ rm (H.step A1) q2 fun ρ₂ s₂ vb A2 Vb=>?_)
 have Va2:=Va.after A2
 obtain ⟨hi,rfl⟩:=Va2
 obtain ⟨es,ep,I,r⟩:=A2.rel.inst hi q3
 obtain ⟨m,Fm⟩:=((H.step A1).step A2).fr
 refine sub_K Fm G.ok.X I hf hin hfn ?_ (hs _ _)
 exact wpAny_call (F A.in1 ρ₂ σ₂ s₂ _ _ v σ' _ rm.in1 A2.rel (.cons (show VR ρ₂ σ₂.n (.ref i) _ from ⟨hi,rfl⟩) (.cons Vb .nil)) eq fun ρ' s' val A3 hv=>hQ _ _ _ ((A1.trans A2).trans A3) hv)
end
inductive Fl where
 | next | brk | cont
 | ret (v:Val)
noncomputable abbrev SF:=Loc->Sto->Option (Fl×Loc×Sto)
noncomputable def FlR (ρ:Map) (n:Nat):Fl->Flow->Prop
 | .next,f=>f=.next
 | .brk,f=>f=.brk
 | .cont,f=>f=.cont
 | .ret v,f=>∃ val,f=.ret val/\VR ρ n v val
noncomputable def SS (G:G0) (sc:Scope) (d:Nat) (st:Stmt) (f:SF):Prop:=
 ∀ (x:Vx) (A:Around) (lm:Loc) (ρ:Map) (σ:Sto) (s:Shared) (fl:Fl) (lm':Loc) (σ':Sto) (Q:Flow->Shared->Prop) (E:Value->Shared->Prop),
  Room A d->Here G.base (x.env sc) lm ρ σ s->f lm σ=some (fl,lm',σ')->
  (∀ ρ' s' flw,After G.base (aE (x.env sc)) ρ σ s ρ' σ' s'->Here G.base (x.env sc) lm' ρ' σ' s'->FlR ρ' σ'.n fl flw->Q flw s')->wpAny (model G.prog G.w) A (exec st (x.env sc)) Q E s
noncomputable def SB (G:G0) (sc:Scope) (d:Nat) (st:List Stmt) (f:SF):Prop:=
 ∀ (x:Vx) (A:Around) (lm:Loc) (ρ:Map) (σ:Sto) (s:Shared) (fl:Fl) (lm':Loc) (σ':Sto) (Q:Flow->Shared->Prop) (E:Value->Shared->Prop),
  Room A d->Here G.base (x.env sc) lm ρ σ s->f lm σ=some (fl,lm',σ')->
  (∀ ρ' s' flw,After G.base (aE (x.env sc)) ρ σ s ρ' σ' s'->Here G.base (x.env sc) lm' ρ' σ' s'->FlR ρ' σ'.n fl flw->Q flw s')->wpAny (model G.prog G.w) A (execs st (x.env sc)) Q E s
section
variable {G:G0} {sc:Scope} {d:Nat}
noncomputable def nilB:SF:=fun l σ=>some (.next,l,σ)
noncomputable def seqB (f g:SF):SF:=fun l σ=>(f l σ).bind fun a=>match a.1 with
 | .next=>g a.2.1 a.2.2
 | fl=>some (fl,a.2.1,a.2.2)
theorem SB.nil:SB G sc d [] nilB:=by
 intro x A lm ρ σ s fl lm' σ' Q E rm H e hQ
 cases e
 exact wpAny_execs_nil (hQ _ _ _ (.refl H.rel) H rfl)
theorem SB.cons {st:Stmt} {r:List Stmt} {f g:SF} (h:SS G sc d st f) (hr:SB G sc d r g):SB G sc d (st :: r) (seqB f g):=by
 intro x A lm ρ σ s fl lm' σ' Q E rm H e hQ
 obtain ⟨⟨fl₁,l₁,σ₁⟩,h1,e⟩:=obx e
 refine wpAny_execs_cons (h x A lm ρ σ s _ _ _ _ _ rm H h1 fun ρ₁ s₁ flw A1 H1 F1=>?_)
 cases fl₁ with
 | next=>cases F1;exact hr x A _ _ _ _ _ _ _ _ _ rm H1 e fun ρ' s' flw A2 H2 F2=>hQ _ _ _ (A1.trans A2) H2 F2
 | brk=>cases F1;cases e;exact hQ _ _ _ A1 H1 rfl
 | cont=>cases F1;cases e;exact hQ _ _ _ A1 H1 rfl
 | ret v=>obtain ⟨val,rfl,vr⟩:=F1;cases e;exact hQ _ _ _ A1 H1 ⟨_,rfl,vr⟩
theorem SB.one {st:Stmt} {f:SF} (h:SS G sc d st f):SB G sc d [st] f:=by
 intro x A lm ρ σ s fl lm' σ' Q E rm H e hQ
 refine wpAny_execs_cons (h x A lm ρ σ s _ _ _ _ _ rm H e fun ρ₁ s₁ flw A1 H1 F1=>?_)
 cases fl with
 | next=>cases F1;exact wpAny_execs_nil (hQ _ _ _ A1 H1 rfl)
 | brk=>cases F1;exact hQ _ _ _ A1 H1 rfl
 | cont=>cases F1;exact hQ _ _ _ A1 H1 rfl
 | ret v=>obtain ⟨val,rfl,vr⟩:=F1;exact hQ _ _ _ A1 H1 ⟨_,rfl,vr⟩
set_option tactic.hygienic true in
theorem kW {env:Env} {base:Heap} {x:String} {lm:Loc} {ρ:Map} {σ:Sto} {s:Shared} {v:Val} {val:Value} {M:Model} {A:Around} {Q:Unit->Shared->Prop} {E:Value->Shared->Prop}
  (H:Here base env lm ρ σ s) (hv:VR ρ σ.n v val) (hk:env.kindOf (Str.ofString x)=some .local) (hf:env.scope.kind=.function)
  (hQ:∀ s',After base (aE env) ρ σ s ρ σ s'->Here base env (lm.put x v) ρ σ s'->Q () s'):wpAny M A (storeName env (Str.ofString x) val) Q E s:=by
 obtain ⟨m,ns,hl⟩:=H.locs
 refine wpAny_storeName_local hk ns (fun h' ns' sb=>?_) (by rw [hf];rfl)
 have A1:After base (aE env) ρ σ s ρ σ { s with heap:=h',toks:=s.toks+1 }:=
  (After.frame (a:=env.locals) H.rel (H.own _ (.inl rfl)) (H.low _ (.inl rfl)) (Nat.le_of_eq sb.1.symm) fun b o hb e=>(sb.2 b hb).trans e).weaken fun x hx=>.inl hx
 refine hQ _ A1 ⟨A1.rel,⟨_,ns',fun y u hy=>?_⟩,H.own,H.low,fun a ha=>by show a<h'.objs.size;rw [sb.1];exact H.lt a ha,H.sep,H.one,fun y c hc=>?_,H.has⟩
 ·unfold Loc.put at hy
  split at hy
  ·rename_i q;subst q;cases hy
   exact ⟨val,.inl ⟨hk,if_pos rfl⟩,hv⟩
  ·rename_i q
   obtain ⟨w,va,vr⟩:=hl y u hy
   refine ⟨w,?_,vr⟩
   rcases va with ⟨k1,k2⟩ | ⟨k1,c,o,hc,ho,hd⟩
   ·exact .inl ⟨k1,(if_neg fun z=>q (eD z)).trans k2⟩
   ·exact .inr ⟨k1,c,o,hc,(sb.2 c (H.sep _ c hc)).trans ho,hd⟩
 ·obtain ⟨v₀,o,ho,hd⟩:=H.cel y c hc
  exact ⟨v₀,o,(sb.2 c (H.sep _ c hc)).trans ho,hd⟩
set_option tactic.hygienic true in
theorem sZ {env:Env} {base:Heap} {x:String} {c:Addr} {lm:Loc} {ρ:Map} {σ:Sto} {s:Shared} {v:Val} {val:Value} {M:Model} {A:Around} {Q:Unit->Shared->Prop} {E:Value->Shared->Prop}
  (H:Here base env lm ρ σ s) (hv:VR ρ σ.n v val) (hk:env.kindOf (Str.ofString x)=some .cell) (hf:env.scope.kind=.function) (hc:env.cells.lookup (Str.ofString x)=some c)
  (hQ:∀ s',After base (aE env) ρ σ s ρ σ s'->Here base env (lm.put x v) ρ σ s'->Q () s'):wpAny M A (storeName env (Str.ofString x) val) Q E s:=by
 obtain ⟨m,ns,hl⟩:=H.locs
 obtain ⟨v₀,hcel⟩:=H.cel _ c hc
 refine wpAny_storeName_cell hf hk hc hcel (fun h' hic sb=>?_)
 have A1:After base (aE env) ρ σ s ρ σ { s with heap:=h',toks:=s.toks }:=
  (After.frame (a:=c) H.rel (H.own _ (.inr ⟨_,hc⟩)) (H.low _ (.inr ⟨_,hc⟩)) (Nat.le_of_eq sb.1.symm) fun b o hb e=>(sb.2 b hb).trans e).weaken fun x hx=>.inr ⟨_,hx▸hc⟩
 obtain ⟨oL,es,ep,hL,r⟩:=ns
 refine hQ _ A1 ⟨A1.rel,⟨m,⟨oL,es,ep,(sb.2 _ fun q=>H.sep _ c hc q.symm).trans hL,r⟩,fun y u hy=>?_⟩,H.own,H.low,fun a ha=>by show a<h'.objs.size;rw [sb.1];exact H.lt a ha,H.sep,H.one,fun y c' hc'=>?_,H.has⟩
 ·unfold Loc.put at hy
  split at hy
  ·rename_i q;subst q;cases hy
   obtain ⟨o,ho,hd⟩:=hic
   exact ⟨val,.inr ⟨.inl hk,c,o,hc,ho,hd⟩,hv⟩
  ·rename_i q
   obtain ⟨w,va,vr⟩:=hl y u hy
   refine ⟨w,?_,vr⟩
   rcases va with ⟨k1,k2⟩ | ⟨k1,c',o,hc',ho,hd⟩
   ·exact .inl ⟨k1,k2⟩
   ·exact .inr ⟨k1,c',o,hc',(sb.2 c' fun z=>q (eD (H.one _ _ c (z▸hc') hc))).trans ho,hd⟩
 ·by_cases z:c'=c
  ·subst z;exact ⟨_,hic⟩
  ·obtain ⟨v₁,o,ho,hd⟩:=H.cel y c' hc'
   exact ⟨v₁,o,(sb.2 c' z).trans ho,hd⟩
noncomputable def Sto1 (sc:Scope) (x:String):Prop:=∀ y:Vx,(y.env sc).kindOf (Str.ofString x)=some .local\/(y.env sc).kindOf (Str.ofString x)=some .cell
theorem eW {env:Env} {base:Heap} {x:String} {lm:Loc} {ρ:Map} {σ:Sto} {s:Shared} {v:Val} {val:Value} {M:Model} {A:Around} {Q:Unit->Shared->Prop} {E:Value->Shared->Prop}
  (H:Here base env lm ρ σ s) (hv:VR ρ σ.n v val) (hk:env.kindOf (Str.ofString x)=some .local\/env.kindOf (Str.ofString x)=some .cell) (hf:env.scope.kind=.function)
  (hQ:∀ s',After base (aE env) ρ σ s ρ σ s'->Here base env (lm.put x v) ρ σ s'->Q () s'):wpAny M A (storeName env (Str.ofString x) val) Q E s:=by
 rcases hk with hk | hk
 ·exact kW H hv hk hf hQ
 ·obtain ⟨c,hc⟩:=H.has _ hk
  exact sZ H hv hk hf hc hQ
noncomputable def setF (x:String) (f:EF):SF:=fun l σ=>(f l σ).map fun a=>(.next,l.put x a.1,a.2)
theorem SS.assign {x:String} {p p':Pos} {e:Expr} {f:EF} (h:SE G sc d e f) (hk:sc.kind=.function:=by rfl) (hx:Sto1 sc x:=by intro _;first | exact .inl rfl | exact .inr rfl)
  (hs:∀ env,swapsWith e (some (.Name (Str.ofString x) p')) p.line env=pure false:=by intro _;rfl):SS G sc d (.Assign [.Name (Str.ofString x) p'] e p) (setF x f):=by
 intro y A lm ρ σ s fl lm' σ' Q E rm H eq hQ
 obtain ⟨⟨a,σ₁⟩,h1,eq⟩:=omx eq
 cases eq
 refine wpAny_Assign_Name (h y A lm ρ σ s _ _ _ _ rm H h1 fun ρ₁ s₁ va A1 Va=>?_) (hs _)
 exact eW (H.step A1) Va (hx y) hk fun s' A2 H2=>hQ _ _ _ ((A1.weaken fun _ h=>h.elim).trans A2) H2 rfl
noncomputable def isAS (op:Operator):Bool:=match op with
 | .Add | .Sub=>true
 | .Mult | .FloorDiv | .Mod | .LShift | .RShift | .BitAnd | .BitOr | .MatMult | .Div | .Pow | .BitXor=>false
noncomputable def augV (op:Operator) (a b:Val):Option Val:=if isAS op=true then binV op a b else none
noncomputable def augN (op:Operator) (x:String) (f:EF):SF:=fun l σ=>(l x).bind fun a=>(f l σ).bind fun b=>(augV op a b.1).map fun v=>(.next,l.put x v,b.2)
theorem isAS_ {P:Operator->Prop} {op:Operator} (h:isAS op=true) (h1:P .Add) (h2:P .Sub):P op:=by
 cases op<;>first | exact h1 | exact h2 | cases h
theorem augV_ok {op:Operator} {a b v:Val} {ρ:Map} {n:Nat} {va vb:Value} {A:Around} {s:Shared} {Q:Value->Shared->Prop} {E:Value->Shared->Prop} (h:augV op a b=some v) (Ha:VR ρ n a va) (Hb:VR ρ n b vb)
  (hQ:∀ t val,VR ρ n v val->Q val { s with toks:=t }):wpAny (model G.prog G.w) A (inplaceOp op va vb) Q E s:=by
 refine itE h fun q h=>obE h fun a h1 h=>obE h fun b h2 h=>?_
 rw [eB h1] at Ha;rw [eB h2] at Hb
 obtain ⟨t,rfl⟩:=Ha;obtain ⟨u,rfl⟩:=Hb
 refine isAS_ (P:=fun op=>binI op a b=some v->wpAny (model G.prog G.w) A (inplaceOp op (.int a t) (.int b u)) Q E s) q (fun h=>?_) (fun h=>?_) h
 ·cases h;exact PyProof.Rows.iadd_int (hQ _ _ ⟨_,rfl⟩)
 ·cases h;exact PyProof.Rows.isub_int (hQ _ _ ⟨_,rfl⟩)
theorem SS.aug {x:String} {op:Operator} {p p':Pos} {e:Expr} {f:EF} (hk:sc.kind=.function) (hx:eG sc (Str.ofString x) .local) (h:SE G sc d e f) :
  SS G sc d (.AugAssign (.Name (Str.ofString x) p') op e p) (augN op x f):=by
 intro y A lm ρ σ s fl lm' σ' Q E rm H eq hQ
 obtain ⟨a,h0,eq⟩:=obx eq
 obtain ⟨⟨b,σ₁⟩,h1,eq⟩:=obx eq
 obtain ⟨v,h2,eq⟩:=omx eq
 cases eq
 obtain ⟨m,ns,hl⟩:=H.locs
 obtain ⟨val,va,vr⟩:=hl x a h0
 have hm:m (Str.ofString x)=some val:=by
  rcases va with ⟨_,k⟩ | ⟨k,_⟩
  ·exact k
  ·rw [hx y] at k;rcases k with k | k<;>cases k
 refine wpAny_AugAssign_Name (wpAny_loadName_local hk (hx y) ns hm (h y A lm ρ σ s _ _ _ _ rm H h1 fun ρ₁ s₁ vb A1 Vb=>?_))
 refine augV_ok h2 (vr.after A1) Vb fun t w hw=>?_
 have A2:=A1.trans (After.toks (X:=noX) (t:=t) A1.rel)
 exact kW (H.step A2) hw (hx y) hk fun s' A3 H3=>hQ _ _ _ ((A2.weaken fun _ h=>h.elim).trans A3) H3 rfl
noncomputable def aU (f:EF):SF:=fun l σ=>(f l σ).map fun a=>(.next,l,a.2)
theorem SS.expr {p:Pos} {e:Expr} {f:EF} (h:SE G sc d e f) (hi:∀ y:Vx,interactive (y.env sc)=false:=by intro _;rfl) (hs:∀ env,swapsWith e none p.line env=pure false:=by intro _;rfl):SS G sc d (.Expr e p) (aU f):=by
 intro y A lm ρ σ s fl lm' σ' Q E rm H eq hQ
 obtain ⟨⟨a,σ₁⟩,h1,eq⟩:=omx eq
 cases eq
 exact wpAny_Expr_any (h y A lm ρ σ s _ _ _ _ rm H h1 fun ρ₁ s₁ va A1 Va=>hQ _ _ _ (A1.weaken fun _ h=>h.elim) (H.step A1) rfl) (hi y) (hs _)
noncomputable def ifS (t:TF) (f g:SF):SF:=fun l σ=>(t l σ).bind fun b=>if b.1 then f l b.2 else g l b.2
theorem SS.ite {p:Pos} {t:Expr} {b1 b2:List Stmt} {ft:TF} {f g:SF} (ht:ST G sc d t ft) (hf:SB G sc d b1 f) (hg:SB G sc d b2 g):SS G sc d (.If t b1 b2 p) (ifS ft f g):=by
 intro y A lm ρ σ s fl lm' σ' Q E rm H eq hQ
 obtain ⟨⟨b,σ₁⟩,h1,eq⟩:=obx eq
 refine wpAny_If (ht y A lm ρ σ s b _ _ _ rm H h1 fun ρ₁ s₁ A1=>?_)
 have A1':=A1.weaken (Y:=aE (y.env sc)) fun _ h=>h.elim
 cases b
 ·exact hg y A _ _ _ _ _ _ _ _ _ rm (H.step A1) eq fun ρ' s' flw A2 H2 F2=>hQ _ _ _ (A1'.trans A2) H2 F2
 ·exact hf y A _ _ _ _ _ _ _ _ _ rm (H.step A1) eq fun ρ' s' flw A2 H2 F2=>hQ _ _ _ (A1'.trans A2) H2 F2
noncomputable def retS (f:EF):SF:=fun l σ=>(f l σ).map fun a=>(.ret a.1,l,a.2)
theorem SS.ret {p:Pos} {e:Expr} {f:EF} (h:SE G sc d e f):SS G sc d (.Return (some e) p) (retS f):=by
 intro y A lm ρ σ s fl lm' σ' Q E rm H eq hQ
 obtain ⟨⟨a,σ₁⟩,h1,eq⟩:=omx eq
 cases eq
 exact wpAny_Return_some (h y A lm ρ σ s _ _ _ _ rm H h1 fun ρ₁ s₁ va A1 Va=>hQ _ _ _ (A1.weaken fun _ h=>h.elim) (H.step A1) ⟨_,rfl,Va⟩)
noncomputable def retN:SF:=fun l σ=>some (.ret .none,l,σ)
theorem SS.ret0 {p:Pos}:SS G sc d (.Return none p) retN:=by
 intro y A lm ρ σ s fl lm' σ' Q E rm H eq hQ
 cases eq
 exact wpAny_Return_none (hQ _ _ _ (.refl H.rel) H ⟨_,rfl,rfl⟩)
noncomputable def brkS:SF:=fun l σ=>some (.brk,l,σ)
theorem SS.brk {p:Pos}:SS G sc d (.Break p) brkS:=by
 intro y A lm ρ σ s fl lm' σ' Q E rm H eq hQ
 cases eq
 exact wpAny_Break (hQ _ _ _ (.refl H.rel) H rfl)
noncomputable def contS:SF:=fun l σ=>some (.cont,l,σ)
theorem SS.cont {p:Pos}:SS G sc d (.Continue p) contS:=by
 intro y A lm ρ σ s fl lm' σ' Q E rm H eq hQ
 cases eq
 exact wpAny_Continue (hQ _ _ _ (.refl H.rel) H rfl)
noncomputable def contF (F:SF) (r:Fl×Loc×Sto):Option (Fl×Loc×Sto):=match r.1 with
 | .next | .cont=>F r.2.1 r.2.2
 | .brk=>some (.next,r.2.1,r.2.2)
 | .ret v=>some (.ret v,r.2.1,r.2.2)
noncomputable def bG (t:TF) (b:SF):Nat->SF
 | 0=>fun _ _=>none
 | n+1=>fun l σ=>(t l σ).bind fun c=>if c.1 then (b l c.2).bind (contF (bG t b n)) else some (.next,l,c.2)
noncomputable def nE (G:G0) (A:Around) (env:Env) (R:Result->Shared->Prop):Value->Shared->Prop:=notedBy (model G.prog G.w) A env fun e s'=>R (.error e) s'
noncomputable def fQ (R:Result->Shared->Prop) (I:Nat->Shared->Prop) (n:Nat):Flow->Shared->Prop:=fun f s=>match f with
 | .next | .cont=>∃ m,m<n/\I m s
 | .brk=>R (.ok .next) s
 | .ret v=>R (.ok (.ret v)) s
noncomputable def wQ (G:G0) (A:Around) (env:Env) (b:List Stmt) (R:Result->Shared->Prop) (I:Nat->Shared->Prop) (n:Nat):Bool->Shared->Prop:=fun c s=>
 if c then wpAny (model G.prog G.w) A (execs b env) (fQ R I n) (nE G A env R) s else wpAny (model G.prog G.w) A (execs [] env) (fun f s=>R (.ok f) s) (nE G A env R) s
theorem whC {A:Around} {env:Env} {t:Expr} {b:List Stmt} {R:Result->Shared->Prop} {s:Shared} (I:Nat->Shared->Prop) (turn:∀ n s,I n s->wpAny (model G.prog G.w) A (isTrue t env (eval t env)) (wQ G A env b R I n) (nE G A env R) s) (n:Nat) (h:I n s) :
  codeAny (model G.prog G.w) A (.whileLoop t b [] env) R s:=codeAny_whileLoop I turn n h
inductive WI (G:G0) (X:Addr->Prop) (P:Loc->Map->Sto->Shared->Prop) (F:Nat->SF) (ρ:Map) (σ:Sto) (s:Shared) (r:Fl×Loc×Sto) (n:Nat) (s':Shared):Prop
 | mk (ρ':Map) (σ':Sto) (l:Loc) (A:After G.base X ρ σ s ρ' σ' s') (H:P l ρ' σ' s') (e:F n l σ'=some r)
theorem SS.while_ {p:Pos} {t:Expr} {b:List Stmt} {ft:TF} {f:SF} (n:Nat) (ht:ST G sc d t ft) (hf:SB G sc d b f):SS G sc d (.While t b [] p) (bG ft f n):=by
 intro y A lm ρ σ s fl lm' σ' Q E rm H eq hQ
 have fin:∀ f l τ ρ' s' flw,(f,l,τ)=(fl,lm',σ')->After G.base (aE (y.env sc)) ρ σ s ρ' τ s'->Here G.base (y.env sc) l ρ' τ s'->FlR ρ' τ.n f flw->Q flw s':=fun _ _ _ ρ' s' flw e=>trE e.symm (hQ ρ' s' flw)
 refine wpAny_While (whC (WI G (aE (y.env sc)) (Here G.base (y.env sc)) (bG ft f) ρ σ s (fl,lm',σ')) (fun n s₁ hi=>?_) n ⟨ρ,σ,lm,.refl H.rel,H,eq⟩)
 generalize hr:(fl,lm',σ')=r at fin hi
 clear hQ eq H hr
 cases hi with | mk ρ₁ σ₁ lm₁ A1 H1 eq1=>
 cases n with
 | zero=>cases eq1
 | succ n=>
  refine obE eq1 fun c e2 eq2=>?_
  refine ht y A lm₁ ρ₁ σ₁ s₁ c.1 c.2 _ _ rm H1 e2 fun ρ₂ s₂ A2=>?_
  have A2':=A1.trans (A2.weaken (Y:=aE (y.env sc)) fun _ h=>h.elim)
  have H2:=H1.step A2
  obtain ⟨c,σ₂⟩:=c
  cases c with
  | false=>exact wpAny_execs_nil (fin _ _ _ _ _ _ (Option.some.inj eq2) A2' H2 rfl)
  | true=>
   refine obE eq2 fun q e3 eq3=>?_
   refine hf y A _ _ _ _ q.1 q.2.1 q.2.2 _ _ rm H2 e3 fun ρ₃ s₃ flw A3 H3 F3=>?_
   have A4:=A2'.trans A3
   obtain ⟨f,l₃,σ₃⟩:=q
   cases f with
   | next=>cases F3;exact ⟨n,Nat.lt_succ_self n,ρ₃,σ₃,l₃,A4,H3,eq3⟩
   | cont=>cases F3;exact ⟨n,Nat.lt_succ_self n,ρ₃,σ₃,l₃,A4,H3,eq3⟩
   | brk=>cases F3;exact fin _ _ _ _ _ _ (Option.some.inj eq3) A4 H3 rfl
   | ret v=>obtain ⟨val,rfl,vr⟩:=F3;exact fin _ _ _ _ _ _ (Option.some.inj eq3) A4 H3 ⟨_,rfl,vr⟩
end
section
variable {G:G0} {sc:Scope} {d:Nat}
theorem lE (fs:List (String×Val)) (x:String) (v:Val):(putF fs x v).length<=fs.length+1:=by
 induction fs with
 | nil=>exact Nat.le_refl _
 | cons p r ih=>
  rw [putF_c]
  by_cases q:(p.1 == x)=true
  ·rw [if_pos q];exact Nat.le_succ _
  ·rw [if_neg q];exact Nat.succ_le_succ ih
theorem sE {x:Str} {es:List DictEntry} (hl:(getL x es).isSome=true):(!es.any (·.key.isStr x) && es.any (·.refKey))=false:=by
 cases q:es.find? (fun e=>e.key.isStr x) with
 | some en=>rw [List.any_eq_true.mpr ⟨en,List.mem_of_find?_eq_some q,List.find?_some q⟩];rfl
 | none=>
  unfold getL at hl
  rw [q] at hl
  by_cases z:es.any (·.refKey)=true
  ·exact nomatch (congrArg Option.isSome (if_pos z)).symm.trans hl
  ·rw [Bool.not_eq_true] at z;rw [z,Bool.and_false]
theorem osa_inst {C:Addr} {x:String} (hC:Cls G.K C) (ht:takerIn G.K C (Str.ofString x)=some none) {ρ:Map} {σ:Sto} {s:Shared} {i:Nat} {fs:List (String×Val)} {v:Val} {val:Value} {tk:Tok} {A:Around}
  {Q:Result->Shared->Prop} (R:Rel G.base ρ σ s.heap) (hi:i<σ.n) (e:σ.get i=.inst C fs) (hz:fs.length<=900) (hv:VR ρ σ.n v val)
  (hQ:∀ s',After G.base noX ρ σ s ρ (σ.put i (.inst C (putF fs x v))) s'->Q (.ok (.ret .none)) s'):codeAny (model G.prog G.w) A (.call (.builtin "object.__setattr__") ⟨[.ref (ρ i 0),.str (Str.ofString x) tk,val],[]⟩) Q s:=by
 obtain ⟨es,ep,I,r⟩:=R.inst hi e
 have X:=G.ok.X.keeps R.stays
 refine osa_open X I hC.po ht fun b=>?_
 obtain ⟨cd,hc,hd'⟩:=any_some hC.hd
 have gl:=r.get (x:=x)
 have hl:(getL (Str.ofString x) es).isSome=true:=by
  cases q:getF fs x with
  | none=>rw [q] at gl;rw [gl];rfl
  | some w=>rw [q] at gl;obtain ⟨w',h1,_⟩:=gl;rw [h1];rfl
 obtain ⟨hx,hcl,hn,D⟩:=I
 have D:s.heap.get? (ρ i 1)=some (dictOf es ep):=D
 have rp:=FR.put (x:=x) (hs:=PyData.keyHash G.w.params (Str.ofString x)) (tk:=s.toks) hv r
 have hlen:(putL (Str.ofString x) (PyData.keyHash G.w.params (Str.ofString x)) (.str (Str.ofString x) s.toks) val es).length<=1000:=by
  rw [<- rp.length];exact Nat.le_trans (lE ..) (by lia)
 refine wpAny_bind (wpAny_pure (wpAny_bind (wpAny_bind (wpAny_loadPart hx (wpAny_bind ((looks_clsIn X hc).here ?_))))))
 rw [hd']
 refine wpAny_pure (a:=some (ρ i 1)) (wpAny_bind (wpAny_pure (wpAny_bind ?_)))
 unfold nsSet
 refine wpAny_bind (wpAny_bind (wpAny_askSetting (wpAny_pure (wpAny_bind (wpAny_mkText (wpAny_bind (wpAny_loadPart D ?_)))))))
 have c:(!es.toArray.any (·.key.isStr (Str.ofString x)) && es.toArray.any (·.refKey))=false:=by
  rw [<- Array.any_toList,<- Array.any_toList]
  exact sE hl
 dsimp only
 rw [aRefKeyMayBeTheName_at,c]
 refine wpAny_updatePart D ?_
 have D':(s.heap.update (ρ i 1) (Obj.putName (Str.ofString x) (PyData.keyHash G.w.params (Str.ofString x)) (.str (Str.ofString x) s.toks) val)).get? (ρ i 1)=some (dictOf (putL (Str.ofString x) (PyData.keyHash G.w.params (Str.ofString x)) (.str (Str.ofString x) s.toks) val es) (putN (Str.ofString x) es ep)):=by
  rw [Heap.get?_update_self _ D (by rw [putName_dict];rfl),putName_dict]
 refine wpAny_bind (wpAny_lookBehind D' (pastItsLine_dict (by rw [List.size_toArray,sizeLine_eq];lia)) ?_)
 refine wpAny_pure (hQ _ ?_)
 refine After.put (k:=1) (t:=s.toks+1) R hi (by rw [e];simp [nc]) (by rw [e];rfl) (Heap.SameBut.update ..) ⟨?_,_,_,D',rp⟩
 refine (Heap.get?_update_other _ _ fun q=>?_).trans hx
 have:=(R.inj i 1 i 0 hi hi (by rw [e];simp [nc]) (by rw [e];simp [nc]) q).2
 lia
theorem mE {C:Addr} {x:String} (hC:Cls G.K C) (ht:takerIn G.K C (Str.ofString x)=some none) {ρ:Map} {σ:Sto} {s:Shared} {i:Nat} {fs:List (String×Val)} {v:Val} {val:Value} {A:Around}
  {Q:Unit->Shared->Prop} {E:Value->Shared->Prop} (R:Rel G.base ρ σ s.heap) (hi:i<σ.n) (e:σ.get i=.inst C fs) (hz:fs.length<=900) (hv:VR ρ σ.n v val)
  (hQ:∀ s',After G.base noX ρ σ s ρ (σ.put i (.inst C (putF fs x v))) s'->Q () s'):wpAny (model G.prog G.w) A (setAttr (.ref (ρ i 0)) (Str.ofString x) val) Q E s:=by
 obtain ⟨es,ep,I,r⟩:=R.inst hi e
 exact set_plain (G.ok.X.keeps R.stays) I hC.sa (osa_inst (s:={ s with toks:=s.toks+1 }) hC ht R hi e hz hv fun s' a=>hQ s' ((After.toks (X:=noX) (t:=s.toks+1) R).trans a))
noncomputable def aZ (C:Addr) (x:String) (f g:EF):SF:=fun l σ=>(f l σ).bind fun a=>(g l a.2).bind fun o=>(asR o.1).bind fun i=>(asO C (o.2.get i)).bind fun fs=>if fs.length<=900 then some (.next,l,o.2.put i (.inst C (putF fs x a.1))) else none
theorem nY {C:Addr} {x:String} {f g:EF} {l l':Loc} {σ σ':Sto} {fl:Fl} (e:aZ C x f g l σ=some (fl,l',σ')) :
  ∃ i fs a σ₁ σ₂,f l σ=some (a,σ₁)/\g l σ₁=some (.ref i,σ₂)/\σ₂.get i=.inst C fs/\fs.length<=900/\fl=.next/\l'=l/\σ'=σ₂.put i (.inst C (putF fs x a)):=by
 refine obE e fun a h1 e=>obE e fun o h2 e=>obE e fun i h3 e=>obE e fun fs h4 e=>itE e fun h5 e=>trE (Option.some.inj e) ?_
 exact ⟨i,fs,a.1,a.2,o.2,h1,prR h2 h3,dF h4,h5,rfl,rfl,rfl⟩
theorem SS.setAttr {C:Addr} {x:String} {e1 e2:Expr} {p p':Pos} {f g:EF} (hC:Cls G.K C) (h1:SE G sc d e1 f) (h2:SE G sc d e2 g) (ht:takerIn G.K C (Str.ofString x)=some none:=by kernel_rfl)
  (hs:∀ env,swapsWith e1 (some (.Attribute e2 (Str.ofString x) p')) p.line env=pure false:=by intro _;rfl):SS G sc d (.Assign [.Attribute e2 (Str.ofString x) p'] e1 p) (aZ C x f g):=by
 intro y A lm ρ σ s fl lm' σ' Q E rm H eq hQ
 obtain ⟨i,fs,a,σ₁,σ₂,q1,q2,q3,q4,rfl,rfl,rfl⟩:=nY eq
 refine plainObj_wpAny_Assign_Attribute (h1 y A lm' ρ σ s _ _ _ _ rm H q1 fun ρ₁ s₁ va A1 Va=>h2 y A lm' ρ₁ σ₁ s₁ _ _ _ _ rm (H.step A1) q2 fun ρ₂ s₂ vb A2 Vb=>?_) (hs _)
 obtain ⟨hi,rfl⟩:=Vb
 refine mE hC ht A2.rel hi q3 q4 (Va.after A2) fun s' A3=>?_
 have B:=(A1.trans A2).trans A3
 exact hQ _ _ _ (B.weaken fun _ h=>h.elim) (H.step B) rfl
noncomputable def iH (C:Addr) (x:String) (op:Operator) (g f:EF):SF:=fun l σ=>(g l σ).bind fun o=>(asR o.1).bind fun i=>(asO C (o.2.get i)).bind fun fs=>(getF fs x).bind fun a=>(f l o.2).bind fun b=>(asO C (b.2.get i)).bind fun fs'=>if fs'.length<=900 then (augV op a b.1).map fun v=>(.next,l,b.2.put i (.inst C (putF fs' x v))) else none
theorem pM {C:Addr} {x:String} {op:Operator} {f g:EF} {l l':Loc} {σ σ':Sto} {fl:Fl} (e:iH C x op g f l σ=some (fl,l',σ')) :
  ∃ i fs fs' a b v σ₁ σ₂,g l σ=some (.ref i,σ₁)/\σ₁.get i=.inst C fs/\getF fs x=some a/\f l σ₁=some (b,σ₂)/\σ₂.get i=.inst C fs'/\fs'.length<=900/\augV op a b=some v/\fl=.next/\l'=l/\σ'=σ₂.put i (.inst C (putF fs' x v)):=by
 refine obE e fun o h1 e=>obE e fun i h2 e=>obE e fun fs h3 e=>obE e fun a h4 e=>obE e fun b h5 e=>obE e fun fs' h6 e=>itE e fun h7 e=>omE e fun v h8 e=>trE e ?_
 exact ⟨i,fs,fs',a,b.1,v,o.2,b.2,prR h1 h2,dF h3,h4,h5,dF h6,h7,h8,rfl,rfl,rfl⟩
theorem SS.augAttr {C:Addr} {x:String} {op:Operator} {e1 e2:Expr} {p p':Pos} {f g:EF} {attr:Option Value} (hC:Cls G.K C) (ht:takerIn G.K C (Str.ofString x)=some none) (ha:findIn G.K (.ref C) (Str.ofString x)=some attr) (hn:noGet G.K attr=true)
  (h1:SE G sc d e1 f) (h2:SE G sc d e2 g):SS G sc d (.AugAssign (.Attribute e2 (Str.ofString x) p') op e1 p) (iH C x op g f):=by
 intro y A lm ρ σ s fl lm' σ' Q E rm H eq hQ
 obtain ⟨i,fs,fs',a,b,v,σ₁,σ₂,q1,q3,q5,q6,q7,q9,q10,rfl,rfl,rfl⟩:=pM eq
 refine wpAny_AugAssign_AttributeAny (h2 y A lm' ρ σ s _ _ _ _ rm H q1 fun ρ₁ s₁ va A1 Va=>?_)
 obtain ⟨hi,rfl⟩:=Va
 refine jS hC ha hn A1.rel hi q3 q5 fun wa t Wa=>?_
 have A1':=A1.trans (After.toks (X:=noX) (t:=t) A1.rel)
 refine h1 y A lm' ρ₁ σ₁ _ _ _ _ _ rm (H.step A1') q6 fun ρ₂ s₂ vb A2 Vb=>?_
 refine augV_ok q10 (Wa.after A2) Vb fun t' w hw=>?_
 have A2':=A2.trans (After.toks (X:=noX) (t:=t') A2.rel)
 have e:ρ₁ i 0=ρ₂ i 0:=by rw [A2.agree i hi]
 rw [e]
 refine mE hC ht (s:={ s₂ with toks:=t' }) A2.rel (Nat.lt_of_lt_of_le hi A2.le) q7 q9 hw fun s' A3=>?_
 have B:=(A1'.trans A2').trans A3
 exact hQ _ _ _ (B.weaken fun _ h=>h.elim) (H.step B) rfl
noncomputable def bF (f g h:EF):SF:=fun l σ=>(f l σ).bind fun a=>(g l a.2).bind fun o=>(h l o.2).bind fun k=>(asR o.1).bind fun i=>(toI k.1).bind fun j=>(asL (k.2.get i)).bind fun xs=>if 0<=j/\j<2 ^ 62/\j<xs.length then some (.next,l,k.2.put i (.list (xs.set j.toNat a.1))) else none
theorem pZ {f g h:EF} {l l':Loc} {σ σ':Sto} {fl:Fl} (e:bF f g h l σ=some (fl,l',σ')) :
  ∃ i j xs a σ₁ σ₂ σ₃,f l σ=some (a,σ₁)/\g l σ₁=some (.ref i,σ₂)/\h l σ₂=some (.int j,σ₃)/\σ₃.get i=.list xs/\(0<=j/\j<2 ^ 62/\j<xs.length)/\fl=.next/\l'=l/\σ'=σ₃.put i (.list (xs.set j.toNat a)):=by
 refine obE e fun a h1 e=>obE e fun o h2 e=>obE e fun k h3 e=>obE e fun i h4 e=>obE e fun j h5 e=>obE e fun xs h6 e=>itE e fun h7 e=>trE (Option.some.inj e) ?_
 exact ⟨i,j,xs,a.1,a.2,o.2,k.2,h1,prR h2 h4,prI h3 h5,bN h6,h7,rfl,rfl,rfl⟩
theorem SS.setIdx {e1 e2 e3:Expr} {p p':Pos} {f g h:EF} (h1:SE G sc d e1 f) (h2:SE G sc d e2 g) (h3:SE G sc d e3 h)
  (hs:∀ env,swapsWith e1 (some (.Subscript e2 e3 p')) p.line env=pure false:=by intro _;rfl):SS G sc d (.Assign [.Subscript e2 e3 p'] e1 p) (bF f g h):=by
 intro y A lm ρ σ s fl lm' σ' Q E rm H eq hQ
 obtain ⟨i,j,xs,a,σ₁,σ₂,σ₃,q1,q2,q3,q4,q5,rfl,rfl,rfl⟩:=pZ eq
 refine wpAny_Assign_Subscript (h1 y A lm' ρ σ s _ _ _ _ rm H q1 fun ρ₁ s₁ va A1 Va=>h2 y A lm' ρ₁ σ₁ s₁ _ _ _ _ rm (H.step A1) q2 fun ρ₂ s₂ vb A2 Vb=>
  h3 y A lm' ρ₂ σ₂ s₂ _ _ _ _ rm ((H.step A1).step A2) q3 fun ρ₃ s₃ vc A3 Vc=>?_) (hs _)
 obtain ⟨hi,rfl⟩:=Vb.after A3
 obtain ⟨t,rfl⟩:=Vc
 obtain ⟨vs,n,hl,r⟩:=A3.rel.plain hi q4
 have hlen:j<(vs.toArray.size:Int):=by rw [List.size_toArray,<- r.length];exact q5.2.2
 refine ki_setAt hl q5.1 (by lia) hlen ?_
 have r':=r.set (i:=j.toNat) ((Va.after A2).after A3)
 have B:After G.base noX ρ₃ σ₃ s₃ ρ₃ (σ₃.put i (.list (xs.set j.toNat a))) { s₃ with heap:=s₃.heap.update (ρ₃ i 0) (Obj.mapSeq (·.setIfInBounds j.toNat va)),toks:=s₃.toks }:=by
  have q:=PySem.IsL.update hl (fun xs=>xs.setIfInBounds j.toNat va)
  have q2:vs.toArray.setIfInBounds j.toNat va=(vs.set j.toNat va).toArray:=by simp
  rw [q2] at q
  exact After.put (k:=0) A3.rel hi (by rw [q4];simp [nc]) (by rw [q4];rfl) (Heap.SameBut.update ..) ⟨vs.set j.toNat va,⟨_,q⟩,r'⟩
 have B':=((A1.trans A2).trans A3).trans B
 exact hQ _ _ _ (B'.weaken fun _ h=>h.elim) (H.step B') rfl
end
section
variable {G:G0} {sc:Scope} {d:Nat}
noncomputable def aQ (C:Addr) (g:FF) (f h k:EF):SF:=fun l σ=>(f l σ).bind fun a=>(h l a.2).bind fun o=>(k l o.2).bind fun j=>(asR o.1).bind fun i=>(asO C (j.2.get i)).bind fun _=>(g [.ref i,j.1,a.1] j.2).map fun r=>(.next,l,r.2)
theorem pY {C:Addr} {g:FF} {f h k:EF} {l l':Loc} {σ σ':Sto} {fl:Fl} (e:aQ C g f h k l σ=some (fl,l',σ')) :
  ∃ i j a fs v σ₁ σ₂ σ₃,f l σ=some (a,σ₁)/\h l σ₁=some (.ref i,σ₂)/\k l σ₂=some (j,σ₃)/\σ₃.get i=.inst C fs/\g [.ref i,j,a] σ₃=some (v,σ')/\fl=.next/\l'=l:=by
 refine obE e fun a h1 e=>obE e fun o h2 e=>obE e fun j h3 e=>obE e fun i h4 e=>obE e fun fs h5 e=>omE e fun r h6 e=>trE e ?_
 exact ⟨i,j.1,a.1,fs,r.1,a.2,o.2,j.2,h1,prR h2 h4,h3,dF h5,h6,rfl,rfl⟩
theorem SS.setSub {C fa:Addr} {g:FF} {e1 e2 e3:Expr} {p p':Pos} {f h k:EF} {d':Nat} (F₀:FnOK G d' fa g)
  (h1:SE G sc d e1 f) (h2:SE G sc d e2 h) (h3:SE G sc d e3 k) (hd:d'<=d:=by decide) (hq:noSeq G.K C=true:=by kernel_rfl) (hf:findIn G.K (.ref C) "__setitem__"=some (some (.ref fa)):=by kernel_rfl) (hfn:isFn G.K (.ref fa)=true:=by kernel_rfl) (hs:∀ env,swapsWith e1 (some (.Subscript e2 e3 p')) p.line env=pure false:=by intro _;rfl):SS G sc d (.Assign [.Subscript e2 e3 p'] e1 p) (aQ C g f h k):=by
 have F:=F₀.mono hd
 intro y A lm ρ σ s fl lm' σ' Q E rm H eq hQ
 obtain ⟨i,j,a,fs,v,σ₁,σ₂,σ₃,q1,q2,q3,q4,q5,rfl,rfl⟩:=pY eq
 refine wpAny_Assign_Subscript (h1 y A lm' ρ σ s _ _ _ _ rm H q1 fun ρ₁ s₁ va A1 Va=>h2 y A lm' ρ₁ σ₁ s₁ _ _ _ _ rm (H.step A1) q2 fun ρ₂ s₂ vb A2 Vb=>
  h3 y A lm' ρ₂ σ₂ s₂ _ _ _ _ rm ((H.step A1).step A2) q3 fun ρ₃ s₃ vc A3 Vc=>?_) (hs _)
 obtain ⟨hi,rfl⟩:=Vb.after A3
 obtain ⟨es,ep,I,r⟩:=A3.rel.inst hi q4
 obtain ⟨m,Fm⟩:=(((H.step A1).step A2).step A3).fr
 refine ksp_setItem Fm G.ok.X I hq hf hfn (wpAny_call (F A ρ₃ σ₃ s₃ _ _ v σ' _ rm A3.rel (.cons (show VR ρ₃ σ₃.n (.ref i) _ from ⟨hi,rfl⟩) (.cons Vc (.cons ((Va.after A2).after A3) .nil))) q5 fun ρ' s' val A4 hv=>?_))
 have B:=((A1.trans A2).trans A3).trans A4
 exact hQ _ _ _ (B.weaken fun _ h=>h.elim) (H.step B) rfl
noncomputable def aJ (ps:List String) (vs:List Val):Loc:=fun y=>((ps.zip vs).reverse.find? fun p=>p.1 == y).map (·.2)
noncomputable def bQ (ps:List String) (b:SF):FF:=fun vs σ=>if vs.length=ps.length then (b (aJ ps vs) σ).bind fun r=>match r.1 with
  | .ret v=>some (v,r.2.2)
  | .next=>some (.none,r.2.2)
  | _=>none
 else none
theorem All2.reverse {α β:Type} {R:α->β->Prop} {l l'} (h:All2 R l l'):All2 R l.reverse l'.reverse:=by
 induction h with
 | nil=>exact .nil
 | cons a _ ih=>rw [List.reverse_cons,List.reverse_cons];exact ih.append (.cons a .nil)
theorem iW {ρ:Map} {n:Nat} (ps:List String):∀ {vs:List Val} {vals:List Value},All2 (VR ρ n) vs vals->
  All2 (fun (a:String×Val) (b:Str×Value)=>b.1=Str.ofString a.1/\VR ρ n a.2 b.2) (ps.zip vs) ((ps.map Str.ofString).zip vals):=by
 induction ps with
 | nil=>exact fun _=>.nil
 | cons p ps ih=>
  intro vs vals h
  cases h with
  | nil=>exact .nil
  | cons a b=>exact .cons ⟨rfl,a⟩ (ih b)
theorem iG {ρ:Map} {n:Nat} {y:String} {v:Val} {l:List (String×Val)} {l':List (Str×Value)} (h:All2 (fun (a:String×Val) (b:Str×Value)=>b.1=Str.ofString a.1/\VR ρ n a.2 b.2) l l') :
  (l.find? fun p=>p.1 == y).map (·.2)=some v->∃ val,l'.lookup (Str.ofString y)=some val/\VR ρ n v val:=by
 induction h with
 | nil=>exact fun e=>noF e |>.elim
 | @cons p q l l' c r ih=>
  intro e
  rw [List.find?_cons] at e
  show ∃ val,((q.1,q.2) :: l').lookup _=_/\_
  rw [List.lookup_cons,c.1]
  by_cases z:p.1=y
  ·rw [beq_iff_eq.mpr z] at e
   rw [beq_iff_eq.mpr (congrArg Str.ofString z.symm)]
   exact ⟨_,rfl,Option.some.inj e▸c.2⟩
  ·rw [beq_eq_false_iff_ne.mpr z] at e
   rw [beq_eq_false_iff_ne.mpr fun q=>z (eD q).symm]
   exact ih e
theorem bJ {ps:List String} {vals:List Value} {y:Str×Value} (h:y∈(ps.map Str.ofString).zip vals):∃ p∈ps,y.1=Str.ofString p:=by
 obtain ⟨a,b⟩:=y
 obtain ⟨p,hp,e⟩:=List.mem_map.mp (List.of_mem_zip h).1
 exact ⟨p,hp,e.symm⟩
theorem bT {α β:Type} [BEq α] [LawfulBEq α] {x:α} {v:β} {l:List (α×β)}:l.lookup x=some v->(x,v)∈l:=by
 induction l with
 | nil=>exact fun e=>(noF e).elim
 | cons p l ih=>
  intro e
  rw [List.lookup_cons] at e
  by_cases z:x=p.1
  ·subst z;rw [beq_self_eq_true] at e;cases e;exact .head _
  ·rw [beq_eq_false_iff_ne.mpr z] at e;exact .tail _ (ih e)
set_option tactic.hygienic true in
theorem FnOK.of {name qual:Str} {params:Arguments} {body:List Stmt} {scope:Scope} {dV kV doc pm cdv ct oc:Value} {an od:Option Addr} {osl:Array (Option Value)} {fa:Addr} {ps:List String} {b:SF}
  (ho:G.K.lookup fa=some ⟨oc,od,.func (fnX name qual params body scope [] dV kV doc pm an cdv ct),osl⟩) (hcd:codeIn G.K cdv qual=true)
  (hb:∀ vals:List Value,vals.length=ps.length->bindArgs (fnX name qual params body scope [] dV kV doc pm an cdv ct) ⟨vals,[]⟩=pure ((ps.map Str.ofString).zip vals))
  (hloc:∀ p∈ps,scope.names.lookup (Str.ofString p)=some .local) (hcell:∀ x∈scope.names,x.2≠.cell)
  (hco:scope.isCoroutine=false) (hgen:scope.isGenerator=false) (hk:scope.kind=.function) (B:SB G scope d body b):FnOK G (d+1) fa (bQ ps b):=by
 intro A ρ σ s vs vals v σ' R rm Rl Vs eq hR
 unfold bQ at eq
 split at eq
 ·rename_i hlen
  obtain ⟨⟨fl,lm',σ₁⟩,e1,e2⟩:=obx eq
  have X:=G.ok.X.keeps Rl.stays
  refine codeAny_call_def (fd:=fnX name qual params body scope [] dV kV doc pm an cdv ct) (body:=body) (binds:=(ps.map Str.ofString).zip vals) rm.limit (X _ _ ho) rfl (G.ok.nolimit.keeps Rl.stays) (codeRec_of X hcd) rfl
   (.of_eq (hb vals (Vs.length.symm.trans hlen))) hcell (fun y hy=>by obtain ⟨p,hp,e⟩:=bJ hy;rw [e];exact hloc p hp) (fun h₁ hns hk₁=>?_) hco hgen hk
  have hsz:s.heap.objs.size<=h₁.objs.size:=by obtain ⟨_,_,_,e,_⟩:=hns;exact Nat.le_of_lt (Heap.lt_size e)
  have A0:After G.base noX ρ σ s ρ σ { s with heap:=h₁,toks:=s.toks+((ps.map Str.ofString).zip vals).length }:=After.grow Rl hsz hk₁
  let x:Vx:=vx qual s.heap.objs.size fa cdv []
  have fx:∀ a,aE (x.env scope) a->a=s.heap.objs.size:=fun a ha=>by
   rcases ha with h | ⟨y,h⟩
   ·exact h
   ·cases h
  have H:Here G.base (x.env scope) (aJ ps vs) ρ σ { s with heap:=h₁,toks:=s.toks+((ps.map Str.ofString).zip vals).length }:=by
   refine ⟨A0.rel,⟨_,hns,fun y u hy=>?_⟩,fun a ha ho=>?_,fun a ha=>by rw [fx a ha];exact Rl.size,fun a ha=>by rw [fx a ha];obtain ⟨_,_,_,e,_⟩:=hns;exact Heap.lt_size e,fun y c hc=>(nomatch hc),fun y z c hc=>(nomatch hc),fun y c hc=>(nomatch hc),fun y hy=>absurd rfl (hcell _ (bT hy))⟩
   ·obtain ⟨val,hv,vr⟩:=iG (iW ps Vs).reverse hy
    refine ⟨val,.inl ⟨?_,hv⟩,vr⟩
    have hm:=List.mem_reverse.mp (bT hv)
    obtain ⟨p,hp,e⟩:=bJ hm
    show scope.names.lookup _=_
    have e:Str.ofString y=Str.ofString p:=e
    rw [e];exact hloc p hp
   ·rw [fx a ha] at ho
    exact absurd (Rl.own_lt ho) (Nat.lt_irrefl _)
  refine B x (A.deeper (x.env scope)) (aJ ps vs) ρ σ _ fl lm' σ₁ _ _ rm.deeper H e1 fun ρ' s' flw A1 H1 F1=>?_
  have A2:After G.base noX ρ σ s ρ' σ₁ s':=((A0.weaken fun _ h=>h.elim).trans A1).drop fun a ha=>.inr (Nat.le_of_eq (fx a ha).symm)
  cases fl with
  | next=>cases F1;cases e2;exact hR _ _ _ A2 rfl
  | brk=>cases e2
  | cont=>cases e2
  | ret w=>obtain ⟨val,rfl,vr⟩:=F1;cases e2;exact hR _ _ _ A2 vr
 ·cases eq
end
section
variable {G:G0} {sc:Scope} {d:Nat}
noncomputable def tQ (G:G0) (A:Around) (env:Env) (t:Expr) (b:List Stmt) (R:Result->Shared->Prop) (I:Nat->Shared->Prop) (n:Nat):Option Value->Shared->Prop:=fun r s=>match r with
 | none=>wpAny (model G.prog G.w) A (execs [] env) (fun f s=>R (.ok f) s) (nE G A env R) s
 | some v=>wpAny (model G.prog G.w) A (PySem.assign t env v) (fun _ s=>wpAny (model G.prog G.w) A (execs b env) (fQ R I n) (nE G A env R) s) (nE G A env R) s
theorem forC {A:Around} {env:Env} {x:Str} {px:Pos} {it:Value} {b:List Stmt} {R:Result->Shared->Prop} {s:Shared} (I:Nat->Shared->Prop)
  (turn:∀ n s,I n s->wpAny (model G.prog G.w) A (pyNext it) (tQ G A env (.Name x px) b R I n) (nE G A env R) s) (n:Nat) (h:I n s):codeAny (model G.prog G.w) A (.forLoop (.Name x px) it b [] env) R s:=codeAny_forLoop I turn n h
inductive LI {K:Type} (G:G0) (X:Addr->Prop) (I:Addr) (P:Loc->Map->Sto->Shared->Prop) (It:Nat->K->Heap->Prop) (F:Nat->K->SF) (ρ:Map) (σ:Sto) (s:Shared) (r:Fl×Loc×Sto) (n:Nat) (s':Shared):Prop
 | mk (ρ':Map) (σ':Sto) (l:Loc) (k:K) (A:After G.base X ρ σ s ρ' σ' s') (H:P l ρ' σ' s') (hO:¬ Own ρ' σ' I) (lt:I<s'.heap.objs.size) (it:It n k s'.heap) (e:F n k l σ'=some r)
inductive NX {K:Type} (G:G0) (A:Around) (I:Addr) (x:String) (g:SF) (It:Nat->K->Heap->Prop) (F:Nat->K->SF) (n:Nat) (l:Loc) (ρ:Map) (σ:Sto) (s:Shared) (r:Fl×Loc×Sto):Prop
 | stop (e:(.next,l,σ)=r) (w:∀ (Q:Option Value->Shared->Prop) (E:Value->Shared->Prop),(∀ h',Heap.ExtBut I s.heap h'->Q none { s with heap:=h' })->wpAny (model G.prog G.w) A (pyNext (.ref I)) Q E s)
 | item (m:Nat) (k:K) (v:Val) (val:Value) (hm:m<n) (vr:VR ρ σ.n v val) (e:(g (l.put x v) σ).bind (contF (F m k))=some r)
   (w:∀ (Q:Option Value->Shared->Prop) (E:Value->Shared->Prop),(∀ h' t,It m k h'->Heap.SameBut I s.heap h'->Q (some val) { s with heap:=h',toks:=t })->wpAny (model G.prog G.w) A (pyNext (.ref I)) Q E s)
theorem loopC {K:Type} {A:Around} {env:Env} {x:String} {px:Pos} {g:SF} {b:List Stmt} {I:Addr} {X XB:Addr->Prop} {P:Loc->Map->Sto->Shared->Prop} {It:Nat->K->Heap->Prop} {F:Nat->K->SF} {ρ₁:Map} {σ₁:Sto} {s₁:Shared} {r:Fl×Loc×Sto}
  {R:Result->Shared->Prop} (hb:G.base.objs.size<=I) (hX:X I) (hXB:∀ a,XB a->X a) (hBI:¬ XB I) (keep:∀ {n k h h'},It n k h->(∀ o,h.get? I=some o->h'.get? I=some o)->It n k h')
  (iter:∀ {n k l ρ σ s s'},P l ρ σ s->It n k s.heap->After G.base (fun a=>a=I) ρ σ s ρ σ s'->P l ρ σ s') (rel:∀ {l ρ σ s},P l ρ σ s->Rel G.base ρ σ s.heap)
  (next:∀ {n k l ρ σ s},After G.base X ρ₁ σ₁ s₁ ρ σ s->It n k s.heap->F n k l σ=some r->NX G A I x g It F n l ρ σ s r)
  (body:∀ {l v val ρ σ s f l₁ σ₃} {Q:Flow->Shared->Prop} {E:Value->Shared->Prop},P l ρ σ s->VR ρ σ.n v val->g (l.put x v) σ=some (f,l₁,σ₃)->(∀ ρ' s' flw,After G.base XB ρ σ s ρ' σ₃ s'->P l₁ ρ' σ₃ s'->FlR ρ' σ₃.n f flw->Q flw s')->
   wpAny (model G.prog G.w) A (PySem.assign (.Name (Str.ofString x) px) env val) (fun _ s=>wpAny (model G.prog G.w) A (execs b env) Q E s) E s)
  (fin:∀ f l σ ρ s flw,(f,l,σ)=r->After G.base X ρ₁ σ₁ s₁ ρ σ s->P l ρ σ s->FlR ρ σ.n f flw->R (.ok flw) s) (hh:A.handled=none) (n:Nat) {s:Shared} (h:LI G X I P It F ρ₁ σ₁ s₁ r n s) :
  codeAny (model G.prog G.w) A (.forLoop (.Name (Str.ofString x) px) (.ref I) b [] env) R s:=by
 refine forC _ (fun n s hi=>?_) n h
 cases hi with | mk ρ σ l k B H hO lt it e=>
 cases next B it e with
 | stop e1 w=>
  refine cV (w _ _ fun h' eb sz=>wpAny_execs_nil ?_)
  have B2:After G.base (fun a=>a=I) ρ σ s ρ σ { s with heap:=h',toks:=s.toks }:=After.frame (rel H) hO hb sz eb
  exact fin _ _ _ _ _ _ e1 (B.trans (B2.weaken fun a q=>q▸hX)) (iter H it B2) rfl
 | item m k' v val hm vr e2 w=>
  refine w _ _ fun h' t it' sb=>?_
  have B2:After G.base (fun a=>a=I) ρ σ s ρ σ { s with heap:=h',toks:=t }:=After.frame (rel H) hO hb (Nat.le_of_eq sb.1.symm) fun b o hne e=>(sb.2 b hne).trans e
  have lt2:=Nat.lt_of_lt_of_eq lt sb.1.symm
  have B3:=B.trans (B2.weaken fun a q=>q▸hX)
  have H3:=iter H it B2
  refine obE e2 fun q h1 h2=>?_
  obtain ⟨f,l₁,σ₃⟩:=q
  refine body H3 vr h1 fun ρ' s' flw A5 H5 F5=>?_
  have B5:=B3.trans (A5.weaken hXB)
  have again:contF (F m k') (Fl.next,l₁,σ₃)=some r->∃ m,m<n/\LI G X I P It F ρ₁ σ₁ s₁ r m s':=fun h2=>
   ⟨m,hm,ρ',σ₃,l₁,k',B5,H5,fun q=>hO (A5.own_back q lt2),Nat.lt_of_lt_of_le lt2 A5.size,keep it' fun o q=>A5.kept I o hBI hO q,h2⟩
  cases f with
  | next=>cases F5;exact again h2
  | cont=>cases F5;exact again h2
  | brk=>cases F5;exact fin _ _ _ _ _ _ (Option.some.inj h2) B5 H5 rfl
  | ret w=>obtain ⟨val,rfl,vr⟩:=F5;exact fin _ _ _ _ _ _ (Option.some.inj h2) B5 H5 ⟨_,rfl,vr⟩
theorem ocE {α β:Type} {o:Option α} {z b:β} {f:α->β} {P:Prop} (h:o.elim z f=b) (k1:o=none->z=b->P) (k2:∀ a,o=some a->f a=b->P):P:=by
 cases o with
 | none=>exact k1 rfl h
 | some a=>exact k2 a rfl h
noncomputable def forL (x:String) (b:SF) (id:Nat):Nat->Nat->SF
 | 0,_=>fun _ _=>none
 | n+1,i=>fun l σ=>(asL (σ.get id)).bind fun xs=>(xs[i]?).elim (some (.next,l,σ)) fun v=>(b (l.put x v) σ).bind (contF (forL x b id n (i+1)))
noncomputable def kK (x:String) (f:EF) (b:SF) (n:Nat):SF:=fun l σ=>(f l σ).bind fun a=>(asR a.1).bind fun i=>forL x b i n 0 l a.2
theorem oR {A:Around} {x:String} {g:SF} {id n k:Nat} {l:Loc} {ρ:Map} {σ:Sto} {s:Shared} {r:Fl×Loc×Sto} {I a:Addr} (hh:A.handled=none) (R:Rel G.base ρ σ s.heap) (hi:id<σ.n) (ag:ρ id 0=a) (it:s.heap.IsListIter I a k)
  (e:forL x g id n k l σ=some r):NX G A I x g (fun _ k h=>h.IsListIter I a k) (forL x g id) n l ρ σ s r:=by
 cases n with
 | zero=>cases e
 | succ m=>
  refine obE e fun xs h1 e=>?_
  obtain ⟨vs,hl,rr⟩:=R.isList hi (bN h1)
  rw [ag] at hl
  refine ocE e (fun q e=>.stop (Option.some.inj e) fun Q E w=>?_) fun v q e=>?_
  ·refine wpAny_pyNext_list_end hh it hl ?_ w
   rw [List.getElem?_toArray,List.getElem?_eq_none_iff,<- rr.length,<- List.getElem?_eq_none_iff];exact q
  ·obtain ⟨val,hv,vr⟩:=rr.get q
   exact .item m (k+1) v val (Nat.lt_succ_self m) vr e fun Q E w=>wpAny_pyNext_list_item it hl (by rw [List.getElem?_toArray];exact hv) fun h' a b=>w h' s.toks a b
theorem iE {X:Addr->Prop} {ρ:Map} {σ:Sto} {s:Shared} {o:Obj} {t:Nat} (R:Rel G.base ρ σ s.heap):After G.base X ρ σ s ρ σ { s with heap:=s.heap.push o,toks:=t }/\¬ Own ρ σ s.heap.objs.size/\s.heap.objs.size<(s.heap.push o).objs.size:=
 ⟨After.grow R (by rw [Heap.size_push];exact Nat.le_succ _) fun a o e=>Heap.get?_push_of_some _ e,fun ho=>absurd (R.own_lt ho) (Nat.lt_irrefl _),by rw [Heap.size_push];exact Nat.lt_succ_self _⟩
theorem SS.forL {x:String} {e:Expr} {b:List Stmt} {p px:Pos} {f:EF} {g:SF} (n:Nat) (hk:sc.kind=.function) (hx:Sto1 sc x) (h:SE G sc d e f) (hb':SB G sc d b g)
  (hs:∀ env v,foldedSetIterable e env v=pure v):SS G sc d (.For (.Name (Str.ofString x) px) e b [] p) (kK x f g n):=by
 intro y A lm ρ σ s fl lm' σ' Q E rm H eq hQ
 refine obE eq fun a q1 eq1=>obE eq1 fun id q2 eq1=>?_
 refine wpAny_For (h y A lm ρ σ s _ _ _ _ rm H (prR q1 q2) fun ρ₁ s₁ va A1 Va=>?_) (hs _)
 obtain ⟨hi,rfl⟩:=Va
 have H1:=H.step A1
 obtain ⟨xs,hl₀⟩:∃ xs,a.2.get id=.list xs:=by
  cases n with
  | zero=>cases eq1
  | succ n=>exact obE eq1 fun xs h1 _=>⟨xs,bN h1⟩
 obtain ⟨vs₀,hl,_⟩:=A1.rel.isList hi hl₀
 refine wpAny_pyIter_list hl ?_
 obtain ⟨G1,hO,lt⟩:=iE (X:=noX) (o:={ cls:=.type "list_iterator",data:=.fields #[.ref (ρ₁ id 0),.int 0 0] }) (t:=s₁.toks) A1.rel
 have hIF:∀ a,aE (y.env sc) a->a≠s₁.heap.objs.size:=fun a ha=>Nat.ne_of_lt (H1.lt a ha)
 exact loopC (X:=fun a=>aE (y.env sc) a\/a=s₁.heap.objs.size) (P:=Here G.base (y.env sc)) A1.rel.size (.inr rfl) (fun _=>.inl) (fun q=>hIF _ q rfl) (fun it k=>it.imp fun o q=>⟨k o q.1,q.2⟩) (fun H _ B=>H.after B hIF) (fun H=>H.rel)
  (fun B it e=>oR rm.2.2 B.rel (Nat.lt_of_lt_of_le hi B.le) (congrFun (B.agree id hi) 0) it e)
  (fun H vr h1 kk=>wpAny_assign_Name (eW H vr (hx y) hk fun s₃ A3 H4=>hb' y A _ _ _ _ _ _ _ _ _ rm H4 h1 fun ρ₅ s₅ flw A5 H5 F5=>kk _ _ _ (A3.trans A5) H5 F5))
  (fun f l τ ρ' s' flw e B=>trE e.symm (hQ ρ' s' flw) ((A1.weaken fun _ h=>h.elim).trans (B.drop fun a ha=>ha.elim .inl fun q=>.inr (Nat.le_of_eq q.symm)))) rm.2.2 n
  ⟨ρ₁,a.2,lm,0,G1.weaken fun _ q=>q.elim,H1.step G1,hO,lt,⟨_,Heap.get?_push_size _ rfl,rfl,rfl⟩,eq1⟩
end
section
variable {G:G0} {sc:Scope} {d:Nat}
theorem rR {args:List Expr} {env:Env} {pos:Pos} (hs:∀ env,starEach args env=args.map fun e=>(false,eval e env)):(backTo pos (starEach args env)).any (·.1)=false:=by
 rw [hs]
 unfold backTo
 rw [List.map_map]
 induction args with
 | nil=>rfl
 | cons a r ih=>simp
theorem kE {M:Model} {A:Around} {E:Value->Shared->Prop} {s:Shared} {f:Value} {args:List Expr} {env:Env} {pos:Pos} {Q:Args->Shared->Prop} (hs:∀ env,starEach args env=args.map fun e=>(false,eval e env))
  (h:wpAny M A (spliced (backTo pos (starEach args env))) (fun vs s'=>Q ⟨vs,[]⟩ s') E s):wpAny M A (evalArgs f true (backTo pos (starEach args env)) []) Q E s:=by
 rw [hs] at h |-
 cases args with
 | nil=>exact jH h
 | cons a r=>exact evalArgs_plain h
theorem eH {n:Str} {args:List Expr} {np p:Pos} {bv:Value} {x:Vx} {A:Around} {lm:Loc} {ρ:Map} {σ:Sto} {s:Shared} {Q:Value->Shared->Prop} {E:Value->Shared->Prop} (hk:sc.kind=.function) (hx:eG sc n .globalImplicit)
  (hd:(n == ("__debug__":Str))=false) (he:nsIn G.K mainGlobals n=some none) (hne:n ≠ "__name__") (hb:bootBuiltins n=some bv) (hbv:(∃ T,bv=.type T)\/∃ id,bv=.builtin id) (H:Here G.base (x.env sc) lm ρ σ s)
  (hs:∀ env,starEach args env=args.map fun e=>(false,eval e env))
  (h:wpAny (model G.prog G.w) A (spliced (backTo p (starEach args (x.env sc)))) (fun vs s₁=>wpAny (model G.prog G.w) A (call bv vs) Q E s₁) E s) :
  wpAny (model G.prog G.w) A (eval (.Call (.Name n np) args [] p) (x.env sc)) Q E s:=by
 refine Call_ ?_ rfl
 refine Name_function_global (env:=x.env sc) hk (hx x) (loadGlobal_builtin (env:=x.env sc) (G.ok.g.keeps H.rel.stays) (mg_none_of G.ok.X G.ok.g he) (G.ok.b.keeps H.rel.stays) ((G.ok.builtins n hne).trans hb) ?_) hd
 rcases hbv with ⟨T,rfl⟩ | ⟨id,rfl⟩
 ·exact PyProof.Rows.callWith_type (rR hs) (kE hs h)
 ·exact Calls.callWith_builtin (rR hs) (kE hs h)
noncomputable def rngV (vs:List Val):Option (Int×Int×Int):=(unC vs).bind fun p=>(toI p.1).bind fun a=>match p.2 with
 | []=>some (0,a,1)
 | v :: r=>(toI v).bind fun b=>match r with
  | []=>some (a,b,1)
  | w :: r=>(toI w).bind fun c=>match r with
   | []=>if 0<c/\c<2 ^ 30 then some (a,b,c) else none
   | _ :: _=>none
noncomputable def forR (x:String) (b:SF):Nat->Int->Int->SF
 | 0,_,_=>fun l σ=>some (.next,l,σ)
 | n+1,v,c=>fun l σ=>(b (l.put x (.int v)) σ).bind (contF (forR x b n (v+c) c))
noncomputable def jF (x:String) (f:LF) (b:SF):SF:=fun l σ=>(f l σ).bind fun a=>(rngV a.1).bind fun t=>
 if Builtin.Range.small t.1 t.2.1 t.2.2=true then forR x b (Builtin.Range.rangeSize t.1 t.2.1 t.2.2).toNat t.1 t.2.2 l a.2 else none
theorem gF {a b c:Int} (hc:0<c):0<=Builtin.Range.rangeSize a b c:=by
 unfold Builtin.Range.rangeSize
 rw [if_pos hc]
 split
 ·have:=Int.ediv_nonneg (a:=b - a - 1) (b:=c) (by lia) (by lia)
  lia
 ·exact Int.le_refl _
inductive RgO:List Value->Int×Int×Int->Prop
 | one (n:Int) (t:Nat):RgO [.int n t] (0,n,1)
 | two (a b:Int) (t u:Nat):RgO [.int a t,.int b u] (a,b,1)
 | three (a b c:Int) (t u v:Nat) (h:0<c/\c<2 ^ 30):RgO [.int a t,.int b u,.int c v] (a,b,c)
theorem vrI {ρ:Map} {n:Nat} {v:Val} {i:Int} {vs:List Val} {vals:List Value} {P:List Value->Prop} (h:toI v=some i) (Vs:All2 (VR ρ n) (v :: vs) vals) (k:∀ t r,All2 (VR ρ n) vs r->P (.int i t :: r)):P vals:=by
 rw [eB h] at Vs
 cases Vs with | cons w r=>obtain ⟨t,rfl⟩:=w;exact k t _ r
theorem rng_inv {vs:List Val} {t:Int×Int×Int} {ρ:Map} {n:Nat} {vals:List Value} (h:rngV vs=some t) (Vs:All2 (VR ρ n) vs vals):RgO vals t:=by
 cases vs with
 | nil=>cases h
 | cons v r=>
 refine obE (o:=toI v) h fun i h2 g=>vrI (P:=fun w=>RgO w t) h2 Vs fun t₁ r₁ W=>?_
 clear h Vs h2
 cases r with
 | nil=>cases W;exact soE g (.one ..)
 | cons v r=>
 refine obE (o:=toI v) g fun j h2 k=>vrI (P:=fun w=>RgO (_ :: w) t) h2 W fun t₂ r₂ Vs=>?_
 clear g W h2
 cases r with
 | nil=>cases Vs;exact soE k (.two ..)
 | cons v r=>
 refine obE (o:=toI v) k fun m h2 g=>vrI (P:=fun w=>RgO (_ :: _ :: w) t) h2 Vs fun t₃ r₃ W=>?_
 clear k Vs h2
 cases r with
 | nil=>cases W;exact itE g fun hc g=>soE g (.three _ _ _ _ _ _ hc)
 | cons=>cases g
theorem rK {vs:List Val} {i:Int×Int×Int} {ρ:Map} {n:Nat} {vals:List Value} {A:Around} {s:Shared} {Q:Value->Shared->Prop} {E:Value->Shared->Prop} (h:rngV vs=some i) (Vs:All2 (VR ρ n) vs vals)
  (hQ:∀ o t,o.isFreed=false->(∃ t u v,IsRange (s.heap.push o) s.heap.objs.size i.1 i.2.1 i.2.2 t u v)->0<i.2.2->Q (.ref s.heap.objs.size) { s with heap:=s.heap.push o,toks:=t }):wpAny (model G.prog G.w) A (call (.type "range") vals) Q E s:=by
 cases rng_inv h Vs with
 | one=>exact call_range_1 (hQ _ _ rfl ⟨_,_,_,IsRange.new ..⟩ Int.zero_lt_one)
 | two=>exact call_range_2 (hQ _ _ rfl ⟨_,_,_,IsRange.new ..⟩ Int.zero_lt_one)
 | three a b c t u v hc=>exact call_range_3 (Int.ne_of_gt hc.1) (hQ _ _ rfl ⟨_,_,_,IsRange.new ..⟩ hc.1) (.inl (PyProof.noPylong_small (by lia)))
theorem forR_next {A:Around} {x:String} {g:SF} {n:Nat} {v c:Int} {l:Loc} {ρ:Map} {σ:Sto} {s:Shared} {r:Fl×Loc×Sto} {I:Addr} (hh:A.handled=none) (it:IsRangeIter s.heap I v (n:Int) c)
  (e:forR x g n v c l σ=some r):NX G A I x g (fun n v h=>IsRangeIter h I v (n:Int) c) (fun n v=>forR x g n v c) n l ρ σ s r:=by
 cases n with
 | zero=>exact .stop (Option.some.inj e) fun Q E w=>wpAny_pyNext_range_end hh it (Int.le_refl _) w
 | succ m=>
  refine .item m (v+c) (.int v) _ (Nat.lt_succ_self m) ⟨_,rfl⟩ e fun Q E w=>wpAny_pyNext_range_item it (Int.natCast_pos.mpr (Nat.succ_pos m)) fun h' hit sb=>w h' _ ?_ sb
  rw [show (m:Int)=((m+1:Nat):Int) - 1 from (Int.add_sub_cancel m 1).symm];exact hit
theorem SS.forR {x:String} {args:List Expr} {b:List Stmt} {p px np cp:Pos} {f:LF} {g:SF} (hk:sc.kind=.function) (hx:Sto1 sc x) (hr:eG sc "range" .globalImplicit) (he:nsIn G.K mainGlobals "range"=some none)
  (h:SL G sc d args f) (hb':SB G sc d b g) (hs:∀ env,starEach args env=args.map fun e=>(false,eval e env)) :
  SS G sc d (.For (.Name (Str.ofString x) px) (.Call (.Name "range" np) args [] cp) b [] p) (jF x f g):=by
 intro y A lm ρ σ s fl lm' σ' Q E rm H eq hQ
 refine obE eq fun vs q1 eq1=>obE eq1 fun abc q2 eq2=>itE eq2 fun hsmall eq2=>?_
 refine wpAny_For (eH hk hr (by decide) he (by decide) boot_range (.inl ⟨_,rfl⟩) H hs (h y cp A lm ρ σ s _ _ _ _ rm H q1 fun ρ₁ s₁ vals A1 Vs=>?_)) fun _=>rfl
 refine rK q2 Vs fun o t hf hrange hc=>?_
 obtain ⟨t1,t2,t3,hrange⟩:=hrange
 have A2:=A1.trans (iE (o:=o) (t:=t) A1.rel).1
 have H1:=H.step A2
 refine wpAny_pyIter_range hrange hsmall ?_
 generalize hs₂:({ s₁ with heap:=s₁.heap.push o,toks:=t }:Shared)=s₂ at A2 H1 |-
 obtain ⟨G1,hO,lt⟩:=iE (X:=noX) (o:={ cls:=.type "range_iterator",data:=.fields #[rawInt abc.1,rawInt (Builtin.Range.rangeSize abc.1 abc.2.1 abc.2.2),rawInt abc.2.2] }) (t:=s₂.toks) A2.rel
 have hIF:∀ a,aE (y.env sc) a->a≠s₂.heap.objs.size:=fun a ha=>Nat.ne_of_lt (H1.lt a ha)
 subst hs₂
 exact loopC (It:=fun n v h=>IsRangeIter h (s₁.heap.push o).objs.size v (n:Int) abc.2.2) (F:=fun n v=>Mine.forR x g n v abc.2.2) (X:=fun a=>aE (y.env sc) a\/a=_) (P:=Here G.base (y.env sc)) A2.rel.size (.inr rfl) (fun _=>.inl) (fun q=>hIF _ q rfl) (fun it k=>k _ it) (fun H _ B=>H.after B hIF) (fun H=>H.rel)
  (fun B it e=>forR_next (c:=abc.2.2) rm.2.2 it e)
  (fun H vr h1 kk=>wpAny_assign_Name (eW H vr (hx y) hk fun s₃ A3 H4=>hb' y A _ _ _ _ _ _ _ _ _ rm H4 h1 fun ρ₅ s₅ flw A5 H5 F5=>kk _ _ _ (A3.trans A5) H5 F5))
  (fun f l τ ρ' s' flw e B=>trE e.symm (hQ ρ' s' flw) ((A2.weaken fun _ h=>h.elim).trans (B.drop fun a ha=>ha.elim .inl fun q=>.inr (Nat.le_of_eq q.symm)))) rm.2.2 (Builtin.Range.rangeSize abc.1 abc.2.1 abc.2.2).toNat
  ⟨ρ₁,vs.2,lm,abc.1,G1.weaken fun _ q=>q.elim,H1.step G1,hO,lt,by rw [Int.toNat_of_nonneg (gF hc)];exact Heap.get?_push_size _ rfl,eq2⟩
end
section
variable {G:G0} {sc:Scope} {d:Nat}
theorem fB {base:Heap} {X:Addr->Prop} {ρ:Map} {σ:Sto} {s:Shared} {xs:List Val} {vs:List Value} {t:Nat} {n:Nat} (R:Rel base ρ σ s.heap) (Vs:All2 (VR ρ σ.n) xs vs) :
  ∃ ρ',After base X ρ σ s ρ' (σ.push (.list xs)) { s with heap:=s.heap.push { cls:=.type "list",data:=.seq vs.toArray n },toks:=t }/\VR ρ' (σ.push (.list xs)).n (.ref σ.n) (.ref s.heap.objs.size):=by
 refine ⟨iJ ρ σ.n fun _=>s.heap.objs.size,After.push R (fun a x e=>Heap.get?_push_of_some _ e) (by rw [Heap.size_push];exact Nat.le_succ _) ⟨vs,⟨n,?_⟩,Vs.mono fun _ _ x=>x.mono (Nat.le_succ _) fun i hi=>if_neg (Nat.ne_of_lt hi)⟩
  (fun _ _=>Nat.le_refl _) (fun k l hk hl _=>by simp [nc] at hk hl;lia),Nat.lt_succ_self _,?_⟩
 ·show (s.heap.push _).get? (iJ ρ σ.n (fun _=>s.heap.objs.size) σ.n 0)=_
  rw [show iJ ρ σ.n (fun _=>s.heap.objs.size) σ.n=fun _=>s.heap.objs.size from if_pos rfl]
  exact Heap.get?_push_size _ rfl
 ·rw [show iJ ρ σ.n (fun _=>s.heap.objs.size) σ.n=fun _=>s.heap.objs.size from if_pos rfl]
theorem push_tup {base:Heap} {X:Addr->Prop} {ρ:Map} {σ:Sto} {s:Shared} {xs:List Val} {vs:List Value} {t:Nat} (R:Rel base ρ σ s.heap) (Vs:All2 (VR ρ σ.n) xs vs) :
  ∃ ρ',After base X ρ σ s ρ' (σ.push (.tup xs)) { s with heap:=s.heap.push { cls:=.type "tuple",data:=.seq vs.toArray },toks:=t }/\VR ρ' (σ.push (.tup xs)).n (.ref σ.n) (.ref s.heap.objs.size):=by
 refine ⟨iJ ρ σ.n fun _=>s.heap.objs.size,After.push R (fun a x e=>Heap.get?_push_of_some _ e) (by rw [Heap.size_push];exact Nat.le_succ _) ⟨vs,?_,Vs.mono fun _ _ x=>x.mono (Nat.le_succ _) fun i hi=>if_neg (Nat.ne_of_lt hi)⟩
  (fun _ _=>Nat.le_refl _) (fun k l hk hl _=>by simp [nc] at hk hl;lia),Nat.lt_succ_self _,?_⟩
 ·rw [show iJ ρ σ.n (fun _=>s.heap.objs.size) σ.n=fun _=>s.heap.objs.size from if_pos rfl]
  exact ⟨_,Heap.get?_push_size _ rfl,rfl,0,rfl⟩
 ·rw [show iJ ρ σ.n (fun _=>s.heap.objs.size) σ.n=fun _=>s.heap.objs.size from if_pos rfl]
noncomputable def gT (f:LF):EF:=fun l σ=>(f l σ).bind fun a=>if a.1.length<=1000 then some (.ref a.2.n,a.2.push (.list a.1)) else none
set_option tactic.hygienic true in
theorem SE.list {es:List Expr} {p:Pos} {f:LF} (h:SL G sc d es f):SE G sc d (.List es p) (gT f):=by
 intro y A lm ρ σ s v σ' Q E rm H eq hQ
 obtain ⟨⟨a,σ₁⟩,q1,eq1⟩:=obx eq
 split at eq1<;>first | (cases eq1;done) | skip
 rename_i hlen
 cases eq1
 refine List_ (h y p A lm ρ σ s _ _ _ _ rm H q1 fun ρ₁ s₁ vals A1 Vs=>?_)
 obtain ⟨ρ',A2,v2⟩:=fB (X:=noX) (t:=s₁.toks) (n:=0) A1.rel Vs
 exact wpAny_newObj_type (hQ _ _ _ (A1.trans A2) v2) (by show vals.toArray.size<=sizeLine;rw [List.size_toArray,<- Vs.length,sizeLine_eq];dsimp only at hlen;lia)
noncomputable def tupF (f:LF):EF:=fun l σ=>(f l σ).bind fun a=>if a.1.length<=1000 then some (.ref a.2.n,a.2.push (.tup a.1)) else none
set_option tactic.hygienic true in
theorem SE.tup {es:List Expr} {k:Nat} {p:Pos} {f:LF} (h:SL G sc d es f):SE G sc d (.Tuple es k p) (tupF f):=by
 intro y A lm ρ σ s v σ' Q E rm H eq hQ
 obtain ⟨⟨a,σ₁⟩,q1,eq1⟩:=obx eq
 split at eq1<;>first | (cases eq1;done) | skip
 rename_i hlen
 cases eq1
 refine Tuple_ (h y p A lm ρ σ s _ _ _ _ rm H q1 fun ρ₁ s₁ vals A1 Vs=>?_)
 obtain ⟨ρ',A2,v2⟩:=push_tup (X:=noX) (t:=s₁.toks) A1.rel Vs
 exact wpAny_newObj_type (hQ _ _ _ (A1.trans A2) v2) (by show vals.toArray.size<=sizeLine;rw [List.size_toArray,<- Vs.length,sizeLine_eq];dsimp only at hlen;lia)
theorem mA (n:Nat) (v:Value):List.foldl (fun x1 x2=>x1 ++ x2) (#[]:Array Value) (List.replicate n #[v])=(List.replicate n v).toArray:=by
 have:∀ (n:Nat) (a:Array Value),List.foldl (fun x1 x2=>x1 ++ x2) a (List.replicate n #[v])=a ++ (List.replicate n v).toArray:=by
  intro n
  induction n with
  | zero=>intro a;simp
  | succ n ih=>
   intro a
   rw [List.replicate_succ,List.foldl_cons,ih,List.replicate_succ]
   apply Array.toList_inj.mp
   simp
 rw [this];simp
theorem oK {A:Around} {E:Value->Shared->Prop} {s:Shared} {l:Addr} {v:Value} {k:Nat} {x:Int} {u:Tok} {Q:Value->Shared->Prop} {prog:Program} {w:World}
  (hl:s.heap.get? l=some { cls:=.type "list",dict:=none,data:=.seq #[v] k,slots:=#[] }) (hlo:0<=x) (hsz:x.toNat<=2 ^ 20)
  (h:Q (.ref s.heap.objs.size) { s with heap:=s.heap.push { cls:=.type "list",data:=.seq (List.replicate x.toNat v).toArray } }):wpAny (model prog w) A (binaryOp .Mult (.ref l) (.int x u)) Q E s:=by
 have e:(List.foldl (fun x1 x2=>x1 ++ x2) #[] (List.replicate (if (#[v]:Array Value).isEmpty=true then 0 else x.toNat) #[v]))=(List.replicate x.toNat v).toArray:=mA _ v
 refine wpAny_binaryOp_repeat_ref (T:="list") (U:="int") (by decide) ⟨_,hl,rfl⟩ (fun s'=>typeIs_int s' x u) noFill_list_mul PySem.F.fills_int_mul PySem.F.slot_int_rmul repeat_list PySem.F.slot_int_index.lookup
  (call_meets PySem.F.slot_int_rmul (typeIs_int s x u) PySem.F.entry_int_rmul (PySem.F.args_int_rmul_2 _ _) (int___rmul___int_list x u l #[v] k)
   ⟨hl,rfl,⟨_,hl,rfl⟩,call_meets PySem.F.slot_list_mul ⟨_,hl,rfl⟩ PySem.F.entry_list_mul (PySem.F.args_list_mul_2 _ _)
    (AutoListH.list___mul___list_int_3 l #[v] k x u (by simp [Builtin.List.listFitsIndex];lia) (by have z:(#[v]:Array Value).size=1:=rfl;rw [z];lia) (by have z:(#[v]:Array Value).size=1:=rfl;simp [Builtin.List.listTooLong,sizeLine,z];lia)) ⟨hl,?_⟩⟩)
 rw [e];exact h
noncomputable def repF (f g:EF):EF:=fun l σ=>(f l σ).bind fun a=>(g l a.2).bind fun b=>(asR a.1).bind fun i=>(toI b.1).bind fun k=>(asL (b.2.get i)).bind fun xs=>(as1 xs).bind fun v=>if 0<=k/\k<=1000000 then some (.ref b.2.n,b.2.push (.list (List.replicate k.toNat v))) else none
theorem repF_inv {f g:EF} {l:Loc} {σ σ':Sto} {v:Val} (e:repF f g l σ=some (v,σ')):∃ i k x σ₁ σ₂,f l σ=some (.ref i,σ₁)/\g l σ₁=some (.int k,σ₂)/\σ₂.get i=.list [x]/\(0<=k/\k<=1000000)/\v=.ref σ₂.n/\σ'=σ₂.push (.list (List.replicate k.toNat x)):=by
 refine obE e fun a h1 e=>obE e fun b h2 e=>obE e fun i h3 e=>obE e fun k h4 e=>obE e fun xs h5 e=>obE e fun x h6 e=>itE e fun h7 e=>prE (Option.some.inj e) ?_
 exact ⟨i,k,x,a.2,b.2,prR h1 h3,prI h2 h4,as1_some h6▸bN h5,h7,rfl,rfl⟩
theorem All2.replicate {α β:Type} {R:α->β->Prop} {a:α} {b:β} (h:R a b):∀ n,All2 R (List.replicate n a) (List.replicate n b)
 | 0=>.nil
 | n+1=>.cons h (All2.replicate h n)
theorem SE.rep {l r:Expr} {p:Pos} {f g:EF} (hl:SE G sc d l f) (hr:SE G sc d r g):SE G sc d (.BinOp l .Mult r p) (repF f g):=by
 intro x A lm ρ σ s v σ' Q E rm H e hQ
 obtain ⟨i,k,w,σ₁,σ₂,q1,q2,q3,q4,rfl,rfl⟩:=repF_inv e
 refine wpAny_BinOp (hl x A lm ρ σ s _ σ₁ _ _ rm H q1 fun ρ₁ s₁ va A1 Va=>?_)
 refine hr x A lm ρ₁ σ₁ s₁ _ _ _ _ rm (H.step A1) q2 fun ρ₂ s₂ vb A2 Vb=>?_
 obtain ⟨hi,rfl⟩:=Va.after A2
 obtain ⟨t,rfl⟩:=Vb
 obtain ⟨vs,n,hp,r⟩:=A2.rel.plain hi q3
 cases r with
 | cons vr r=>
  cases r
  obtain ⟨ρ',A3,v3⟩:=fB (X:=noX) (t:=s₂.toks) (n:=0) A2.rel (All2.replicate vr k.toNat)
  exact oK hp q4.1 (by lia) (hQ _ _ _ ((A1.trans A2).trans A3) v3)
noncomputable def isL:Ob->Bool
 | .list _=>true
 | _=>false
theorem isL_inv {o:Ob} (h:isL o=true):∃ xs,o=.list xs:=by
 cases o<;>first | (cases h;done) | exact ⟨_,rfl⟩
noncomputable def appF (f g:EF):EF:=fun l σ=>(f l σ).bind fun a=>(g l a.2).bind fun b=>(asR a.1).bind fun i=>if isL (a.2.get i)=true then (asL (b.2.get i)).bind fun xs=>if xs.length<=100000 then some (.none,b.2.put i (.list (xs ++ [b.1]))) else none else none
theorem appF_inv {f g:EF} {l:Loc} {σ σ':Sto} {v:Val} (e:appF f g l σ=some (v,σ')):∃ i b xs xs₀ σ₁ σ₂,f l σ=some (.ref i,σ₁)/\σ₁.get i=.list xs₀/\g l σ₁=some (b,σ₂)/\σ₂.get i=.list xs/\xs.length<=100000/\v=.none/\σ'=σ₂.put i (.list (xs ++ [b])):=by
 refine obE e fun a h1 e=>obE e fun b h2 e=>obE e fun i h3 e=>itE e fun h4 e=>obE e fun xs h5 e=>itE e fun h6 e=>(isL_inv h4).elim fun xs₀ h7=>prE (Option.some.inj e) ?_
 exact ⟨i,b.1,xs,xs₀,a.2,b.2,prR h1 h3,h7,h2,bN h5,h6,rfl,rfl⟩
noncomputable abbrev uG (e:Expr) (x:Str) (args:List Expr) (ap p:Pos):Prop:=∀ env,∃ pl,eval (.Call (.Attribute e x ap) args [] p) env=(do
   let ov <- eval e env
   standAt ap.atName
   let (f,first) <- holding [ov] (getMethod ov x pl)
   callWith p f first (backTo p (starEach args env)) [])
theorem SE.append {e a:Expr} {ap p:Pos} {f g:EF} (he:SE G sc d e f) (ha:SE G sc d a g) (hm:uG e "append" [a] ap p) (hs:∀ env,starEach [a] env=[(false,eval a env)]) :
  SE G sc d (.Call (.Attribute e "append" ap) [a] [] p) (appF f g):=by
 intro y A lm ρ σ s v σ' Q E rm H eq hQ
 obtain ⟨i,b,xs,xs₀,σ₁,σ₂,q1,q0,q2,q3,q4,rfl,rfl⟩:=appF_inv eq
 obtain ⟨pl,hm⟩:=hm (y.env sc)
 refine MethodCall_ (pl:=pl) (he y A lm ρ σ s _ _ _ _ rm H q1 fun ρ₁ s₁ va A1 Va=>?_) hm
 obtain ⟨hi,rfl⟩:=Va
 obtain ⟨vs₀,n₀,hp₀,_⟩:=A1.rel.plain hi q0
 refine getMethod_list_append hp₀ rfl rfl ?_
 rw [hs]
 refine PySem.P.append_list (ha y A lm ρ₁ σ₁ s₁ _ _ _ _ rm (H.step A1) q2 fun ρ₂ s₂ vb A2 Vb=>?_)
 have hi2:i<σ₂.n:=Nat.lt_of_lt_of_le hi A2.le
 obtain ⟨vs,n,hp,r⟩:=A2.rel.plain hi2 q3
 have e0:ρ₁ i 0=ρ₂ i 0:=by rw [A2.agree i hi]
 refine ⟨vs.toArray,n,by rw [List.size_toArray,<- r.length,sizeLine_eq];lia,by rw [e0];exact hp,?_⟩
 rw [e0]
 have q:=PySem.IsL.update hp (fun xs=>xs.push vb)
 have q':vs.toArray.push vb=(vs ++ [vb]).toArray:=by simp
 rw [q'] at q
 have B:After G.base noX ρ₂ σ₂ s₂ ρ₂ (σ₂.put i (.list (xs ++ [b]))) { s₂ with heap:=s₂.heap.update (ρ₂ i 0) (Obj.mapSeq fun xs=>xs.push vb),toks:=s₂.toks }:=
  After.put (k:=0) A2.rel hi2 (by rw [q3];simp [nc]) (by rw [q3];rfl) (Heap.SameBut.update ..) ⟨vs ++ [vb],⟨_,q⟩,r.append (.cons Vb .nil)⟩
 exact hQ _ _ _ ((A1.trans A2).trans B) rfl
noncomputable def oE (f:EF):EF:=fun l σ=>(f l σ).bind fun a=>(asR a.1).bind fun i=>(asL (a.2.get i)).bind fun ys=>(unC ys).bind fun p=>if p.2.length<=100000 then some (p.1,a.2.put i (.list p.2)) else none
theorem pop0F_inv {f:EF} {l:Loc} {σ σ':Sto} {v:Val} (e:oE f l σ=some (v,σ')):∃ i xs σ₁,f l σ=some (.ref i,σ₁)/\σ₁.get i=.list (v :: xs)/\xs.length<=100000/\σ'=σ₁.put i (.list xs):=by
 refine obE e fun a h1 e=>obE e fun i h2 e=>obE e fun ys h3 e=>obE e fun p h4 e=>itE e fun h5 e=>prE (Option.some.inj e) ?_
 exact ⟨i,p.2,a.2,prR h1 h2,unC_some h4▸bN h3,h5,rfl⟩
theorem SE.pop0 {e:Expr} {k:Nat} {ap p kp:Pos} {f:EF} (he:SE G sc d e f) (hm:uG e "pop" [.Constant (.int 0) k kp] ap p):SE G sc d (.Call (.Attribute e "pop" ap) [.Constant (.int 0) k kp] [] p) (oE f):=by
 intro y A lm ρ σ s v σ' Q E rm H eq hQ
 obtain ⟨i,xs,σ₁,q1,q3,q4,rfl⟩:=pop0F_inv eq
 obtain ⟨pl,hm⟩:=hm (y.env sc)
 refine MethodCall_ (pl:=pl) (he y A lm ρ σ s _ _ _ _ rm H q1 fun ρ₁ s₁ va A1 Va=>?_) hm
 obtain ⟨hi,rfl⟩:=Va
 obtain ⟨vs,n,hp,r⟩:=A1.rel.plain hi q3
 refine getMethod_list_of PySem.F.slot_list_pop PySem.F.type_list_pop (items:=vs.toArray) ⟨_,hp,rfl,_,rfl⟩ ⟨_,hp,rfl⟩ ?_
 show wpAny _ _ (callWith p (.builtin "list.pop") [.ref (ρ₁ i 0)] [(false,eval (.Constant (.int 0) k kp) (y.env sc))] []) _ _ _
 cases r with
 | @cons _ b _ l' vr r=>
  refine PySem.P.pop_at_list (wpAny_Constant_int ⟨(b :: l').toArray,n,0,s₁.toks,0,b,?_,rfl,hp,by decide,?_,by simp,?_⟩)
  ·rw [List.size_toArray,List.length_cons,<- r.length,sizeLine_eq];lia
  ·unfold seqIndex?;simp
  ·have q:=PySem.IsL.update hp (fun xs=>xs.eraseIdxIfInBounds 0)
   have q':(b :: l').toArray.eraseIdxIfInBounds 0=l'.toArray:=by simp
   rw [q'] at q
   have B:After G.base noX ρ₁ σ₁ s₁ ρ₁ (σ₁.put i (.list xs)) { s₁ with heap:=s₁.heap.update (ρ₁ i 0) (Obj.mapSeq fun xs=>xs.eraseIdxIfInBounds 0),toks:=s₁.toks+1 }:=
    After.put (k:=0) A1.rel hi (by rw [q3];simp [nc]) (by rw [q3];rfl) (Heap.SameBut.update ..) ⟨l',⟨_,q⟩,r⟩
   exact hQ _ _ _ (A1.trans B) vr
noncomputable def unpack2 (x y:String) (f:EF):SF:=fun l σ=>(f l σ).bind fun a=>(asR a.1).bind fun i=>(asT (a.2.get i)).bind fun xs=>(as2 xs).map fun p=>(.next,(l.put x p.1).put y p.2,a.2)
theorem pS {x y:String} {f:EF} {l l':Loc} {σ σ':Sto} {fl:Fl} (e:unpack2 x y f l σ=some (fl,l',σ')):∃ i u w,f l σ=some (.ref i,σ')/\σ'.get i=.tup [u,w]/\fl=.next/\l'=(l.put x u).put y w:=by
 refine obE e fun a h1 e=>obE e fun i h2 e=>obE e fun xs h3 e=>omE e fun p h4 e=>trE e ?_
 exact ⟨i,p.1,p.2,prR h1 h2,as2_some h4▸asT_some h3,rfl,rfl⟩
set_option tactic.hygienic true in
theorem SS.unpack2 {x y:String} {e:Expr} {p tp p1 p2:Pos} {k:Nat} {f:EF} (hk:sc.kind=.function) (hx:Sto1 sc x) (hy:Sto1 sc y) (h:SE G sc d e f)
  (hs:∀ env,swapsWithSole [Expr.Tuple [Expr.Name (Str.ofString x) p1,Expr.Name (Str.ofString y) p2] k tp] e p.line env=pure false)
  (hw:∀ env,swappedStores [Expr.Tuple [Expr.Name (Str.ofString x) p1,Expr.Name (Str.ofString y) p2] k tp] e env=pure none) :
  SS G sc d (.Assign [Expr.Tuple [Expr.Name (Str.ofString x) p1,Expr.Name (Str.ofString y) p2] k tp] e p) (Mine.unpack2 x y f):=by
 intro z A lm ρ σ s fl lm' σ' Q E rm H eq hQ
 obtain ⟨i,u,w,q1,q2,rfl,rfl⟩:=pS eq
 refine Assign_Tuple (h z A lm ρ σ s _ _ _ _ rm H q1 fun ρ₁ s₁ va A1 Va=>?_) (hs _) (hw _)
 obtain ⟨hi,rfl⟩:=Va
 have hh:=A1.rel.hold i hi
 rw [q2] at hh
 obtain ⟨vs,ht,r⟩:=hh
 cases r with | cons vu r=>cases r with | cons vw r=>
 cases r
 rename_i u' w'
 show wpAny _ _ (do standAt tp;unpack (.ref (ρ₁ i 0)) [(false,PySem.assign (.Name (Str.ofString x) p1) (z.env sc)),(false,PySem.assign (.Name (Str.ofString y) p2) (z.env sc))]) _ _ _
 refine wpAny_bind (wpAny_standAt ?_)
 unfold unpack
 refine wpAny_bind (wpAny_holding ?_)
 refine cV (unpackItems_tuple (items:=[u',w'].toArray) (Q:=fun items s'=>s₁.heap.objs.size<=s'.heap.objs.size->wpAny (model G.prog G.w) A (assignInOrder [PySem.assign (.Name (Str.ofString x) p1) (z.env sc),PySem.assign (.Name (Str.ofString y) p2) (z.env sc)] items) (fun _=>Q .next) E s') rm.2.2 ht fun h' he sz=>?_)
 have B:After G.base noX ρ₁ σ' s₁ ρ₁ σ' { s₁ with heap:=h',toks:=s₁.toks }:=After.grow A1.rel sz fun b o e=>he b o (Nat.ne_of_lt (Heap.lt_size e)) e
 have B1:=A1.trans B
 have H1:=H.step B1
 show wpAny _ _ (do holding [w'] (PySem.assign (.Name (Str.ofString x) p1) (z.env sc) u');(do holding [] (PySem.assign (.Name (Str.ofString y) p2) (z.env sc) w');pure ())) _ _ _
 refine wpAny_bind (wpAny_holding (wpAny_assign_Name (eW H1 (vu.after B) (hx z) hk fun s₂ A2 H2=>?_)))
 refine wpAny_bind (wpAny_holding (wpAny_assign_Name (eW H2 ((vw.after B).after A2) (hy z) hk fun s₃ A3 H3=>?_)))
 exact wpAny_pure (hQ _ _ _ (((B1.weaken fun _ h=>h.elim).trans A2).trans A3) H3 rfl)
end
section
variable {G:G0} {sc:Scope} {d:Nat}
theorem SS.dead {st:Stmt}:SS G sc d st (fun _ _=>Option.none):=fun _ _ _ _ _ _ _ _ _ _ _ _ _ h=>by cases h
theorem SE.dead {e:Expr}:SE G sc d e (fun _ _=>Option.none):=fun _ _ _ _ _ _ _ _ _ _ _ _ h=>by cases h
noncomputable def lZ (C:Addr) (g:FF) (f:EF):EF:=fun l σ=>(f l σ).bind fun o=>(asR o.1).bind fun i=>(asO C (o.2.get i)).bind fun _=>g [.ref i] o.2
theorem propF_inv {C:Addr} {g:FF} {f:EF} {l:Loc} {σ σ':Sto} {v:Val} (e:lZ C g f l σ=some (v,σ')):∃ i fs σ₁,f l σ=some (.ref i,σ₁)/\σ₁.get i=.inst C fs/\g [.ref i] σ₁=some (v,σ'):=by
 refine obE e fun o h1 e=>obE e fun i h2 e=>obE e fun fs h3 e=>?_
 exact ⟨i,fs,o.2,prR h1 h2,dF h3,e⟩
theorem SE.prop {C:Addr} {x:Str} {e:Expr} {p:Pos} {f:EF} {g:FF} {pa fget:Addr} {rest:List Value} (hC:Cls G.K C) (ha:findIn G.K (.ref C) x=some (some (.ref pa))) (hn:specialIn G.K (.ref pa) "__get__"=some (some (.builtin "property.__get__")))
  (ht:takesIn G.K (.ref pa)=some true) (hp:recIn G.K pa "property"=some (.ref fget :: rest)) (F:FnOK G d fget g) (h:SE G sc (d+1) e f)
  (he:∀ env,eval (.Attribute e x p) env=(do
   let o <- eval e env
   standAt p.atName
   let r <- holding [o] (getAttr o x true)
   letTemporaryGo e o r
   pure r)):SE G sc (d+1) (.Attribute e x p) (lZ C g f):=by
 intro y A lm ρ σ s v σ' Q E rm H eq hQ
 obtain ⟨i,fs,σ₁,q1,q2,q3⟩:=propF_inv eq
 refine Attribute_any_ (h y A lm ρ σ s _ _ _ _ rm H q1 fun ρ₁ s₁ va A1 Va=>?_) (he _)
 obtain ⟨hi,rfl⟩:=Va
 obtain ⟨es,ep,I,r⟩:=A1.rel.inst hi q2
 obtain ⟨m,Fm⟩:=(H.step A1).fr
 refine get_prop (K:=G.K) Fm G.ok.X I (by unfold plainGet;rw [hC.ga,hC.gn];rfl) hC.hd ha hn ht hp ?_
 have A2:=A1.trans (After.toks (X:=noX) (t:=s₁.toks+1) A1.rel)
 refine F A.in1 ρ₁ σ₁ _ [.ref i] _ v σ' _ rm.in1 A2.rel (.cons ⟨hi,rfl⟩ .nil) q3 fun ρ' s' val A3 hv=>?_
 show wpAny _ _ (handedOut val) _ _ _
 rw [handedOut_of hv.handed]
 exact wpAny_pure (hQ _ _ _ (A2.trans A3) hv)
noncomputable def lenF (f:EF):EF:=fun l σ=>(f l σ).bind fun a=>(asR a.1).bind fun i=>(asL (a.2.get i)).bind fun xs=>if xs.length<=1000000 then some (.int xs.length,a.2) else none
theorem lenF_inv {f:EF} {l:Loc} {σ σ':Sto} {v:Val} (e:lenF f l σ=some (v,σ')):∃ i xs,f l σ=some (.ref i,σ')/\σ'.get i=.list xs/\xs.length<=1000000/\v=.int xs.length:=by
 refine obE e fun o h1 e=>obE e fun i h2 e=>obE e fun xs h3 e=>itE e fun h4 e=>prE (Option.some.inj e) ?_
 exact ⟨i,xs,prR h1 h2,bN h3,h4,rfl⟩
theorem SL.one {e:Expr} {f:EF} (h:SE G sc d e f) (hs:∀ env,starEach [e] env=[(false,eval e env)]):∀ (x:Vx) (pos:Pos) (A:Around) (lm:Loc) (ρ:Map) (σ:Sto) (s:Shared) (v:Val) (σ':Sto) (Q:List Value->Shared->Prop) (E:Value->Shared->Prop),
  Room A d->Here G.base (x.env sc) lm ρ σ s->f lm σ=some (v,σ')->
  (∀ ρ' s' val,After G.base noX ρ σ s ρ' σ' s'->VR ρ' σ'.n v val->Q [val] s')->wpAny (model G.prog G.w) A (spliced (backTo pos (starEach [e] (x.env sc)))) Q E s:=by
 intro x pos A lm ρ σ s v σ' Q E rm H eq hQ
 rw [hs]
 exact Calls.spliced_cons (h x A lm ρ σ s v _ _ _ rm H eq fun ρ₁ s₁ va A1 Va=>Calls.spliced_nil (hQ _ _ _ A1 Va))
theorem SE.len {e:Expr} {np p:Pos} {f:EF} (hk:sc.kind=.function) (hx:eG sc "len" .globalImplicit) (he:nsIn G.K mainGlobals "len"=some Option.none) (h:SE G sc d e f) (hs:∀ env,starEach [e] env=[(false,eval e env)]) :
  SE G sc d (.Call (.Name "len" np) [e] [] p) (lenF f):=by
 intro y A lm ρ σ s v σ' Q E rm H eq hQ
 obtain ⟨i,xs,q1,q2,q3,rfl⟩:=lenF_inv eq
 refine eH hk hx (by decide) he (by decide) (show bootBuiltins "len"=some (.builtin "len") by decide +kernel) (.inr ⟨_,rfl⟩) H hs (SL.one h hs y p A lm ρ σ s _ _ _ _ rm H q1 fun ρ₁ s₁ va A1 Va=>?_)
 obtain ⟨hi,rfl⟩:=Va
 obtain ⟨vs,hl,r⟩:=A1.rel.isList hi q2
 have e1:(vs.toArray.size:Int)=xs.length:=by rw [List.size_toArray,r.length]
 refine len_list hl (by rw [e1];lia) ?_
 rw [e1]
 exact hQ _ _ _ (A1.trans (.toks A1.rel)) ⟨_,rfl⟩
noncomputable def boolC (f:EF):EF:=fun l σ=>(f l σ).bind fun a=>(truV a.1).map fun b=>(.bool b,a.2)
theorem SE.boolC {e:Expr} {np p:Pos} {f:EF} (hk:sc.kind=.function) (hx:eG sc "bool" .globalImplicit) (he:nsIn G.K mainGlobals "bool"=some Option.none) (h:SE G sc d e f) (hs:∀ env,starEach [e] env=[(false,eval e env)]) :
  SE G sc d (.Call (.Name "bool" np) [e] [] p) (boolC f):=by
 intro y A lm ρ σ s v σ' Q E rm H eq hQ
 obtain ⟨⟨a,σ₁⟩,q1,eq1⟩:=obx eq
 obtain ⟨b,q2,eq1⟩:=omx eq1
 cases eq1
 refine eH hk hx (by decide) he (by decide) PyProof.Rows.boot_bool (.inl ⟨_,rfl⟩) H hs (SL.one h hs y p A lm ρ σ s _ _ _ _ rm H q1 fun ρ₁ s₁ va A1 Va=>?_)
 rw [(gL q2:a=_)] at Va
 cases Va
 exact call_bool_bool (hQ _ _ _ A1 rfl)
noncomputable def rX (f:EF):EF:=fun l σ=>(f l σ).bind fun a=>(toI a.1).map fun _=>(.bool true,a.2)
theorem tM {f:EF} {l:Loc} {σ σ':Sto} {v:Val} (e:rX f l σ=some (v,σ')):∃ i,f l σ=some (.int i,σ')/\v=.bool true:=by
 refine obE e fun o h1 e=>omE e fun i h2 e=>prE e ?_
 exact ⟨i,prI h1 h2,rfl⟩
theorem name_boot {n:Str} {np:Pos} {bv:Value} {x:Vx} {A:Around} {lm:Loc} {ρ:Map} {σ:Sto} {s:Shared} {Q:Value->Shared->Prop} {E:Value->Shared->Prop} (hk:sc.kind=.function) (hx:eG sc n .globalImplicit)
  (hd:(n == ("__debug__":Str))=false) (he:nsIn G.K mainGlobals n=some Option.none) (hne:n ≠ "__name__") (hb:bootBuiltins n=some bv) (H:Here G.base (x.env sc) lm ρ σ s) (h:Q bv s):wpAny (model G.prog G.w) A (eval (.Name n np) (x.env sc)) Q E s:=
 Name_function_global (env:=x.env sc) hk (hx x) (loadGlobal_builtin (env:=x.env sc) (G.ok.g.keeps H.rel.stays) (mg_none_of G.ok.X G.ok.g he) (G.ok.b.keeps H.rel.stays) ((G.ok.builtins n hne).trans hb) h) hd
theorem SE.isInt {e:Expr} {np p ip:Pos} {f:EF} (hk:sc.kind=.function) (hx:eG sc "isinstance" .globalImplicit) (he:nsIn G.K mainGlobals "isinstance"=some Option.none) (hx2:eG sc "int" .globalImplicit) (he2:nsIn G.K mainGlobals "int"=some Option.none)
  (h:SE G sc d e f) (hs:∀ env,starEach [e,.Name "int" ip] env=[(false,eval e env),(false,eval (.Name "int" ip) env)]) :
  SE G sc d (.Call (.Name "isinstance" np) [e,.Name "int" ip] [] p) (rX f):=by
 intro y A lm ρ σ s v σ' Q E rm H eq hQ
 obtain ⟨i,q1,rfl⟩:=tM eq
 refine eH hk hx (by decide) he (by decide) PyProof.Rows.boot_isinstance (.inr ⟨_,rfl⟩) H hs ?_
 rw [hs]
 refine Calls.spliced_cons (h y A lm ρ σ s _ _ _ _ rm H q1 fun ρ₁ s₁ va A1 Va=>Calls.spliced_cons (name_boot hk hx2 (by decide) he2 (by decide) PyProof.Rows.boot_int (H.step A1) (Calls.spliced_nil ?_)))
 obtain ⟨t,rfl⟩:=Va
 exact call_isinstance (isinstance_true (Tx:="int") PySem.F.isi_meta_int PySem.F.sub_int_int) ⟨rfl,hQ _ _ _ A1 rfl⟩
end
theorem Room.under {A:Around} {d:Nat} {C:Addr} {vals:List Value} (h:Room A (d+1)):Room (A.under (.builtin "type.__call__" ⟨.ref C :: vals,[]⟩)) d:=by
 have e:(A.under (.builtin "type.__call__" ⟨.ref C :: vals,[]⟩)).depth=A.depth+1:=rfl
 have u:(A.under (.builtin "type.__call__" ⟨.ref C :: vals,[]⟩)).units=A.units+1:=rfl
 refine ⟨?_,?_,h.2.2⟩
 ·have:=h.1;lia
 ·have:=h.2.1;rw [u];lia
section
variable {G:G0} {sc:Scope} {d:Nat}
noncomputable def asN (v:Val):Option Unit:=match v with
 | .none=>some ()
 | .bool _ | .int _ | .str _ | .ref _ | .fn _=>none
theorem asN_some {v:Val} {u:Unit} (h:asN v=some u):v=.none:=by cases v<;>cases h;rfl
noncomputable def newF (C:Addr) (g:FF) (f:LF):EF:=fun l σ=>(f l σ).bind fun a=>(g (.ref a.2.n :: a.1) (a.2.push (.inst C []))).bind fun r=>(asN r.1).map fun _=>(.ref a.2.n,r.2)
theorem newF_inv {C:Addr} {g:FF} {f:LF} {l:Loc} {σ σ':Sto} {v:Val} (e:newF C g f l σ=some (v,σ')):∃ vs σ₁,f l σ=some (vs,σ₁)/\g (.ref σ₁.n :: vs) (σ₁.push (.inst C []))=some (.none,σ')/\v=.ref σ₁.n:=by
 refine obE e fun a h1 e=>obE e fun r h2 e=>omE e fun u h3 e=>prE e ?_
 exact ⟨a.1,a.2,h1,h2.trans (by rw [<- asN_some h3]),rfl⟩
theorem oD {base:Heap} {X:Addr->Prop} {ρ:Map} {σ:Sto} {s:Shared} {C:Addr} (R:Rel base ρ σ s.heap) :
  ∃ ρ',After base X ρ σ s ρ' (σ.push (.inst C [])) { s with heap:=(s.heap.push emptyDict).push (instObj C s.heap.objs.size) }/\VR ρ' (σ.push (.inst C [])).n (.ref σ.n) (.ref (s.heap.objs.size+1)):=by
 have hm:iJ ρ σ.n (fun k=>if k=0 then s.heap.objs.size+1 else s.heap.objs.size) σ.n=fun k=>if k=0 then s.heap.objs.size+1 else s.heap.objs.size:=if_pos rfl
 have hz:((s.heap.push emptyDict).push (instObj C s.heap.objs.size)).objs.size=s.heap.objs.size+2:=by rw [Heap.size_push,Heap.size_push]
 refine ⟨iJ ρ σ.n fun k=>if k=0 then s.heap.objs.size+1 else s.heap.objs.size,After.push (t:=s.toks) R (fun a x e=>Heap.get?_push_of_some _ (Heap.get?_push_of_some _ e)) (by rw [hz];lia) ⟨?_,[],0,?_,.nil⟩
  (fun k _=>?_) (fun k l hk hl e=>?_),Nat.lt_succ_self _,?_⟩
 ·rw [hm]
  show ((s.heap.push emptyDict).push (instObj C s.heap.objs.size)).get? (s.heap.objs.size+1)=_
  rw [show s.heap.objs.size+1=(s.heap.push emptyDict).objs.size from (Heap.size_push ..).symm]
  exact Heap.get?_push_size _ rfl
 ·rw [hm]
  exact Heap.get?_push_of_some _ (Heap.get?_push_size _ rfl)
 ·show s.heap.objs.size<=if k=0 then s.heap.objs.size+1 else s.heap.objs.size
  split<;>lia
 ·simp [nc] at hk hl
  have:(if k=0 then s.heap.objs.size+1 else s.heap.objs.size)=(if l=0 then s.heap.objs.size+1 else s.heap.objs.size):=e
  split at this<;>split at this<;>lia
 ·rw [hm];rfl
theorem SE.new {C fa:Addr} {g:FF} {f:LF} {e:Expr} {args:List Expr} {p:Pos} (he:SE G sc d e (kF (.fn C))) (hk:keepIn G.K (.ref C)=true) (hm:makesIn G.K C=true)
  (hi:findIn G.K (.ref C) "__init__"=some (some (.ref fa))) (hf:typeIn G.K (.ref fa)=some (.type "function")) (F:FnOK G d fa g) (ha:SL G sc (d+1) args f)
  (hc:∀ env,eval (.Call e args [] p) env=(do callWith p (<- eval e env) [] (backTo p (starEach args env)) (backToKw p (keywordEach [] env))))
  (hs:∀ env,starEach args env=args.map fun e=>(false,eval e env)):SE G sc (d+1) (.Call e args [] p) (newF C g f):=by
 intro x A lm ρ σ s v σ' Q E rm H eq hQ
 obtain ⟨vs,σ₁,h1,h2,rfl⟩:=newF_inv eq
 refine Call_ (he x A lm ρ σ s _ _ _ _ (rm.mono (Nat.le_succ _)) H rfl fun ρ₀ s₀ va A0 Va=>?_) (hc _)
 cases Va
 refine cF hk hs (ha x p A lm ρ₀ σ s₀ _ _ _ _ rm (H.step A0) h1 fun ρ₁ s₁ vals A1 Vs=>⟨G.ok.X.keeps A1.rel.stays,?_⟩)
 have X:=G.ok.X.keeps A1.rel.stays
 obtain ⟨ρ₂,A2,V2⟩:=oD (X:=noX) (C:=C) (s:=s₁) A1.rel
 obtain ⟨hh,gg,dd,tt,oo⟩:=s₁
 refine wpAny_call (make_core (makes_of X hm) (looks_findIn X hi) (fun self=>bind_fn X self hf) (.inl rfl) ?_)
 refine F _ ρ₂ _ _ _ _ .none σ' _ rm.under A2.rel (.cons V2 (VRs.after Vs A2)) h2 fun ρ' s' val A3 hv=>?_
 cases hv
 exact ⟨rfl,hQ _ _ _ (((A0.trans A1).trans A2).trans A3) (V2.after A3)⟩
noncomputable def fldF (C:Addr) (x:String) (tab:List (Addr×FF)) (f:EF) (fa:LF):EF:=fun l σ=>(f l σ).bind fun o=>(asR o.1).bind fun i=>(asO C (o.2.get i)).bind fun fs=>(getF fs x).bind fun w=>(asFn w).bind fun a=>(tab.find? fun t=>t.1 == a).bind fun t=>(fa l o.2).bind fun b=>t.2 b.1 b.2
theorem fldF_inv {C:Addr} {x:String} {tab:List (Addr×FF)} {f:EF} {fa:LF} {l:Loc} {σ σ':Sto} {v:Val} (e:fldF C x tab f fa l σ=some (v,σ')) :
  ∃ i fs a g σ₁ vs σ₂,f l σ=some (.ref i,σ₁)/\σ₁.get i=.inst C fs/\getF fs x=some (.fn a)/\(a,g)∈tab/\fa l σ₁=some (vs,σ₂)/\g vs σ₂=some (v,σ'):=by
 refine obE e fun o h1 e=>obE e fun i h2 e=>obE e fun fs h3 e=>obE e fun w h4 e=>obE e fun a h5 e=>obE e fun t h6 e=>obE e fun b h7 e=>?_
 have q:t.1=a:=beq_iff_eq.mp (List.find?_some (p:=fun t:Addr×FF=>t.1 == a) h6)
 exact ⟨i,fs,a,t.2,o.2,b.1,b.2,prR h1 h2,dF h3,pN h5▸h4,by rw [<- q];exact List.mem_of_find?_eq_some h6,h7,e⟩
theorem SE.fld {C:Addr} {x:String} {tab:List (Addr×FF)} {e:Expr} {args:List Expr} {ap p:Pos} {f:EF} {fl:LF} (hC:Cls G.K C) (ha':findIn G.K (.ref C) (Str.ofString x)=some Option.none)
  (hk:∀ t∈tab,keepIn G.K (.ref t.1)=true/\FnOK G d t.1 t.2) (he:SE G sc d e f) (ha:SL G sc d args fl)
  (hm:uG e (Str.ofString x) args ap p)
  (hs:∀ env,starEach args env=args.map fun e=>(false,eval e env)):SE G sc d (.Call (.Attribute e (Str.ofString x) ap) args [] p) (fldF C x tab f fl):=by
 intro y A lm ρ σ s v σ' Q E rm H eq hQ
 obtain ⟨i,fs,a,g,σ₁,vs,σ₂,h1,h2,h3,h6,h4,h5⟩:=fldF_inv eq
 obtain ⟨pl,hm⟩:=hm (y.env sc)
 refine MethodCall_ (pl:=pl) (he y A lm ρ σ s _ _ _ _ rm H h1 fun ρ₁ s₁ va A1 Va=>?_) hm
 obtain ⟨hi,rfl⟩:=Va
 obtain ⟨es,ep,I,r⟩:=A1.rel.inst hi h2
 refine method_usual (G.ok.X.keeps A1.rel.stays) I hC.ga hC.gn ha' rfl ?_
 refine jS hC ha' rfl A1.rel hi h2 h3 fun val t Vf=>?_
 cases Vf
 have A1':=A1.trans (After.toks (X:=noX) (t:=t) A1.rel)
 obtain ⟨k1,k2⟩:=hk _ h6
 refine cF k1 hs (ha y p A lm ρ₁ σ₁ _ _ _ _ _ rm (H.step A1') h4 fun ρ₂ s₂ vals A2 Vs=>⟨G.ok.X.keeps A2.rel.stays,?_⟩)
 refine wpAny_call (k2 A ρ₂ σ₂ s₂ _ _ v σ' _ rm A2.rel Vs h5 fun ρ' s' val A3 hv=>?_)
 exact hQ _ _ _ ((A1'.trans A2).trans A3) hv
noncomputable def bodyD (ps:List String) (dv:List Val) (b:SF):FF:=fun vs σ=>bQ ps b (vs ++ dv) σ
set_option tactic.hygienic true in
theorem FnOK.ofD {name qual:Str} {params:Arguments} {body:List Stmt} {scope:Scope} {dV kV doc pm cdv ct oc:Value} {an od:Option Addr} {osl:Array (Option Value)} {fa:Addr} {ps:List String} {dv:List Val} {dvv:List Value} {b:SF}
  (ho:G.K.lookup fa=some ⟨oc,od,.func (fnX name qual params body scope [] dV kV doc pm an cdv ct),osl⟩) (hcd:codeIn G.K cdv qual=true)
  (hdv:∀ ρ n,All2 (VR ρ n) dv dvv)
  (hb:∀ (s:Shared) (vals:List Value),G.K.In s.heap->vals.length+dv.length=ps.length->BindsTo s (fnX name qual params body scope [] dV kV doc pm an cdv ct) ⟨vals,[]⟩ ((ps.map Str.ofString).zip (vals ++ dvv)))
  (hloc:∀ p∈ps,scope.names.lookup (Str.ofString p)=some .local) (hcell:∀ x∈scope.names,x.2≠.cell)
  (hco:scope.isCoroutine=false) (hgen:scope.isGenerator=false) (hk:scope.kind=.function) (B:SB G scope d body b):FnOK G (d+1) fa (bodyD ps dv b):=by
 intro A ρ σ s vs₀ vals₀ v σ' R rm Rl Vs₀ eq hR
 unfold bodyD at eq
 unfold bQ at eq
 have Vs:=Vs₀.append (hdv ρ σ.n)
 split at eq
 ·rename_i hlen
  obtain ⟨⟨fl,lm',σ₁⟩,e1,e2⟩:=obx eq
  have X:=G.ok.X.keeps Rl.stays
  refine codeAny_call_def (fd:=fnX name qual params body scope [] dV kV doc pm an cdv ct) (body:=body) (binds:=(ps.map Str.ofString).zip (vals₀ ++ dvv)) rm.limit (X _ _ ho) rfl (G.ok.nolimit.keeps Rl.stays) (codeRec_of X hcd) rfl
   (hb s vals₀ X (by rw [List.length_append] at hlen;rw [<- Vs₀.length];exact hlen)) hcell (fun y hy=>by obtain ⟨p,hp,e⟩:=bJ hy;rw [e];exact hloc p hp) (fun h₁ hns hk₁=>?_) hco hgen hk
  have hsz:s.heap.objs.size<=h₁.objs.size:=by obtain ⟨_,_,_,e,_⟩:=hns;exact Nat.le_of_lt (Heap.lt_size e)
  have A0:After G.base noX ρ σ s ρ σ { s with heap:=h₁,toks:=s.toks+((ps.map Str.ofString).zip (vals₀ ++ dvv)).length }:=After.grow Rl hsz hk₁
  let x:Vx:=vx qual s.heap.objs.size fa cdv []
  have fx:∀ a,aE (x.env scope) a->a=s.heap.objs.size:=fun a ha=>by
   rcases ha with h | ⟨y,h⟩
   ·exact h
   ·cases h
  have H:Here G.base (x.env scope) (aJ ps (vs₀ ++ dv)) ρ σ { s with heap:=h₁,toks:=s.toks+((ps.map Str.ofString).zip (vals₀ ++ dvv)).length }:=by
   refine ⟨A0.rel,⟨_,hns,fun y u hy=>?_⟩,fun a ha ho=>?_,fun a ha=>by rw [fx a ha];exact Rl.size,fun a ha=>by rw [fx a ha];obtain ⟨_,_,_,e,_⟩:=hns;exact Heap.lt_size e,fun y c hc=>(nomatch hc),fun y z c hc=>(nomatch hc),fun y c hc=>(nomatch hc),fun y hy=>absurd rfl (hcell _ (bT hy))⟩
   ·obtain ⟨val,hv,vr⟩:=iG (iW ps Vs).reverse hy
    refine ⟨val,.inl ⟨?_,hv⟩,vr⟩
    have hm:=List.mem_reverse.mp (bT hv)
    obtain ⟨p,hp,e⟩:=bJ hm
    show scope.names.lookup _=_
    have e:Str.ofString y=Str.ofString p:=e
    rw [e];exact hloc p hp
   ·rw [fx a ha] at ho
    exact absurd (Rl.own_lt ho) (Nat.lt_irrefl _)
  refine B x (A.deeper (x.env scope)) (aJ ps (vs₀ ++ dv)) ρ σ _ fl lm' σ₁ _ _ rm.deeper H e1 fun ρ' s' flw A1 H1 F1=>?_
  have A2:After G.base noX ρ σ s ρ' σ₁ s':=((A0.weaken fun _ h=>h.elim).trans A1).drop fun a ha=>.inr (Nat.le_of_eq (fx a ha).symm)
  cases fl with
  | next=>cases F1;cases e2;exact hR _ _ _ A2 rfl
  | brk=>cases e2
  | cont=>cases e2
  | ret w=>obtain ⟨val,rfl,vr⟩:=F1;cases e2;exact hR _ _ _ A2 vr
 ·cases eq
end
section
variable {G:G0} {sc:Scope} {d:Nat}
noncomputable def chrF (f g:EF):EF:=fun l σ=>(f l σ).bind fun a=>(g l a.2).bind fun b=>(asS a.1).bind fun x=>(toI b.1).bind fun k=>if 0<=k/\k<2 ^ 62 then (x.cps[k.toNat]?).map fun c=>(.str ⟨#[c]⟩,b.2) else none
theorem chrF_inv {f g:EF} {l:Loc} {σ σ':Sto} {v:Val} (e:chrF f g l σ=some (v,σ')):∃ x k c σ₁,f l σ=some (.str x,σ₁)/\g l σ₁=some (.int k,σ')/\(0<=k/\k<2 ^ 62)/\x.cps[k.toNat]?=some c/\v=.str ⟨#[c]⟩:=by
 refine obE e fun a h1 e=>obE e fun b h2 e=>obE e fun x h3 e=>obE e fun k h4 e=>itE e fun h5 e=>omE e fun c h6 e=>prE e ?_
 exact ⟨x,k,c,a.2,prS h1 h3,prI h2 h4,h5,h6,rfl⟩
theorem SE.chr {e1 e2:Expr} {p:Pos} {f g:EF} (h1:SE G sc d e1 f) (h2:SE G sc d e2 g) (hs:∀ o i,∃ ops,subscripted e2 false o i=operate ops (getItem o i)):SE G sc d (.Subscript e1 e2 p) (chrF f g):=by
 intro y A lm ρ σ s v σ' Q E rm H eq hQ
 obtain ⟨x,k,c,σ₁,q1,q2,q3,q4,rfl⟩:=chrF_inv eq
 refine Subscript_ (h1 y A lm ρ σ s _ _ _ _ rm H q1 fun ρ₁ s₁ va A1 Va=>h2 y A lm ρ₁ σ₁ s₁ _ _ _ _ rm (H.step A1) q2 fun ρ₂ s₂ vb A2 Vb=>?_)
 obtain ⟨t,rfl⟩:=Va
 obtain ⟨u,rfl⟩:=Vb
 obtain ⟨ops,hops⟩:=hs (.str x t) (.int k u)
 have hlt:k<(x.length:Int):=by
  have:=(Array.getElem?_eq_some_iff.mp q4).1
  show k<((x.cps.size:Nat):Int)
  lia
 refine tail_any (typeIs_str _ _ _) PySem.F.slot_str_getitem.lookup (PyProof.Rows.getItem_str (c:=c) ?_ ?_ (hQ _ _ _ ((A1.trans A2).trans (.toks A2.rel)) ⟨_,rfl⟩)) hops
 ·have a1:¬ k < -(2 ^ 63:Int):=by lia
  have a2:¬ k>=2 ^ 63:=by lia
  rw [decide_eq_false a1,decide_eq_false a2];rfl
 ·have:seqIndex? k x.length=some k.toNat:=by
   unfold seqIndex?
   have a1:¬ k<0:=by lia
   have a2:¬ (k>=(x.length:Int)):=by lia
   simp [a1,a2]
  rw [this];exact q4
noncomputable def ordF (f:EF):EF:=fun l σ=>(f l σ).bind fun a=>(asS a.1).bind fun x=>if x.length=1 then some (.int (x.cps.getD 0 0:Nat),a.2) else none
theorem ordF_inv {f:EF} {l:Loc} {σ σ':Sto} {v:Val} (e:ordF f l σ=some (v,σ')):∃ x,f l σ=some (.str x,σ')/\x.length=1/\v=.int (x.cps.getD 0 0:Nat):=by
 refine obE e fun a h1 e=>obE e fun x h2 e=>itE e fun h3 e=>prE (Option.some.inj e) ?_
 exact ⟨x,prS h1 h2,h3,rfl⟩
theorem SE.ord {e:Expr} {np p:Pos} {f:EF} (hk:sc.kind=.function) (hx:eG sc "ord" .globalImplicit) (he:nsIn G.K mainGlobals "ord"=some Option.none) (h:SE G sc d e f) (hs:∀ env,starEach [e] env=[(false,eval e env)]) :
  SE G sc d (.Call (.Name "ord" np) [e] [] p) (ordF f):=by
 intro y A lm ρ σ s v σ' Q E rm H eq hQ
 obtain ⟨x,q1,q2,rfl⟩:=ordF_inv eq
 refine eH hk hx (by decide) he (by decide) (show bootBuiltins "ord"=some (.builtin "ord") by decide +kernel) (.inr ⟨_,rfl⟩) H hs (SL.one h hs y p A lm ρ σ s _ _ _ _ rm H q1 fun ρ₁ s₁ va A1 Va=>?_)
 obtain ⟨t,rfl⟩:=Va
 exact ord_of_one q2 (hQ _ _ _ (A1.trans (.toks A1.rel)) ⟨_,rfl⟩)
noncomputable def FnTab (G:G0) (d:Nat) (tab:List (Addr×FF)):Prop:=∀ t∈tab,keepIn G.K (.ref t.1)=true/\FnOK G d t.1 t.2
theorem FnTab.mono {d':Nat} {tab:List (Addr×FF)} (h:FnTab G d tab) (hd:d<=d'):FnTab G d' tab:=fun t ht=>⟨(h t ht).1,(h t ht).2.mono hd⟩
end
section
variable {M:Model} {A:Around} {R:GenEnd} {Y:Protocol} {n:Nat} {s₀:Shared} {c:Code} {fs:List Frame} {s:Shared} {env:Env}
 {K:Flow->Sem Fin} {H:Value->Sem Fin} {gd:Bool->Bool} {lv:List Value->List Value}
theorem jU (r:List Stmt) (a:List Stmt):(execs (a ++ r) env).wrap K H gd lv =
  (execs a env).wrap (fun f:Flow=>match f with | .next=>(execs r env).wrap K H gd lv | f=>K f) H gd lv:=by
 induction a with
 | nil=>rfl
 | cons st a ih=>
  rw [List.cons_append,execs_cons_wrap,execs_cons_wrap]
  refine Sem.wrap_congr _ _ _ (fun f=>?_) (fun _=>rfl)
  cases f with
  | next=>exact ih
  | _=>rfl
theorem mF {a r:List Stmt} (h:wpAny M (A.over c fs) (execs a env) (fun f s'=>Seg M A R Y n s₀ c (match f with | .next=>(execs r env).wrap K H gd lv | f=>K f) fs s') (fun _ _=>False) s) :
  Seg M A R Y n s₀ c ((execs (a ++ r) env).wrap K H gd lv) fs s:=by
 rw [jU]
 exact seg_wrap (wpAny_mono h (fun _ _ z=>z) fun _ _ z=>z.elim)
theorem seg_For {target iter:Expr} {body orelse:List Stmt} {pos:Pos}
  (h:wpAny M (A.over c fs) (eval iter env) (fun x s₁=>wpAny M (A.over c fs) (pyIter x) (fun it s₂=>∀ p,Seg M A R Y n s₀ (.forLoop target it body orelse env) (M.den (.forLoop target it body orelse env))
   (.ret (fun r=>((match r with | .ok f=>(.pure f:Sem Flow) | .error e=>.raise e).onRaise fun (x:Value)=>do
    if (<- field x 1) == Value.none then unsupported "frame.own-activation:exception-without-traceback"
    setFlight x env.frame).wrap K H gd lv) none (gd false) (lv []) c p [] :: fs) s₂) (fun _ _=>False) s₁) (fun _ _=>False) s)
  (hs:∀ x,foldedSetIterable iter env x=pure x) :
  Seg M A R Y n s₀ c ((exec (.For target iter body orelse pos) env).wrap K H gd lv) fs s:=by
 rw [exec_For]
 refine seg_bind_wrap (wpAny_standAt ?_)
 refine seg_bind_wrap (wpAny_mono h (fun x s₁ h₁=>?_) fun _ _ z=>z.elim)
 refine seg_bind_wrap (wpAny_of_eq (hs x) ?_)
 refine seg_bind_wrap (wpAny_standAt ?_)
 refine seg_bind_wrap (wpAny_holding (wpAny_mono h₁ (fun it s₂ h₂=>?_) fun _ _ z=>z.elim))
 exact seg_call h₂
theorem rI {st:Stmt} (h:Seg M A R Y n s₀ c ((exec st env).wrap (fun f=>match f with | .next=>K .next | f=>K f) H gd lv) fs s) :
  Seg M A R Y n s₀ c ((execs [st] env).wrap K H gd lv) fs s:=by
 refine seg_execs_cons ?_
 rw [Sem.wrap_congr (exec st env) gd lv (K':=fun f=>match f with | .next=>K .next | f=>K f) (H':=H) (fun f=>by cases f<;>rfl) (fun _=>rfl)]
 exact h
end
section
variable {prog:Program} {w:World} {A:Around} {R:GenEnd} {Y:Protocol} {n:Nat} {s₀:Shared} {fs:List Frame} {s:Shared} {env:Env}
theorem qA {target:Expr} {it:Value} {body orelse:List Stmt} (ht:∀ v,letOwnedTupleGo target it v=pure ())
  (h:wpAny (model prog w) (A.over (.forLoop target it body orelse env) fs) (pyNext it) (fun r s₁=>match r with
    | none=>Seg (model prog w) A R Y n s₀ (.block orelse env) ((model prog w).den (.block orelse env)) fs s₁
    | some v=>wpAny (model prog w) (A.over (.forLoop target it body orelse env) fs) (PySem.assign target env v) (fun _ s₂=>
      Seg (model prog w) A R Y n s₀ (.forLoop target it body orelse env) ((execs body env).wrap (fun f=>match f with
      | .next | .cont=>.pure (.again (.forLoop target it body orelse env))
      | .brk=>.pure (.done .next)
      | .ret v=>.pure (.done (.ret v))) (fun e=>(do noteFrame e env;theTreesLotGoes e:Sem Unit).wrap (fun _=>.raise e) .raise id id) id id) fs s₂) (fun _ _=>False) s₁) (fun _ _=>False) s) :
  Seg (model prog w) A R Y n s₀ (.forLoop target it body orelse env) ((model prog w).den (.forLoop target it body orelse env)) fs s:=by
 show Seg _ A R Y n s₀ _ ((forTurn target it body orelse env).onRaise (fun x=>do noteFrame x env;theTreesLotGoes x)) fs s
 unfold forTurn
 rw [Sem.onRaise_eq_wrap]
 refine seg_bind_wrap (wpAny_standAt ?_)
 refine seg_bind_wrap (wpAny_onRaise (wpAny_mono h (fun r s₁ h₁=>?_) fun _ _ z=>z.elim))
 cases r with
 | none=>exact seg_again rfl h₁
 | some v=>
  refine seg_bind_wrap (wpAny_of_eq (ht v) ?_)
  refine seg_bind_wrap (wpAny_mono h₁ (fun _ s₂ h₂=>?_) fun _ _ z=>z.elim)
  rw [Sem.bind_eq_wrap',Sem.wrap_wrap]
  rw [Sem.wrap_congr (execs body env) _ _ (K':=fun f=>match f with
      | .next | .cont=>.pure (.again (.forLoop target it body orelse env))
      | .brk=>.pure (.done .next)
      | .ret v=>.pure (.done (.ret v))) (H':=(fun e=>(do noteFrame e env;theTreesLotGoes e:Sem Unit).wrap (fun _=>.raise e) .raise id id))
    (fun f=>by cases f<;>rfl)
    (fun e=>by first | exact Sem.bind_eq_wrap _ _ | (show (do noteFrame e env;theTreesLotGoes e:Sem Unit).bind (fun _=>.raise e)=_;rw [Sem.bind_eq_wrap]))]
  exact h₂
theorem mU {k:Result->Sem Fin} {h:Option Value} {g:Bool} {l:List Value} {c₁:Code} {p₁:Pos} (hk:Seg (model prog w) A R Y n s₀ c₁ (k (.ok .next)) fs s) :
  Seg (model prog w) A R Y n s₀ (.block [] env) ((model prog w).den (.block [] env)) (.ret k h g l c₁ p₁ [] :: fs) s:=by
 have:(model prog w).den (.block [] env)=leafOf (.ok .next):=by rfl
 rw [this]
 exact seg_leaf (.ok .next) hk
end
noncomputable abbrev GSt:=Nat×Int×Loc
noncomputable def dN (x:String) (b:SF) (e:EF):Nat->Int->Loc->Sto->Option (Option (Val×GSt)×Sto)
 | 0,_,_,σ=>some (none,σ)
 | k+1,v,l,σ=>(b (l.put x (.int v)) σ).bind fun r=>match r.1 with
  | .next=>(e r.2.1 r.2.2).map fun y=>(some (y.1,(k,v+1,r.2.1)),y.2)
  | .cont=>dN x b e k (v+1) r.2.1 r.2.2
  | _=>none
structure GenF (G:G0) (env:Env) (N0:Nat) (a:Addr) (g:Nat) (I:Addr) (st:GSt) (ρ:Map) (σ:Sto) (s:Shared):Prop where
 here:Here G.base env st.2.2 ρ σ s
 nown:¬ Own ρ σ I
 ilt:I<s.heap.objs.size
 ilow:N0<=I
 ibase:G.base.objs.size<=I
 nfr:∀ b,aE env b->b≠I
 iter:IsRangeIter s.heap I st.2.1 (st.1:Int) 1
 isgen:s.heap.IsGen a g
 anown:¬ Own ρ σ a
 afr:∀ b,aE env b->b≠a
 ne:a≠I
 gin:∃ z,s.gens[g]?=some z
theorem kJ {h h':Heap} {I:Addr} {v n c:Int} (hk:∀ o,h.get? I=some o->h'.get? I=some o) (x:IsRangeIter h I v n c):IsRangeIter h' I v n c:=hk _ x
theorem GenF.after {G:G0} {env:Env} {N0:Nat} {a:Addr} {g:Nat} {I:Addr} {st:GSt} {ρ ρ':Map} {σ σ':Sto} {s s':Shared} {X:Addr->Prop} (F:GenF G env N0 a g I st ρ σ s) (B:After G.base X ρ σ s ρ' σ' s')
  (h1:∀ b,aE env b->¬ X b) (h2:¬ X I) (h3:¬ X a):GenF G env N0 a g I st ρ' σ' s':=
 ⟨F.here.after B h1,fun q=>F.nown (B.own_back q F.ilt),Nat.lt_of_lt_of_le F.ilt B.size,F.ilow,F.ibase,F.nfr,kJ (fun o e=>B.kept I o h2 F.nown e) F.iter,
  (by obtain ⟨o,nm,qn,ho,r⟩:=F.isgen;exact ⟨o,nm,qn,B.kept a o h3 F.anown ho,r⟩),
  fun q=>F.anown (B.own_back q (by obtain ⟨o,nm,qn,ho,r⟩:=F.isgen;exact Heap.lt_size ho)),F.afr,F.ne,let ⟨z,hz⟩:=F.gin;⟨z,B.gens g z hz⟩⟩
section
variable {G:G0} {sc:Scope} {d:Nat}
noncomputable def Post (PP:Nat->GSt->Map->Sto->Shared->Prop) (QQ:Nat->Val->GSt->Map->Sto->Shared->Prop) (DD:Map->Sto->Shared->Prop) (n:Nat) (r:Option (Val×GSt)) (ρ:Map) (σ:Sto) (s:Shared):Prop:=
 match r with
 | none=>DD ρ σ s
 | some y=>QQ n y.1 y.2 ρ σ s
noncomputable def genR (DD:Map->Sto->Shared->Prop):GenEnd:=fun _ _ r s₁=>r=.ok (.ret .none)/\∃ ρ₁ σ₁,DD ρ₁ σ₁ s₁
noncomputable def genY (G:G0) (env:Env) (N0:Nat) (a:Addr) (g:Nat) (PP:Nat->GSt->Map->Sto->Shared->Prop) (QQ:Nat->Val->GSt->Map->Sto->Shared->Prop):Protocol:=fun m _ v s₁ kap=>
 ∃ y st ρ₁ σ₁ I,VR ρ₁ σ₁.n y v/\QQ m y st ρ₁ σ₁ s₁/\GenF G env N0 a g I st ρ₁ σ₁ s₁/\∀ ρ'' σ'' s'',PP m st ρ'' σ'' s''->GenF G env N0 a g I st ρ'' σ'' s''->kap (.send .none) s''
structure Pulls (G:G0) (N0:Nat) (x:String) (b:SF) (e:EF) (PP:Nat->GSt->Map->Sto->Shared->Prop) (QQ:Nat->Val->GSt->Map->Sto->Shared->Prop) (DD:Map->Sto->Shared->Prop):Prop where
 zero:∀ st ρ σ s,¬ PP 0 st ρ σ s
 step:∀ n st ρ σ s,PP (n+1) st ρ σ s->∃ r σ₁,dN x b e st.1 st.2.1 st.2.2 σ=some (r,σ₁)/\∀ ρ' s',After G.base (fun a=>N0<=a) ρ σ s ρ' σ₁ s'->Post PP QQ DD n r ρ' σ₁ s'
noncomputable def rD (x:String) (px:Pos) (I:Addr) (env:Env) (body:List Stmt) (c:Code) (p:Pos):Frame:=
 .ret (fun r=>((match r with | .ok f=>(.pure f:Sem Flow) | .error e=>.raise e).onRaise fun (x:Value)=>do
    if (<- field x 1) == Value.none then unsupported "frame.own-activation:exception-without-traceback"
    setFlight x env.frame).wrap (fun f:Flow=>match f with | .next=>(.pure (.done (.ret .none)):Sem PySem.Fin) | f=>.pure (.done (.ret (match f with | .ret v=>v | _=>.none))))
   (fun e=>(leaving env e).wrap (fun _=>.raise e) .raise id id) id id) none (id false) (id []) c p []
set_option genInjectivity false in
structure GP where
 G:G0
 sc:Scope
 A:Around
 d:Nat
 N0:Nat
 a:Addr
 g:Nat
 xv:Vx
 x:String
 px:Pos
 bA:List Stmt
 eY:Expr
 yp:Pos
 ep:Pos
 I:Addr
 fb:List Stmt
 p:Pos
 b:SF
 e:EF
 PP:Nat->GSt->Map->Sto->Shared->Prop
 QQ:Nat->Val->GSt->Map->Sto->Shared->Prop
 DD:Map->Sto->Shared->Prop
noncomputable abbrev GP.env (K:GP):Env:=K.xv.env K.sc
noncomputable abbrev GP.code (K:GP):Code:=.forLoop (.Name (Str.ofString K.x) K.px) (.ref K.I) (K.bA ++ [.Expr (.Yield (some K.eY) K.yp) K.ep]) [] K.env
noncomputable abbrev GP.fr (K:GP):List Frame:=[rD K.x K.px K.I K.env K.fb (.func K.fb K.env) K.p]
noncomputable abbrev GP.over (K:GP):Around:=K.A.over K.code K.fr
noncomputable def GP.wp (K:GP) {α:Type} (t:Sem α) (Q:α->Shared->Prop) (s:Shared):Prop:=wpAny (model K.G.prog K.G.w) K.over t Q (fun _ _=>False) s
noncomputable def GP.gy (K:GP):Protocol:=genY K.G K.env K.N0 K.a K.g K.PP K.QQ
noncomputable def GP.Sg (K:GP) (n:Nat) (s₀ s:Shared):Prop:=Seg (model K.G.prog K.G.w) K.A (genR K.DD) K.gy n s₀ K.code ((model K.G.prog K.G.w).den K.code) K.fr s
noncomputable def GP.yQ (K:GP) (n:Nat) (s₀:Shared):Flow->Shared->Prop:=fun f s=>match f with
 | .next=>K.wp (eval K.eY K.env) (fun v s'=>∀ kap:Resume->Shared->Prop,(∀ s'',K.Sg n s'' s''->kap (.send .none) s'')->K.gy n s₀ v s' kap) s
 | .cont=>K.Sg (n+1) s₀ s
 | .brk | .ret _=>False
noncomputable def GP.nQ (K:GP) (n:Nat) (s₀:Shared):Option Value->Shared->Prop:=fun r s=>match r with
 | none=>∃ ρ σ,K.DD ρ σ s
 | some v=>K.wp (PySem.assign (.Name (Str.ofString K.x) K.px) K.env v) (fun _ s=>K.wp (execs K.bA K.env) (K.yQ n s₀) s) s
set_option genInjectivity false in
structure GP.OK (K:GP):Prop where
 P:Pulls K.G K.N0 K.x K.b K.e K.PP K.QQ K.DD
 hk:K.sc.kind=.function
 hx:Sto1 K.sc K.x
 hco:K.sc.isCoroutine=false
 hi:interactive K.env=false
 hb:SB K.G K.sc K.d K.bA K.b
 he:SE K.G K.sc K.d K.eY K.e
 hN:∀ a,aE K.env a->K.N0<=a
 rm:Room K.over K.d
theorem GP.step {K:GP} (ok:K.OK) {n:Nat} {s₀ s:Shared} (h:K.wp (pyNext (.ref K.I)) (K.nQ n s₀) s):K.Sg (n+1) s₀ s:=by
 refine qA (fun _=>rfl) (wpAny_mono h (fun r s₁ h₁=>?_) fun _ _ z=>z)
 cases r with
 | none=>exact mU (show Seg _ _ _ _ _ _ _ (leafOf (.ok (.ret .none))) [] _ from seg_end _ ⟨rfl,h₁⟩)
 | some v=>
  refine wpAny_mono h₁ (fun _ s₂ h₂=>mF (wpAny_mono h₂ (fun f s₃ h₃=>?_) fun _ _ z=>z)) fun _ _ z=>z
  cases f with
  | next=>exact rI (seg_Expr_Yield rfl rfl rfl (wpAny_mono h₃ (fun v s' hq kap hk=>hq kap fun s'' hs=>hk .none s'' (seg_again rfl hs)) fun _ _ z=>z.elim) ok.hco ok.hi)
  | cont=>exact seg_again rfl h₃
  | brk=>exact h₃.elim
  | ret v=>exact h₃.elim
inductive GP.St (K:GP) (n k:Nat) (v:Int) (l:Loc) (s:Shared):Prop
 | mk (ρ₀:Map) (σ₀:Sto) (t₀:Shared) (ρ:Map) (σ:Sto) (r:Option (Val×GSt)) (σ₁:Sto) (B:After K.G.base (fun b=>aE K.env b\/b=K.I) ρ₀ σ₀ t₀ ρ σ s) (F:GenF K.G K.env K.N0 K.a K.g K.I (k,v,l) ρ σ s)
   (e:dN K.x K.b K.e k v l σ=some (r,σ₁)) (post:∀ ρ' s',After K.G.base (fun a=>K.N0<=a) ρ₀ σ₀ t₀ ρ' σ₁ s'->Post K.PP K.QQ K.DD n r ρ' σ₁ s')
theorem GenF.turn {G:G0} {env:Env} {N0:Nat} {a:Addr} {g:Nat} {I:Addr} {k:Nat} {v:Int} {l l₁:Loc} {ρ ρ':Map} {σ σ':Sto} {s s':Shared} {h:Heap} {t:Nat} (F:GenF G env N0 a g I (k+1,v,l) ρ σ s) (it:IsRangeIter h I (v+1) (((k+1:Nat):Int) - 1) 1)
  (sb:Heap.SameBut I s.heap h) (B:After G.base (aE env) ρ σ { s with heap:=h,toks:=t } ρ' σ' s') (H:Here G.base env l₁ ρ' σ' s'):GenF G env N0 a g I (k,v+1,l₁) ρ' σ' s':=by
 obtain ⟨o,nm,qn,ho,r⟩:=F.isgen
 have lt:=Nat.lt_of_lt_of_eq F.ilt sb.1.symm
 have ho':=(sb.2 a F.ne).trans ho
 rw [show ((k+1:Nat):Int) - 1=(k:Int) from Int.add_sub_cancel (k:Int) 1] at it
 exact ⟨H,fun q=>F.nown (B.own_back q lt),Nat.lt_of_lt_of_le lt B.size,F.ilow,F.ibase,F.nfr,B.kept I _ (fun q=>F.nfr I q rfl) F.nown it,⟨o,nm,qn,B.kept a o (fun q=>F.afr a q rfl) F.anown ho',r⟩,
  fun q=>F.anown (B.own_back q (Heap.lt_size ho')),F.afr,F.ne,F.gin.imp fun z hz=>B.gens g z hz⟩
theorem seg_loop {K:GP} (ok:K.OK):∀ (n k:Nat) (v:Int) (l:Loc) (s s₀:Shared),K.St n k v l s->K.Sg (n+1) s₀ s:=by
 intro n
 induction n using Nat.strongRecOn with
 | ind n ihn=>
 intro k
 induction k with
 | zero=>
  intro v l s s₀ st
  cases st with | mk ρ₀ σ₀ t₀ ρ σ r σ₁ B F e post=>
  refine GP.step ok (cV (wpAny_pyNext_range_end ok.rm.2.2 F.iter (Int.le_refl _) fun h' hne sz=>?_))
  cases e
  have B2:After K.G.base (fun a=>a=K.I) ρ σ s ρ σ { s with heap:=h',toks:=s.toks }:=After.frame F.here.rel F.nown F.ibase sz hne
  exact ⟨_,_,post _ _ ((B.trans (B2.weaken fun _ q=>.inr q)).weaken fun b hb=>hb.elim (ok.hN b) fun q=>q▸F.ilow)⟩
 | succ k ihk=>
  intro v l s s₀ st
  refine byC fun hN=>?_
  cases st with | mk ρ₀ σ₀ t₀ ρ σ r σ₁ B F e post=>
  refine obE e fun q hb1 hst=>?_
  clear e
  obtain ⟨fl,l₁,σ₂⟩:=q
  refine hN (GP.step ok (wpAny_pyNext_range_item F.iter (Int.natCast_pos.mpr (Nat.succ_pos k)) fun h' hit' sb=>?_))
  have B2:After K.G.base (fun a=>a=K.I) ρ σ s ρ σ { s with heap:=h',toks:=s.toks+1 }:=After.frame F.here.rel F.nown F.ibase (Nat.le_of_eq sb.1.symm) fun b o hne e=>(sb.2 b hne).trans e
  refine wpAny_assign_Name (eW (v:=.int v) (F.here.after B2 F.nfr) ⟨_,rfl⟩ (ok.hx K.xv) ok.hk fun s₂ B3 H3=>?_)
  refine ok.hb K.xv _ _ _ _ _ _ _ _ _ _ ok.rm H3 hb1 fun ρ₃ s₃ flw B4 H4 F4=>?_
  have B5:=B3.trans B4
  have F3:=F.turn hit' sb B5 H4
  have G4:=(B.trans (B2.weaken fun _ q=>.inr q)).trans (B5.weaken fun _ q=>.inl q)
  cases fl with
  | brk=>cases hst
  | ret v=>cases hst
  | cont=>cases F4;exact ihk (v+1) l₁ s₃ s₀ ⟨ρ₀,σ₀,t₀,ρ₃,σ₂,r,σ₁,G4,F3,hst,post⟩
  | next=>
   cases F4
   refine omE hst fun q hy hst=>?_
   refine ok.he K.xv _ _ _ _ _ q.1 q.2 _ _ ok.rm H4 hy fun ρ₄ s₄ val B6 V5 kap hkap=>?_
   cases hst
   have F5:=F3.after B6 (fun _ _ q=>q) (fun q=>q) (fun q=>q)
   refine ⟨q.1,(k,v+1,l₁),ρ₄,q.2,K.I,V5,post _ _ ((G4.trans (B6.weaken fun _ q=>q.elim)).weaken fun b hb=>hb.elim (ok.hN b) fun q=>q▸F.ilow),F5,fun ρ'' σ'' s'' hp hF=>hkap s'' ?_⟩
   cases n with
   | zero=>exact absurd hp (ok.P.zero _ _ _ _)
   | succ m=>
    obtain ⟨r',σ',h1,h2⟩:=ok.P.step m _ _ _ _ hp
    exact ihn m (Nat.lt_succ_self m) k (v+1) l₁ s'' s'' ⟨ρ'',σ'',s'',ρ'',σ'',r',σ',.refl hF.here.rel,hF,h1,h2⟩
end
section
variable {G:G0} {sc:Scope} {d:Nat}
noncomputable def GenFn (G:G0) (fa:Addr) (ps:List String) (gsc:Scope) (fb:List Stmt):Prop:=
 ∀ (A:Around) (ρ:Map) (σ:Sto) (s:Shared) (vs:List Val) (vals:List Value) (R:Result->Shared->Prop),
  Room A 1->Rel G.base ρ σ s.heap->All2 (VR ρ σ.n) vs vals->vs.length=ps.length->
  (∀ (a:Addr) (xv:Vx) s',s'.gens=s.gens.push (.fresh (.func fb (xv.env gsc)))->After G.base noX ρ σ s ρ σ s'->Here G.base (xv.env gsc) (aJ ps vs) ρ σ s'->
   (∀ b,aE (xv.env gsc) b->s.heap.objs.size<=b/\b≠a)->s.heap.objs.size<=a->s'.heap.IsGen a s.gens.size->R (.ok (.ret (.ref a))) s')->
  codeAny (model G.prog G.w) A (.call (.ref fa) ⟨vals,[]⟩) R s
set_option tactic.hygienic true in
theorem GenFn.of {name qual:Str} {params:Arguments} {body:List Stmt} {scope:Scope} {dV kV doc pm cdv ct oc:Value} {an od:Option Addr} {osl:Array (Option Value)} {fa:Addr} {ps:List String}
  (ho:G.K.lookup fa=some ⟨oc,od,.func (fnX name qual params body scope [] dV kV doc pm an cdv ct),osl⟩) (hcd:codeIn G.K cdv qual=true)
  (hb:∀ vals:List Value,vals.length=ps.length->bindArgs (fnX name qual params body scope [] dV kV doc pm an cdv ct) ⟨vals,[]⟩=pure ((ps.map Str.ofString).zip vals))
  (hloc:∀ p∈ps,scope.names.lookup (Str.ofString p)=some .local) (hcell:∀ x∈scope.names,x.2≠.cell)
  (hco:scope.isCoroutine=false) (hgen:scope.isGenerator=true) (hk:scope.kind=.function):GenFn G fa ps scope body:=by
 intro A ρ σ s vs vals R rm Rl Vs hlen hR
 have X:=G.ok.X.keeps Rl.stays
 refine codeAny_call_generator (fd:=fnX name qual params body scope [] dV kV doc pm an cdv ct) (body:=body) rm.limit (X _ _ ho) rfl hco hgen rfl (codeRec_of X hcd) ?_
 rw [hb vals (Vs.length.symm.trans hlen)]
 refine wpAny_pure (wpAny_newFunctionEnv hcell (fun y hy=>by obtain ⟨p,hp,e⟩:=bJ hy;rw [e];exact hloc p hp) (fun h₁ hns sb=>?_) hk)
 have hk₁:∀ b o,s.heap.get? b=some o->h₁.get? b=some o:=fun b o e=>sb.extBut b o (Nat.ne_of_lt (Heap.lt_size e)) (Heap.get?_push_of_some _ e)
 have hsz:h₁.objs.size=s.heap.objs.size+1:=by rw [sb.1,Heap.size_push]
 let x:Vx:=vx qual s.heap.objs.size fa cdv []
 have fx:∀ a,aE (x.env scope) a->a=s.heap.objs.size:=fun a ha=>by
  rcases ha with h | ⟨y,h⟩
  ·exact h
  ·cases h
 refine ⟨?_,?_⟩
 ·exact (G.ok.nolimit.keeps Rl.stays).keeps hk₁
 refine hR h₁.objs.size x _ rfl ?_ ?_ (fun b hb'=>?_) (by rw [hsz];exact Nat.le_succ _) ⟨_,_,_,Heap.get?_push_size _ rfl,rfl,rfl,rfl⟩
 ·refine ⟨Rl.move (fun b o e=>Heap.get?_push_of_some _ (hk₁ b o (Rl.stays b o e))) (fun b _ o e=>Heap.get?_push_of_some _ (hk₁ b o e)) ?_,Nat.le_refl _,fun _ _=>rfl,fun _ _=>rfl,
   fun b o _ _ e=>Heap.get?_push_of_some _ (hk₁ b o e),fun i _ h h'=>absurd h' (Nat.not_lt.mpr h),?_,fun j y e=>?_,fun hbare=>AllBare.push hbare rfl,rfl⟩
  ·show s.heap.objs.size<=(h₁.push _).objs.size;rw [Heap.size_push,hsz];lia
  ·show s.heap.objs.size<=(h₁.push _).objs.size;rw [Heap.size_push,hsz];lia
  ·show (s.gens.push _)[j]?=some y
   rw [Array.getElem?_push]
   split
   ·rename_i q;rw [q] at e;simp at e
   ·exact e
 ·have Rl':Rel G.base ρ σ (h₁.push { cls:=.type "generator",data:=.fields #[.int s.gens.size 0,.str name (s.toks+((ps.map Str.ofString).zip vals).length),.str qual (s.toks+((ps.map Str.ofString).zip vals).length+1)] }):=
   Rl.move (fun b o e=>Heap.get?_push_of_some _ (hk₁ b o (Rl.stays b o e))) (fun b _ o e=>Heap.get?_push_of_some _ (hk₁ b o e)) (by rw [Heap.size_push,hsz];lia)
  refine ⟨Rl',⟨_,hns.push _,fun y u hy=>?_⟩,fun a ha ho=>?_,fun a ha=>by rw [fx a ha];exact Rl.size,fun a ha=>by rw [fx a ha];show _<(h₁.push _).objs.size;rw [Heap.size_push,hsz];lia,fun y c hc=>(nomatch hc),fun y z c hc=>(nomatch hc),fun y c hc=>(nomatch hc),fun y hy=>absurd rfl (hcell _ (bT hy))⟩
  ·obtain ⟨val,hv,vr⟩:=iG (iW ps Vs).reverse hy
   refine ⟨val,.inl ⟨?_,hv⟩,vr⟩
   have hm:=List.mem_reverse.mp (bT hv)
   obtain ⟨p,hp,e⟩:=bJ hm
   show scope.names.lookup _=_
   have e:Str.ofString y=Str.ofString p:=e
   rw [e];exact hloc p hp
  ·rw [fx a ha] at ho
   exact absurd (Rl.own_lt ho) (Nat.lt_irrefl _)
 ·rw [fx b hb'];exact ⟨Nat.le_refl _,by rw [hsz];exact Nat.ne_of_lt (Nat.lt_succ_self _)⟩
noncomputable def jE (x:String) (pre:SF) (args:LF) (b:SF) (e:EF) (l:Loc) (σ:Sto):Option (Option (Val×GSt)×Sto):=
 (pre l σ).bind fun r=>match r.1 with
  | .next=>(args r.2.1 r.2.2).bind fun a=>(rngV a.1).bind fun t=>if Builtin.Range.small t.1 t.2.1 t.2.2=true/\t.2.2=1 then dN x b e (Builtin.Range.rangeSize t.1 t.2.1 t.2.2).toNat t.1 r.2.1 a.2 else none
  | _=>none
structure GenCode (G:G0) (sc:Scope) (d:Nat) (fb:List Stmt) (x:String) (pre:SF) (args:LF) (b:SF) (e:EF):Prop where
 of:∃ (preS bA:List Stmt) (px np cp fp yp ep:Pos) (as:List Expr) (eY:Expr),fb=preS ++ [.For (.Name (Str.ofString x) px) (.Call (.Name "range" np) as [] cp) (bA ++ [.Expr (.Yield (some eY) yp) ep]) [] fp]/\
  SB G sc d preS pre/\SL G sc d as args/\SB G sc d bA b/\SE G sc d eY e/\(∀ env,starEach as env=as.map fun e=>(false,eval e env))
 kind:sc.kind=.function
 var:Sto1 sc x
 range:eG sc "range" .globalImplicit
 noR:nsIn G.K mainGlobals "range"=some none
 co:sc.isCoroutine=false
 inter:∀ xv:Vx,interactive (xv.env sc)=false
theorem seg_first {M:Model} {A:Around} {R:GenEnd} {Y:Protocol} {n:Nat} {prog:Program} {w:World} {s₀ s:Shared} {env:Env} {fb preS body:List Stmt} {x:String} {px fp:Pos} {iter:Expr} (hM:M=model prog w) (hfb:fb=preS ++ [.For (.Name (Str.ofString x) px) iter body [] fp]) (hs:∀ v,foldedSetIterable iter env v=pure v)
  (h:wpAny M (A.over (.func fb env) []) (execs preS env) (fun f s=>f=.next/\wpAny M (A.over (.func fb env) []) (eval iter env) (fun v s=>wpAny M (A.over (.func fb env) []) (pyIter v)
   (fun it s=>∀ p,Seg M A R Y n s₀ (.forLoop (.Name (Str.ofString x) px) it body [] env) (M.den (.forLoop (.Name (Str.ofString x) px) it body [] env)) [rD x px 0 env fb (.func fb env) p] s) (fun _ _=>False) s) (fun _ _=>False) s) (fun _ _=>False) s) :
  Seg M A R Y n s₀ (.func fb env) (M.den (.func fb env)) [] s:=by
 subst hM hfb
 refine seg_func (mF (wpAny_mono h (fun f s h=>?_) fun _ _ z=>z))
 obtain ⟨rfl,h⟩:=h
 exact rI (seg_For h hs)
theorem room_func {A:Around} {d:Nat} {fb:List Stmt} {env:Env} (rm:Room A (d+1)):Room (A.over (.func fb env) []) d:=
 ⟨by show A.depth+0+1+d<=600;have:=rm.1;lia,by show A.units+0+3+60*d<=9000;have:=rm.2.1;lia,rm.2.2⟩
theorem room_loop {A:Around} {d:Nat} {c:Code} {f:Frame} (rm:Room A (d+1)) (h1:(A.over c [f]).depth=A.depth+1+0) (h2:(A.over c [f]).units=A.units+3+0) (h3:(A.over c [f]).handled=A.handled):Room (A.over c [f]) d:=
 ⟨by rw [h1];have:=rm.1;lia,by rw [h2];have:=rm.2.1;lia,h3.trans rm.2.2⟩
theorem nZ {PP:Nat->GSt->Map->Sto->Shared->Prop} {QQ:Nat->Val->GSt->Map->Sto->Shared->Prop} {DD:Map->Sto->Shared->Prop} {N0:Nat} {a:Addr} {g:Nat} {xv:Vx} {x:String} {fb:List Stmt} {pre:SF} {args:LF}
  {b:SF} {e:EF} {A:Around} (P:Pulls G N0 x b e PP QQ DD) (C:GenCode G sc d fb x pre args b e) (hN':∀ a,aE (xv.env sc) a->N0<=a) (rm:Room A (d+1)) {l:Loc} {ρ:Map} {σ:Sto} {s:Shared} (n:Nat)
  (hNs:N0<=s.heap.objs.size) (H:Here G.base (xv.env sc) l ρ σ s) (hg:s.heap.IsGen a g) (hao:¬ Own ρ σ a) (haf:∀ b,aE (xv.env sc) b->b≠a) (hgin:∃ z,s.gens[g]?=some z)
  (hst:∃ r σ₁,jE x pre args b e l σ=some (r,σ₁)/\∀ ρ' s',After G.base (fun a=>N0<=a) ρ σ s ρ' σ₁ s'->Post PP QQ DD n r ρ' σ₁ s') :
  Seg (model G.prog G.w) A (genR DD) (genY G (xv.env sc) N0 a g PP QQ) (n+1) s (.func fb (xv.env sc)) ((model G.prog G.w).den (.func fb (xv.env sc))) [] s:=by
 refine byC fun hN=>?_
 obtain ⟨preS,bA,px,np,cp,fp,yp,ep,as,eY,hfb,hpre,hargs,hb,he,hs⟩:=C.of
 obtain ⟨r,σ₁,hst,hpost⟩:=hst
 refine obE hst fun q h1 hst=>?_
 obtain ⟨fl,l₁,σ₂⟩:=q
 cases fl with
 | brk=>cases hst
 | cont=>cases hst
 | ret v=>cases hst
 | next=>
 refine obE hst fun vs h2 hst=>obE hst fun t h3 hst=>itE hst fun hsm hst=>?_
 obtain ⟨a0,b0,c0⟩:=t
 obtain ⟨hsmall,hc1⟩:=hsm
 cases hc1
 obtain ⟨og,nm,qn,hog,rg⟩:=hg
 have rm0:=room_func (fb:=fb) (env:=xv.env sc) rm
 refine hN (seg_first rfl hfb (fun _=>rfl) (hpre xv _ _ _ _ _ _ _ _ _ _ rm0 H h1 fun ρ₁ s₁ flw B1 H1 F1=>⟨F1,?_⟩))
 refine eH C.kind C.range (by decide) C.noR (by decide) boot_range (.inl ⟨_,rfl⟩) H1 hs (hargs xv cp _ l₁ ρ₁ σ₂ s₁ _ _ _ _ rm0 H1 h2 fun ρ₂ s₂ vals B2 Vs=>?_)
 refine rK h3 Vs fun o tk hf hrange hc=>byC fun hN=>?_
 obtain ⟨t1,t2,t3,hrange⟩:=hrange
 refine hN (wpAny_pyIter_range hrange hsmall fun p=>?_)
 have B3:=B2.trans (iE (o:=o) (t:=tk) B2.rel).1
 obtain ⟨G4,hI,lt⟩:=iE (X:=noX) (o:={ cls:=.type "range_iterator",data:=.fields #[rawInt a0,rawInt (Builtin.Range.rangeSize a0 b0 1),rawInt 1] }) (t:=tk) B3.rel
 have B4:=B3.trans G4
 have Ball:=B1.trans (B4.weaken fun _ q=>q.elim)
 have H3:=H1.step B3
 have halt:=Heap.lt_size hog
 have hsize:=Nat.le_trans B1.size B3.size
 exact seg_loop (K:=⟨G,sc,A,d,N0,a,g,xv,x,px,bA,eY,yp,ep,_,fb,p,b,e,PP,QQ,DD⟩) ⟨P,C.kind,C.var,C.co,C.inter xv,hb,he,hN',room_loop rm rfl rfl rfl⟩ n _ a0 l₁ _ s
  ⟨ρ,σ,s,ρ₂,vs.2,r,σ₁,Ball.weaken fun _ q=>.inl q,⟨H3.step G4,hI,lt,Nat.le_trans hNs hsize,B3.rel.size,fun b hb'=>Nat.ne_of_lt (H3.lt b hb'),
   by rw [Int.toNat_of_nonneg (gF hc)];exact Heap.get?_push_size _ rfl,⟨og,nm,qn,Ball.kept a og (fun q=>haf a q rfl) hao hog,rg⟩,fun q=>hao (Ball.own_back q halt),haf,
   Nat.ne_of_lt (Nat.lt_of_lt_of_le halt hsize),hgin.imp fun z hz=>Ball.gens g z hz⟩,hst,hpost⟩
end
section
variable {prog:Program} {w:World} {A:Around} {E:Value->Shared->Prop} {s:Shared}
theorem lD {a:Addr} {g n:Nat} {gs:GenState} {R:GenEnd} {P:Nat->Shared->Shared->Prop} {Y:Protocol} {Q:Option Value->Shared->Prop} (hRP:∀ n s₀ r s₁,R n s₀ r s₁->r=.ok (.ret .none)/\P n s₀ s₁) (hh:A.handled=none)
  (hl:s.heap.NoLimit) (hroom:A.depth<recursionLimit)
  (hg:s.heap.IsGen a g) (hgs:s.gens[g]?=some gs)
  (hgo:gs.Goes (model prog w) A.in1 R Y n (.send .none) (s.setGen g .running))
  (hY:∀ v s₁ gs',gs'.bare=true->Y (n - 1) (s.setGen g .running) v s₁ (fun r' s''=>match n with
    | 0=>False
    | m+1=>gs'.Goes (model prog w) A.in1 R Y m r' s'')->Q (some v) (s₁.setGen g gs'))
  (hP:∀ s₁,P n (s.setGen g .running) s₁->∀ h',(∀ b o,s₁.heap.get? b=some o->h'.get? b=some o)->s₁.heap.objs.size<=h'.objs.size->Q none { s₁.setGen g .finished with heap:=h' }) :
  wpAny (model prog w) A (pyNext (.ref a)) Q E s:=by
 unfold pyNext
 refine wpAny_bind (wpAny_attempt (wpAny_callSpecial?_slot (name:=Str.ofString "__next__") hg.typeIs slot_gen_next
  (wpAny_call_entry slot_gen_next hg.typeIs entry_gen_next ?_ (args_gen_next _))))
 show wpAny _ A.in1 (Builtin.Generator.genWake (.ref a) (.send .none)) _ _ s
 unfold Builtin.Generator.genWake
 refine wpAny_bind (wpAny_holding (wpAny_genNumber hg (wpAny_bind (wpAny_genState hgs ?_))))
 cases gs with
 | running=>exact hgo.elim
 | finished=>exact hgo.elim
 | _=>
  refine wpAny_bind (wpAny_roomToWake hl hroom ?_)
  show wpAny _ A.in1 (.resume g (.send .none) [] _) _ _ s
  refine wpAny_resumeQ hgs hgo (fun x s₁ hx=>?_) (fun v s₁ gs' hb hv=>?_)
  ·obtain ⟨rfl,hp⟩:=hRP _ _ _ _ hx
   show wpAny _ A.in1 (newExc (.type "StopIteration") [] >>= _) _ _ _
   refine wpAny_bind ?_
   simp only [newExc,newTuple]
   refine wpAny_bind (wpAny_newObj_type ?_ (by size_fits))
   refine wpAny_bind (m:=firstArgMember _ _) (wpAny_of_eq (a:=Value.none) (by first | rfl | (simp only [firstArgMember];rfl)) ?_)
   refine wpAny_newObj_type ?_ (by size_fits)
   delta raiseNew
   dsimp only
   refine wpAny_bind (wpAny_bind (wpAny_handled ?_))
   first | rw [show A.in1.handled=none from hh] | rw [hh]
   refine wpAny_throw ?_
   refine wpAny_bind (wpAny_isInstance (T:="StopIteration") (b:=true) ⟨_,Heap.get?_push_size _ rfl,rfl⟩ isSubtype_stop ?_)
   refine wpAny_pure (hP s₁ hp _ (fun b o hb=>Heap.get?_push_of_some _ (Heap.get?_push_of_some _ hb)) ?_)
   show s₁.heap.objs.size<=((s₁.heap.push _).push _).objs.size
   rw [Heap.size_push,Heap.size_push];lia
  ·exact wpAny_pure ⟨v,rfl,wpAny_pure (hY v s₁ gs' hb hv)⟩
end
theorem After.setGen {base:Heap} {X:Addr->Prop} {ρ ρ':Map} {σ σ':Sto} {s s':Shared} {g:Nat} {x:GenState} (B:After base X ρ σ s ρ' σ' s') (hg:s.gens.size<=g) (hx:x.bare=true):After base X ρ σ s ρ' σ' (s'.setGen g x):=
 ⟨B.rel,B.le,B.agree,B.shape,B.kept,B.new,B.size,fun j y e=>by
  have hj:j<s.gens.size:=by
   rcases Nat.lt_or_ge j s.gens.size with h | h
   ·exact h
   ·rw [Array.getElem?_eq_none h] at e;cases e
  show (s'.gens.setIfInBounds g x)[j]?=some y
  rw [Array.getElem?_setIfInBounds_ne (by lia)]
  exact B.gens j y e,fun h y hy=>by
   rcases Array.mem_or_eq_of_mem_setIfInBounds (show y∈s'.gens.setIfInBounds g x from hy) with h1 | rfl
   ·exact B.bare h _ h1
   ·exact hx,B.os⟩
theorem gP {s:Shared} {g:Nat} {x:GenState} (h:g<s.gens.size):(s.setGen g x).gens[g]?=some x:=by simp [Shared.setGen,h]
theorem GenF.setGen {G:G0} {env:Env} {N0:Nat} {a:Addr} {g g':Nat} {I:Addr} {st:GSt} {ρ:Map} {σ:Sto} {s:Shared} {x:GenState} (F:GenF G env N0 a g I st ρ σ s):GenF G env N0 a g I st ρ σ (s.setGen g' x):=
 ⟨⟨F.here.rel,F.here.locs,F.here.own,F.here.low,F.here.lt,F.here.sep,F.here.one,F.here.cel,F.here.has⟩,F.nown,F.ilt,F.ilow,F.ibase,F.nfr,F.iter,F.isgen,F.anown,F.afr,F.ne,by
  obtain ⟨z,hz⟩:=F.gin
  by_cases q:g'=g
  ·subst q
   have:g'<s.gens.size:=by
    rcases Nat.lt_or_ge g' s.gens.size with h | h
    ·exact h
    ·rw [Array.getElem?_eq_none h] at hz;cases hz
   exact ⟨x,gP this⟩
  ·exact ⟨z,by show (s.gens.setIfInBounds g' x)[g]?=_;rw [Array.getElem?_setIfInBounds_ne q];exact hz⟩⟩
section
variable {G:G0} {sc:Scope} {d:Nat}
noncomputable def nU (j:Nat) (y:Val) (σ:Sto):Option Sto:=(asL (σ.get j)).bind fun zs=>if zs.length<=100000 then some (σ.put j (.list (zs ++ [y]))) else none
noncomputable def oP (x:String) (b:SF) (e:EF) (j:Nat):Nat->GSt->Sto->Option Sto
 | 0,_,_=>none
 | n+1,st,σ=>(dN x b e st.1 st.2.1 st.2.2 σ).bind fun r=>match r.1 with
  | none=>some r.2
  | some y=>(nU j y.1 r.2).bind fun τ=>oP x b e j n y.2 τ
noncomputable def nI (x:String) (pre:SF) (args:LF) (b:SF) (e:EF) (j n:Nat) (l:Loc) (σ:Sto):Option Sto:=(jE x pre args b e l σ).bind fun r=>match r.1 with
  | none=>some r.2
  | some y=>(nU j y.1 r.2).bind fun τ=>oP x b e j n y.2 τ
theorem pO {j:Nat} {y:Val} {σ τ:Sto} (h:nU j y σ=some τ):∃ zs,σ.get j=.list zs/\zs.length<=100000/\τ=σ.put j (.list (zs ++ [y])):=by
 exact obE h fun zs h1 h=>itE h fun h2 h=>⟨zs,bN h1,h2,(Option.some.inj h).symm⟩
section
variable {ρS:Map} {σS:Sto} {S0:Shared} {N0 j:Nat} {S:Addr} {σF:Sto} {x:String} {b:SF} {e:EF}
noncomputable def aPP (G:G0) (ρS:Map) (σS:Sto) (S0:Shared) (j:Nat) (S:Addr) (σF:Sto) (x:String) (b:SF) (e:EF) (n:Nat) (st:GSt) (ρ:Map) (σ:Sto) (s:Shared):Prop:=
 After G.base (fun a=>S0.heap.objs.size<=a) ρS σS S0 ρ σ s/\(ρ j 0=S/\j<σ.n)/\oP x b e j n st σ=some σF
noncomputable def aQQ (G:G0) (ρS:Map) (σS:Sto) (S0:Shared) (j:Nat) (S:Addr) (σF:Sto) (x:String) (b:SF) (e:EF) (n:Nat) (y:Val) (st:GSt) (ρ:Map) (σ:Sto) (s:Shared):Prop:=
 After G.base (fun a=>S0.heap.objs.size<=a) ρS σS S0 ρ σ s/\(ρ j 0=S/\j<σ.n)/\∃ τ,nU j y σ=some τ/\oP x b e j n st τ=some σF
noncomputable def aDD (G:G0) (ρS:Map) (σS:Sto) (S0:Shared) (j:Nat) (S:Addr) (σF:Sto) (ρ:Map) (σ:Sto) (s:Shared):Prop:=
 After G.base (fun a=>S0.heap.objs.size<=a) ρS σS S0 ρ σ s/\(ρ j 0=S/\j<σ.n)/\σ=σF
theorem aPulls:Pulls G S0.heap.objs.size x b e (aPP G ρS σS S0 j S σF x b e) (aQQ G ρS σS S0 j S σF x b e) (aDD G ρS σS S0 j S σF) where
 zero st ρ σ s h:=by cases h.2.2
 step n st ρ σ s h:=by
  obtain ⟨B,hj,h⟩:=h
  obtain ⟨⟨r,σ₁⟩,h1,h2⟩:=obx h
  refine ⟨r,σ₁,h1,fun ρ' s' B'=>?_⟩
  have hj':ρ' j 0=S/\j<σ₁.n:=⟨by rw [B'.agree j hj.2];exact hj.1,Nat.lt_of_lt_of_le hj.2 B'.le⟩
  cases r with
  | none=>cases h2;exact ⟨B.trans B',hj',rfl⟩
  | some y=>obtain ⟨τ,h3,h4⟩:=obx h2;exact ⟨B.trans B',hj',τ,h3,h4⟩
theorem qN {env:Env} {a:Addr} {g:Nat} {A:Around} {res:Value} {R:Result->Shared->Prop} (hh:A.handled=none) (hroom:A.depth<recursionLimit) (hg0:S0.gens.size<=g) (hbase:G.base.objs.size<=S0.heap.objs.size)
  (hR:∀ ρ s',aDD G ρS σS S0 j S σF ρ σF s'->R (.ok (.ret res)) s') :
  ∀ (n:Nat) (gs:GenState) (ρ:Map) (σ:Sto) (s:Shared),Rel G.base ρ σ s.heap->s.heap.IsGen a g->s.gens[g]?=some gs->
   gs.Goes (model G.prog G.w) A.in1.in1 (genR (aDD G ρS σS S0 j S σF)) (genY G env S0.heap.objs.size a g (aPP G ρS σS S0 j S σF x b e) (aQQ G ρS σS S0 j S σF x b e)) (n+1) (.send .none) (s.setGen g .running)->
   codeAny (model G.prog G.w) A (.builtin "list.extend.loop" ⟨[.ref S,.ref a,res],[]⟩) R s:=by
 refine meas fun n ih=>?_
 all_goals
  intro gs ρ σ s Rl hisg hgs hgo
  have hgl:g<s.gens.size:=by
   rcases Nat.lt_or_ge g s.gens.size with h | h
   ·exact h
   ·rw [Array.getElem?_eq_none h] at hgs;cases hgs
  refine codeAny_builtin PySem.F.entry_extend_loop ?_
  rw [Around.under_plainId PySem.F.plain_extend_loop _]
  show wpAny _ A.in1 (pyNext (.ref a) >>= _) _ _ s
  refine wpAny_bind (lD (P:=fun _ _ s₁=>∃ ρ₁ σ₁,aDD G ρS σS S0 j S σF ρ₁ σ₁ s₁) (fun _ _ _ _ h=>h) hh (G.ok.nolimit.keeps Rl.stays) hroom hisg hgs hgo (fun v s₁ gs' hb hv=>?_) (fun s₁ hp h' hk hz=>?_))
  rotate_left
  ·obtain ⟨ρ₁,σ₁,B,hj,rfl⟩:=hp
   have B2:=(B.setGen (g:=g) (x:=.finished) hg0 rfl).trans (After.grow (h':=h') (t:=s₁.toks) B.rel hz hk)
   exact wpAny_pure (hR ρ₁ _ ⟨B2,hj,rfl⟩)
  ·obtain ⟨y,st,ρ₁,σ₁,I,Vy,⟨B,hj,τ,hτ,hall⟩,F,hkap⟩:=hv
   obtain ⟨zs,hz1,hz2,rfl⟩:=pO hτ
   obtain ⟨vs,c,hp,r⟩:=B.rel.plain hj.2 hz1
   rw [hj.1] at hp
   show wpAny _ A.in1 (updateSeq S (·.push v) >>= _) _ _ _
   refine wpAny_bind ?_
   have hs1:((s₁.setGen g gs').heap).get? S=some { cls:=.type "list",data:=.seq vs.toArray c }:=hp
   have q:=PySem.IsL.update hp (fun xs=>xs.push v)
   have q':vs.toArray.push v=(vs ++ [v]).toArray:=by simp
   rw [q'] at q
   have B2:∀ X,After G.base X ρ₁ σ₁ (s₁.setGen g gs') ρ₁ (σ₁.put j (.list (zs ++ [y]))) { s₁.setGen g gs' with heap:=s₁.heap.update S (Obj.mapSeq fun xs=>xs.push v),toks:=s₁.toks }:=fun X=>
    After.put (k:=0) B.rel hj.2 (by rw [hz1];simp [nc]) (by rw [hz1];rfl) (by rw [hj.1];exact Heap.SameBut.update ..) ⟨vs ++ [v],by rw [hj.1];exact ⟨_,q⟩,r.append (.cons Vy .nil)⟩
   have B3:=(B.setGen (g:=g) (x:=gs') hg0 hb).trans (B2 _)
   have hlen:vs.length=zs.length:=r.length.symm
   refine wpAny_updateSeq hs1 rfl (wpAny_pure ⟨plainId_quiet PySem.F.plain_extend_loop _,?_⟩) (by rw [List.size_toArray,sizeLine_eq];lia) (by show (vs.toArray.push v).size<=sizeLine+1;rw [Array.size_push,List.size_toArray,sizeLine_eq];lia)
   obtain ⟨n,rfl⟩:∃ m,n=m+1:=by
    cases n with
    | zero=>cases hall
    | succ m=>exact ⟨m,rfl⟩
   replace ih:=ih n rfl
   all_goals
    have F2:=(F.setGen (g':=g) (x:=gs')).after (B2 noX) (fun _ _ q=>q) (fun q=>q) (fun q=>q)
    have hgl:g<s₁.gens.size:=by
     obtain ⟨z,hz⟩:=F.gin
     rcases Nat.lt_or_ge g s₁.gens.size with h | h
     ·exact h
     ·rw [Array.getElem?_eq_none h] at hz;cases hz
    refine ih gs' ρ₁ (σ₁.put j (.list (zs ++ [y]))) _ (B2 noX).rel F2.isgen (gP hgl) ?_
    exact hkap ρ₁ _ _ ⟨B3.setGen hg0 rfl,⟨hj.1,hj.2⟩,hall⟩ F2.setGen
end
end
section
variable {G:G0} {sc gsc:Scope} {d:Nat}
noncomputable def nB (C:Addr) (m:String) (n:Nat) (ps:List String) (x:String) (pre:SF) (args:LF) (b:SF) (e f:EF):EF:=fun l σ=>(f l σ).bind fun o=>(asR o.1).bind fun i=>(asO C (o.2.get i)).bind fun fs=>(noV (getF fs m)).bind fun _=>(nI x pre args b e o.2.n n (aJ ps [.ref i]) (o.2.push (.list []))).map fun τ=>(.ref o.2.n,τ)
theorem oM {C:Addr} {m:String} {n:Nat} {ps:List String} {x:String} {pre:SF} {args:LF} {b:SF} {e f:EF} {l:Loc} {σ σ':Sto} {v:Val} (h:nB C m n ps x pre args b e f l σ=some (v,σ')) :
  ∃ i fs σ₁,f l σ=some (.ref i,σ₁)/\σ₁.get i=.inst C fs/\getF fs m=none/\nI x pre args b e σ₁.n n (aJ ps [.ref i]) (σ₁.push (.list []))=some σ'/\v=.ref σ₁.n:=by
 refine obE h fun o h1 e=>obE e fun i h2 e=>obE e fun fs h3 e=>obE e fun _ h4 e=>omE e fun τ h5 e=>prE e ?_
 exact ⟨i,fs,o.2,prR h1 h2,dF h3,kP h4,h5,rfl⟩
theorem kD {C fa:Addr} {m:String} {p0:String} {fb:List Stmt} {e:Expr} {ap p:Pos} {f:EF} (hC:Cls G.K C) (hf:findIn G.K (.ref C) (Str.ofString m)=some (some (.ref fa))) (hfn:isFn G.K (.ref fa)=true) (hk:keepIn G.K (.ref fa)=true)
  (GF:GenFn G fa [p0] gsc fb) (he:SE G sc d e f) (hm:uG e (Str.ofString m) [] ap p) {y:Vx} {A:Around} {lm:Loc} {ρ:Map} {σ:Sto} {s:Shared} {i:Nat} {fs:List (String×Val)} {σ₁:Sto} {Q:Value->Shared->Prop} {E:Value->Shared->Prop}
  (rm:Room A d) (rm1:Room A 1) (H:Here G.base (y.env sc) lm ρ σ s) (h1:f lm σ=some (.ref i,σ₁)) (h2:σ₁.get i=.inst C fs) (h3:getF fs m=none)
  (hQ:∀ (ρ₁:Map) (s₁:Shared) (a:Addr) (xv:Vx) (s':Shared),After G.base noX ρ σ s ρ₁ σ₁ s₁->s'.gens=s₁.gens.push (.fresh (.func fb (xv.env gsc)))->After G.base noX ρ₁ σ₁ s₁ ρ₁ σ₁ s'->
   Here G.base (xv.env gsc) (aJ [p0] [.ref i]) ρ₁ σ₁ s'->(∀ b,aE (xv.env gsc) b->s₁.heap.objs.size<=b/\b≠a)->s₁.heap.objs.size<=a->s'.heap.IsGen a s₁.gens.size->Q (.ref a) s') :
  wpAny (model G.prog G.w) A (eval (.Call (.Attribute e (Str.ofString m) ap) [] [] p) (y.env sc)) Q E s:=by
 obtain ⟨pl,hm⟩:=hm (y.env sc)
 refine MethodCall_ (pl:=pl) (he y A lm ρ σ s _ _ _ _ rm H h1 fun ρ₁ s₁ va A1 Va=>?_) hm
 obtain ⟨hi,rfl⟩:=Va
 obtain ⟨es,ep,I,r⟩:=A1.rel.inst hi h2
 have gl:=r.get (x:=m)
 rw [h3] at gl
 refine method_fn (G.ok.X.keeps A1.rel.stays) I hC.ga hC.gn hf (beq_iff_eq.mp hfn) (by show (lookIn _ (dictOf es ep)).map _=_;rw [lookIn_dict,gl];rfl) ?_
 refine cF hk (fun _=>rfl) (Calls.spliced_nil ⟨G.ok.X.keeps A1.rel.stays,?_⟩)
 refine wpAny_call (GF A ρ₁ σ₁ s₁ [.ref i] _ _ rm1 A1.rel (.cons ⟨hi,rfl⟩ .nil) rfl fun a xv s' q1 q2 q3 q4 q5 q6=>?_)
 exact hQ ρ₁ s₁ a xv s' A1 q1 q2 q3 q4 q5 q6
theorem SE.listGen {C fa:Addr} {m:String} {p0:String} {fb:List Stmt} {x:String} {pre:SF} {args:LF} {b:SF} {e':EF} {e:Expr} {np ap p p':Pos} {f:EF} (n:Nat) (hk:sc.kind=.function) (hx:eG sc "list" .globalImplicit) (hno:nsIn G.K mainGlobals "list"=some Option.none)
  (hC:Cls G.K C) (hf:findIn G.K (.ref C) (Str.ofString m)=some (some (.ref fa))) (hfn:isFn G.K (.ref fa)=true) (hkp:keepIn G.K (.ref fa)=true)
  (GF:GenFn G fa [p0] gsc fb) (GC:GenCode G gsc d fb x pre args b e') (he:SE G sc (d+5) e f) (hm:uG e (Str.ofString m) [] ap p)
  (hs:∀ env,starEach [.Call (.Attribute e (Str.ofString m) ap) [] [] p] env=[(false,eval (.Call (.Attribute e (Str.ofString m) ap) [] [] p) env)]) :
  SE G sc (d+5) (.Call (.Name "list" np) [.Call (.Attribute e (Str.ofString m) ap) [] [] p] [] p') (nB C m n [p0] x pre args b e' f):=by
 intro y A lm ρ σ s v σ' Q E rm H eq hQ
 obtain ⟨i,fs,σ₁,h1,h2,h3,h4,rfl⟩:=oM eq
 refine eH hk hx (by decide) hno (by decide) PyProof.Rows.boot_list (.inl ⟨_,rfl⟩) H hs ?_
 rw [hs]
 refine Calls.spliced_cons (kD hC hf hfn hkp GF he hm rm (rm.mono (by lia)) H h1 h2 h3 fun ρ₁ s₁ a xv s' A1 q1 q2 q3 q4 q5 q6=>Calls.spliced_nil ?_)
 obtain ⟨ρ₂,B2,V2⟩:=fB (X:=noX) (t:=s'.toks) (n:=0) (xs:=[]) (vs:=[]) q2.rel .nil
 refine callType_codes (Q₁:=fun obj s₁=>obj=.ref s'.heap.objs.size/\s₁={ s' with heap:=s'.heap.push { cls:=.type "list",data:=.seq #[] } }) PySem.F.called_list (PySem.F.typeCall_list_1 _) PySem.F.entry_list_init
  (code_list_new _ ⟨rfl,rfl⟩) fun obj s₂ h₁=>?_
 obtain ⟨rfl,rfl⟩:=h₁
 have hS:(s'.heap.push { cls:=.type "list",data:=.seq #[] }).get? s'.heap.objs.size=some { cls:=.type "list",data:=.seq #[] }:=Heap.get?_push_size _ rfl
 refine ⟨⟨_,hS,rfl⟩,PySem.F.args_list_init_2 _ _,?_⟩
 show wpAny _ A.in1.in1 (do let old <- Builtin.List.listItems (.ref s'.heap.objs.size);Builtin.List.listUpdate (.ref s'.heap.objs.size) (fun _=>#[]);letGo old.toList.reverse;Builtin.List.listExtendWith (.ref s'.heap.objs.size) (.ref a) .none) _ _ _
 refine wpAny_bind ?_
 unfold Builtin.List.listItems
 refine wpAny_bind (wpAny_seqItems hS rfl (wpAny_pure ?_))
 show wpAny _ A.in1.in1 (updateSeq s'.heap.objs.size (fun _=>#[]) >>= fun _=>letGo (#[]:Array Value).toList.reverse >>= fun _=>Builtin.List.listExtendWith (.ref s'.heap.objs.size) (.ref a) .none) _ _ _
 refine wpAny_bind (wpAny_updateSeq hS rfl ?_)
 have hS₂:=Heap.get?_update_self (Obj.mapSeq (fun _=>(#[]:Array Value))) hS rfl
 refine wpAny_bind (wpAny_letGo ?_)
 have hne:a≠s'.heap.objs.size:=fun q=>by
  obtain ⟨o,nm,qn,ho,_⟩:=q6
  have:=Heap.lt_size ho
  rw [q] at this
  exact Nat.lt_irrefl _ this
 have hg2:∀ {h':Heap},(∀ b o,b≠s'.heap.objs.size->(s'.heap.push { cls:=.type "list",data:=.seq #[] }).get? b=some o->h'.get? b=some o)->h'.IsGen a s₁.gens.size:=fun hk=>by
  obtain ⟨o,nm,qn,ho,r⟩:=q6
  exact ⟨o,nm,qn,hk a o hne (Heap.get?_push_of_some _ ho),r⟩
 have oth2:∀ b o,b≠s'.heap.objs.size->(s'.heap.push { cls:=.type "list",data:=.seq #[] }).get? b=some o->((s'.heap.push { cls:=.type "list",data:=.seq #[] }).update s'.heap.objs.size (Obj.mapSeq (fun _=>(#[]:Array Value)))).get? b=some o:=
  fun b o hb e=>(Heap.get?_update_other _ _ (Ne.symm hb)).trans e
 have hT:=(hg2 oth2)
 unfold Builtin.List.listExtendWith
 refine wpAny_bind (wpAny_typeOf (Heap.IsGen.typeIs (s:={ s' with heap:=_ }) hT) ?_)
 have e1:Builtin.List.listSameRef (.ref s'.heap.objs.size) (.ref a)=false:=by simp [Builtin.List.listSameRef,Ne.symm hne]
 have e2:(Value.type "generator" == Value.type "list")=false:=by decide
 have e3:(Value.type "generator" == Value.type "tuple")=false:=by decide
 simp only [e1,e2,e3,Bool.or_false,Bool.false_eq_true,if_false]
 refine wpAny_bind (wpAny_pyIter_gen hT ?_)
 refine wpAny_bind (wpAny_holding ?_)
 unfold Builtin.List.listLengthHint
 refine wpAny_bind (wpAny_specialOf (Heap.IsGen.typeIs (s:={ s' with heap:=_ }) hT) PySem.F.gen_no_len ?_)
 show wpAny _ _ (specialOf (Value.ref a) (Str.ofString "__length_hint__") >>= _) _ _ _
 refine wpAny_bind (wpAny_specialOf (Heap.IsGen.typeIs (s:={ s' with heap:=_ }) hT) PySem.F.gen_no_hint ?_)
 refine wpAny_pure ?_
 show wpAny _ _ (rule "list.extend.makes-room" >>= fun _=>Builtin.List.listTouch (.ref s'.heap.objs.size) >>= fun _=>
  again (.builtin "list.extend.loop" ⟨[.ref s'.heap.objs.size,.ref a,.none],[]⟩)) _ _ _
 refine wpAny_bind (wpAny_rule ?_)
 refine wpAny_bind ?_
 show wpAny _ _ (updateSeq s'.heap.objs.size (·.push .none) >>= fun _=>updateSeq s'.heap.objs.size (·.pop)) _ _ _
 refine wpAny_bind (wpAny_updateSeq hS₂ rfl ?_)
 have hS₃:=Heap.get?_update_self (Obj.mapSeq (·.push Value.none)) hS₂ rfl
 refine wpAny_updateSeq (hz:=by seq_fits) hS₃ rfl ?_
 have hS₄:=Heap.get?_update_self (Obj.mapSeq (·.pop)) hS₃ rfl
 have eS:ρ₂ σ₁.n 0=s'.heap.objs.size:=by have:=V2.2;injection this with this;exact this.symm
 have sb:Heap.SameBut (ρ₂ σ₁.n 0) (s'.heap.push { cls:=.type "list",data:=.seq #[] }) ((((s'.heap.push { cls:=.type "list",data:=.seq #[] }).update s'.heap.objs.size (Obj.mapSeq (fun _=>(#[]:Array Value)))).update s'.heap.objs.size (Obj.mapSeq (·.push Value.none))).update s'.heap.objs.size (Obj.mapSeq (·.pop))):=by
  rw [eS]
  exact ⟨by rw [Heap.size_update,Heap.size_update,Heap.size_update],fun b hb=>(Heap.get?_update_other _ _ (Ne.symm hb)).trans ((Heap.get?_update_other _ _ (Ne.symm hb)).trans (Heap.get?_update_other _ _ (Ne.symm hb)))⟩
 have eσ:(σ₁.push (.list [])).put σ₁.n (.list [])=σ₁.push (.list []):=by
  unfold Sto.put Sto.push
  congr 1
  funext j
  by_cases q:j=σ₁.n<;>simp [q]
 have B4:=After.put (X:=noX) (t:=s'.toks) (o':=.list []) (k:=0) B2.rel (Nat.lt_succ_self σ₁.n) (by show 0<nc (if σ₁.n=σ₁.n then Ob.list [] else _);rw [if_pos rfl];exact Nat.one_pos) (by show _=nc (if σ₁.n=σ₁.n then Ob.list [] else _);rw [if_pos rfl]) sb ⟨[],by rw [eS];exact ⟨_,hS₄⟩,.nil⟩
 rw [eσ] at B4
 have B5:=(q2.trans B2).trans B4
 have B6:=B5.weaken (Y:=fun a=>s₁.heap.objs.size<=a) fun _ q=>q.elim
 refine wpAny_pure ⟨plainId_quiet PySem.F.plain_extend_loop _,qN (A:=A.in1) (σF:=σ') (j:=σ₁.n) (x:=x) (b:=b) (e:=e') (ρS:=ρ₁) (σS:=σ₁) (S0:=s₁) (env:=xv.env gsc) (g:=s₁.gens.size) rm.2.2 ?_ (Nat.le_refl _) A1.rel.size (fun ρ' s'' hd=>?_) n (.fresh (.func fb (xv.env gsc))) ρ₂ (σ₁.push (.list [])) _ B4.rel ?_ ?_ ?_⟩
 ·exact rm.limit
 ·obtain ⟨D1,D2,-⟩:=hd
  exact ⟨rfl,hQ ρ' s'' _ (A1.trans (D1.drop fun a ha=>.inr ha)) ⟨D2.2,by rw [D2.1]⟩⟩
 ·exact hg2 fun b o hb e=>(sb.2 b (by rw [eS];exact hb)).trans e
 ·show (s'.gens)[_]?=_
  rw [q1];simp
 refine ⟨rfl,?_⟩
 have hbare:(GenState.running).bare=true:=rfl
 obtain ⟨⟨r,τ⟩,g1,g2⟩:=obx h4
 have hao:¬ Own ρ₂ (σ₁.push (.list [])) a:=fun q=>by
  have q':=(B2.trans B4).own_back q (by obtain ⟨o,nm,qn,ho,_⟩:=q6;exact Heap.lt_size ho)
  exact absurd (A1.rel.own_lt q') (Nat.not_lt.mpr q5)
 have H4:=(q3.step B2).step B4
 refine nZ (d:=d) (aPulls (S0:=s₁)) GC (fun b hb=>(q4 b hb).1) ?_ n (Nat.le_trans q2.size (B2.trans B4).size) ⟨H4.rel,H4.locs,H4.own,H4.low,H4.lt,H4.sep,H4.one,H4.cel,H4.has⟩ ?_ hao (fun b hb=>(q4 b hb).2) ?_ ⟨r,τ,g1,fun ρ' s'' B7=>?_⟩
 ·exact (rm.in1.in1.in1).mono (by lia)
 ·exact hg2 fun b o hb e=>(sb.2 b (by rw [eS];exact hb)).trans e
 ·exact ⟨.running,gP (by show s₁.gens.size<s'.gens.size;rw [q1];simp)⟩
 ·have B8:=(B6.setGen (g:=s₁.gens.size) (Nat.le_refl _) hbare).trans B7
  have hj':ρ' σ₁.n 0=s'.heap.objs.size/\σ₁.n<τ.n:=⟨by rw [B7.agree _ (Nat.lt_succ_self _)];exact eS,Nat.lt_of_lt_of_le (Nat.lt_succ_self _) B7.le⟩
  cases r with
  | none=>cases g2;exact ⟨B8,hj',rfl⟩
  | some y=>obtain ⟨τ',g3,g4⟩:=obx g2;exact ⟨B8,hj',τ',g3,g4⟩
end
section
variable {G:G0} {sc gsc:Scope} {d dg:Nat}
noncomputable def asNx (f:Fl):Option Unit:=match f with
 | .next=>some ()
 | .brk | .cont | .ret _=>none
theorem asNx_some {f:Fl} {u:Unit} (h:asNx f=some u):f=.next:=by cases f<;>cases h;rfl
noncomputable def forG1 (x2:String) (body:SF) (F:GSt->SF) (l:Loc) (r:Option (Val×GSt)×Sto):Option (Fl×Loc×Sto):=match r.1 with
 | none=>some (.next,l,r.2)
 | some y=>(body (l.put x2 y.1) r.2).bind fun q=>(asNx q.1).bind fun _=>F y.2 q.2.1 q.2.2
noncomputable def forG (x2:String) (body:SF) (x:String) (b:SF) (e:EF):Nat->GSt->SF
 | 0,_=>fun _ _=>none
 | n+1,st=>fun l σ=>(dN x b e st.1 st.2.1 st.2.2 σ).bind (forG1 x2 body (forG x2 body x b e n) l)
noncomputable def forG0 (x2:String) (body:SF) (x:String) (pre:SF) (args:LF) (b:SF) (e:EF) (n:Nat) (lg l:Loc) (σ:Sto):Option (Fl×Loc×Sto):=(jE x pre args b e lg σ).bind (forG1 x2 body (forG x2 body x b e n) l)
noncomputable def FRes (x2:String) (body:SF) (F:GSt->SF) (l l':Loc) (τ σ':Sto) (r:Option (Val×GSt)):Prop:=match r with
 | none=>(τ,l)=(σ',l')
 | some y=>∃ l1 τ1,body (l.put x2 y.1) τ=some (.next,l1,τ1)/\F y.2 l1 τ1=some (.next,l',σ')
theorem lM {x2:String} {body:SF} {F:GSt->SF} {l l':Loc} {r:Option (Val×GSt)×Sto} {fl:Fl} {σ':Sto} (hF:∀ {st l σ fl l' σ'},F st l σ=some (fl,l',σ')->fl=.next) (h:forG1 x2 body F l r=some (fl,l',σ')):fl=.next/\FRes x2 body F l l' r.2 σ' r.1:=by
 obtain ⟨r,τ⟩:=r
 cases r with
 | none=>cases h;exact ⟨rfl,rfl⟩
 | some y=>
  refine obE h fun q h3 h=>obE h fun _ h4 h=>?_
  have e:=hF h
  exact ⟨e,q.2.1,q.2.2,h3.trans (by rw [<- asNx_some h4]),e▸h⟩
theorem oS {x2:String} {body:SF} {x:String} {b:SF} {e:EF} (n:Nat):∀ {st:GSt} {l:Loc} {σ:Sto} {fl:Fl} {l':Loc} {σ':Sto},forG x2 body x b e n st l σ=some (fl,l',σ')->fl=.next:=by
 induction n with
 | zero=>intro st l σ fl l' σ' h;cases h
 | succ n ih=>exact fun h=>obE h fun r h1 h=>(lM ih h).1
section
variable {ρS:Map} {σS:Sto} {S0:Shared} {env:Env} {lF:Loc} {σF:Sto} {x2:String} {body:SF} {x:String} {b:SF} {e:EF}
noncomputable def fX (env:Env) (S0:Shared):Addr->Prop:=fun a=>aE env a\/S0.heap.objs.size<=a
noncomputable def fPP (G:G0) (env:Env) (ρS:Map) (σS:Sto) (S0:Shared) (lF:Loc) (σF:Sto) (x2:String) (body:SF) (x:String) (b:SF) (e:EF) (n:Nat) (st:GSt) (ρ:Map) (σ:Sto) (s:Shared):Prop:=
 After G.base (fX env S0) ρS σS S0 ρ σ s/\∃ l,Here G.base env l ρ σ s/\forG x2 body x b e n st l σ=some (.next,lF,σF)
noncomputable def fQQ (G:G0) (env:Env) (ρS:Map) (σS:Sto) (S0:Shared) (lF:Loc) (σF:Sto) (x2:String) (body:SF) (x:String) (b:SF) (e:EF) (n:Nat) (y:Val) (st:GSt) (ρ:Map) (σ:Sto) (s:Shared):Prop:=
 After G.base (fX env S0) ρS σS S0 ρ σ s/\∃ l l₁ σ₁,Here G.base env l ρ σ s/\body (l.put x2 y) σ=some (.next,l₁,σ₁)/\forG x2 body x b e n st l₁ σ₁=some (.next,lF,σF)
noncomputable def fDD (G:G0) (env:Env) (ρS:Map) (σS:Sto) (S0:Shared) (lF:Loc) (σF:Sto) (ρ:Map) (σ:Sto) (s:Shared):Prop:=
 After G.base (fX env S0) ρS σS S0 ρ σ s/\Here G.base env lF ρ σ s/\σ=σF
theorem fPulls (hlt:∀ b,aE env b->b<S0.heap.objs.size):Pulls G S0.heap.objs.size x b e (fPP G env ρS σS S0 lF σF x2 body x b e) (fQQ G env ρS σS S0 lF σF x2 body x b e) (fDD G env ρS σS S0 lF σF) where
 zero st ρ σ s h:=by obtain ⟨_,_,_,h⟩:=h;cases h
 step n st ρ σ s h:=by
  obtain ⟨B,l,H,h⟩:=h
  refine obE h fun r h1 h=>⟨r.1,r.2,h1,fun ρ' s' B'=>?_⟩
  have B2:=B.trans (B'.weaken (Y:=fX env S0) fun _ q=>.inr q)
  have H':=H.after B' fun b hb q=>absurd (hlt b hb) (Nat.not_lt.mpr q)
  have g:=(lM (oS n) h).2
  clear h h1
  obtain ⟨r,σ₁⟩:=r
  cases r with
  | none=>exact prE (P:=fun τ l=>After G.base (fX env S0) ρS σS S0 ρ' σ₁ s'/\Here G.base env l ρ' σ₁ s'/\σ₁=τ) g ⟨B2,H',rfl⟩
  | some y=>obtain ⟨l1,τ1,h3,h4⟩:=g;exact ⟨B2,l,l1,τ1,H',h3,h4⟩
end
noncomputable def forGenS (C:Addr) (m p0 x2:String) (body:SF) (x:String) (pre:SF) (args:LF) (b:SF) (e' f:EF) (n:Nat):SF:=fun l σ=>(f l σ).bind fun o=>(asR o.1).bind fun i=>(asO C (o.2.get i)).bind fun fs=>(noV (getF fs m)).bind fun _=>forG0 x2 body x pre args b e' n (aJ [p0] [.ref i]) l o.2
inductive FGI (G:G0) (A:Around) (a:Addr) (g:Nat) (DD:Map->Sto->Shared->Prop) (gy:Protocol) (k:Nat) (s:Shared):Prop
 | mk (gs:GenState) (ρ:Map) (σ:Sto) (R:Rel G.base ρ σ s.heap) (ig:s.heap.IsGen a g) (hg:s.gens[g]?=some gs) (go:gs.Goes (model G.prog G.w) A.in1 (genR DD) gy k (.send .none) (s.setGen g .running))
theorem Here.setGen {base:Heap} {env:Env} {l:Loc} {ρ:Map} {σ:Sto} {s:Shared} {g:Nat} {x:GenState} (H:Here base env l ρ σ s):Here base env l ρ σ (s.setGen g x):=⟨H.rel,H.locs,H.own,H.low,H.lt,H.sep,H.one,H.cel,H.has⟩
theorem SS.forGen {C fa:Addr} {m:String} {p0:String} {fb:List Stmt} {x x2:String} {pre:SF} {args:LF} {b:SF} {e':EF} {e:Expr} {bd:List Stmt} {px ap p fp:Pos} {f:EF} {body:SF} (n:Nat) (hdg:dg+2<=d) (hk:sc.kind=.function) (hx2:Sto1 sc x2)
  (hC:Cls G.K C) (hf:findIn G.K (.ref C) (Str.ofString m)=some (some (.ref fa))) (hfn:isFn G.K (.ref fa)=true) (hkp:keepIn G.K (.ref fa)=true)
  (GF:GenFn G fa [p0] gsc fb) (GC:GenCode G gsc dg fb x pre args b e') (he:SE G sc d e f) (hb:SB G sc d bd body) (hm:uG e (Str.ofString m) [] ap p)
  (hs:∀ env v,foldedSetIterable (.Call (.Attribute e (Str.ofString m) ap) [] [] p) env v=pure v) :
  SS G sc d (.For (.Name (Str.ofString x2) px) (.Call (.Attribute e (Str.ofString m) ap) [] [] p) bd [] fp) (forGenS C m p0 x2 body x pre args b e' f n):=by
 intro y A lm ρ σ s fl lm' σ' Q E rm H eq hQ
 refine byC fun hN=>obE eq fun o h1 eq=>obE eq fun i h2 eq=>obE eq fun fs h3 eq=>obE eq fun _ h4 eq=>obE eq fun r g1 g2=>?_
 have gr:=lM (oS n) g2
 refine hN (wpAny_For (kD hC hf hfn hkp GF he hm rm (rm.mono (by lia)) H (prR h1 h2) (dF h3) (kP h4) fun ρ₁ s₁ a xv s' A1 q1 q2 q3 q4 q5 q6=>wpAny_pyIter_gen q6 (byC fun hN=>?_)) (hs _))
 have H1:=H.step A1
 have hlt:∀ b,aE (y.env sc) b->b<s₁.heap.objs.size:=H1.lt
 let PP:=fPP G (y.env sc) ρ₁ o.2 s₁ lm' σ' x2 body x b e'
 let QQ:=fQQ G (y.env sc) ρ₁ o.2 s₁ lm' σ' x2 body x b e'
 let DD:=fDD G (y.env sc) ρ₁ o.2 s₁ lm' σ'
 have Pl:Pulls G s₁.heap.objs.size x b e' PP QQ DD:=fPulls hlt
 have hin:∀ {u:Shared},(∃ z,u.gens[s₁.gens.size]?=some z)->s₁.gens.size<u.gens.size:=fun {u} ⟨z,hz⟩=>by
  rcases Nat.lt_or_ge s₁.gens.size u.gens.size with h | h
  ·exact h
  ·rw [Array.getElem?_eq_none h] at hz;cases hz
 have e0:s'.gens[s₁.gens.size]?=some (.fresh (.func fb (xv.env gsc))):=by rw [q1];exact Array.getElem?_push_size
 have ing:(s'.setGen s₁.gens.size .running).gens[s₁.gens.size]?=some .running:=gP (hin ⟨_,e0⟩)
 have up:∀ {b},aE (y.env sc) b->¬ s₁.heap.objs.size<=b:=fun hb=>Nat.not_le.mpr (hlt _ hb)
 refine hN (forC (FGI G A a s₁.gens.size DD (genY G (xv.env gsc) s₁.heap.objs.size a s₁.gens.size PP QQ)) (fun k s₂ hi=>byC fun hN=>?_) (n+1) ⟨.fresh (.func fb (xv.env gsc)),ρ₁,o.2,q2.rel,q6,e0,rfl,?_⟩)
 ·cases hi with | mk gs ρ₂ σ₂ R2 hisg hgs hgo=>
  refine hN (lD (P:=fun _ _ s₁=>∃ ρ₁ σ₁,DD ρ₁ σ₁ s₁) (fun _ _ _ _ h=>h) rm.2.2 (G.ok.nolimit.keeps R2.stays) rm.limit hisg hgs hgo (fun v s₃ gs' hbr hv=>byC fun hN=>?_) (fun s₃ hp h' hk hz=>?_))
  ·obtain ⟨yv,st,ρ₃,σ₃,I,Vy,hq,F,hkap⟩:=hv
   obtain ⟨B,l,l₁,σ₄,H3,hbody,hall⟩:=hq
   have B':=B.setGen (g:=s₁.gens.size) (x:=gs') (Nat.le_refl _) hbr
   refine hN (wpAny_assign_Name (eW (H3.setGen (g:=s₁.gens.size) (x:=gs')) Vy (hx2 y) hk fun s₅ B5 H5=>?_))
   refine hb y A _ _ _ _ _ _ _ _ _ rm H5 hbody fun ρ₆ s₆ flw B6 H6 F6=>?_
   cases F6
   have B7:=B5.trans B6
   have F7:=(F.setGen (g':=s₁.gens.size) (x:=gs')).after B7 (fun b hb q=>up q (q4 b hb).1) (fun q=>up q F.ilow) (fun q=>up q q5)
   cases k with
   | zero=>exact absurd hkap (by cases hall)
   | succ j=>
    cases j with
    | zero=>cases hall
    | succ j=>exact ⟨j+1,Nat.lt_succ_self _,gs',ρ₆,σ₄,B6.rel,F7.isgen,B7.gens _ _ (gP (hin F.gin)),
      hkap ρ₆ σ₄ _ ⟨(B'.trans (B7.weaken (Y:=fX (y.env sc) s₁) fun _ q=>.inl q)).setGen (Nat.le_refl _) rfl,l₁,H6.setGen,hall⟩ F7.setGen⟩
  ·obtain ⟨ρ₃,σ₃,B,H3,e3⟩:=hp
   have B2:After G.base noX ρ₃ σ₃ (s₃.setGen s₁.gens.size .finished) ρ₃ σ₃ { s₃.setGen s₁.gens.size .finished with heap:=h' }:=After.grow (s:=s₃.setGen s₁.gens.size .finished) (h':=h') (t:=s₃.toks) B.rel hz hk
   have B3:=(B.setGen (g:=s₁.gens.size) (x:=.finished) (Nat.le_refl _) rfl).trans (B2.weaken (Y:=fX (y.env sc) s₁) fun _ q=>q.elim)
   have H4:=(H3.setGen (g:=s₁.gens.size) (x:=.finished)).step B2
   refine wpAny_execs_nil ?_
   rw [e3] at B3 H4
   rw [gr.1] at hQ
   exact hQ ρ₃ _ _ ((A1.weaken fun _ q=>q.elim).trans (B3.drop fun a ha=>ha.elim .inl .inr)) H4 rfl
 ·have hao:¬ Own ρ₁ o.2 a:=fun q=>absurd (A1.rel.own_lt q) (Nat.not_lt.mpr q5)
  refine nZ (d:=dg) Pl GC (fun b hb=>(q4 b hb).1) ((rm.mono hdg).in1) n q2.size q3.setGen q6 hao (fun b hb=>(q4 b hb).2) ⟨_,ing⟩ ⟨r.1,r.2,g1,fun ρ' s'' B7=>?_⟩
  have B8:=(q2.setGen (g:=s₁.gens.size) (x:=.running) (Nat.le_refl _) rfl)
  have B9:=(B8.weaken (Y:=fX (y.env sc) s₁) fun _ q=>q.elim).trans (B7.weaken (Y:=fX (y.env sc) s₁) fun _ q=>.inr q)
  have H7:=(H1.step B8).after B7 fun b hb q=>up hb q
  have g2:=gr.2
  clear g1 gr
  obtain ⟨r,τ⟩:=r
  cases r with
  | none=>exact prE (P:=fun σ' lm'=>fDD G (y.env sc) ρ₁ o.2 s₁ lm' σ' ρ' τ s'') g2 ⟨B9,H7,rfl⟩
  | some yv=>obtain ⟨l1,τ1,h3,h4⟩:=g2;exact ⟨B9,lm,l1,τ1,H7,h3,h4⟩
end
section
variable {G:G0} {sc:Scope} {d:Nat}
noncomputable def nT (t:TF):SF:=fun l σ=>(t l σ).bind fun b=>if b.1 then some (.next,l,b.2) else none
set_option tactic.hygienic true in
theorem SS.assert_ {t:Expr} {p:Pos} {ft:TF} (h:ST G sc d t ft):SS G sc d (.Assert t Option.none p) (nT ft):=by
 intro y A lm ρ σ s fl lm' σ' Q E rm H eq hQ
 obtain ⟨⟨b,σ₁⟩,h1,eq1⟩:=obx eq
 dsimp only at eq1
 split at eq1<;>first | (cases eq1;done) | skip
 rename_i hb
 cases eq1
 subst hb
 refine wpAny_Assert_holds (h y A lm ρ σ s _ _ _ _ rm H h1 fun ρ₁ s₁ A1=>?_)
 first
 | exact hQ _ _ _ (A1.weaken fun _ q=>q.elim) (H.step A1) rfl
 | exact ⟨rfl,hQ _ _ _ (A1.weaken fun _ q=>q.elim) (H.step A1) rfl⟩
end
section
variable {G:G0} {sc:Scope} {d:Nat}
noncomputable def gU:List Val->Option (List Int)
 | []=>some []
 | v :: r=>(toI v).bind fun i=>(gU r).map fun l=>i :: l
theorem eV {ρ:Map} {n:Nat} {xs:List Val} {vs:List Value} (h:All2 (VR ρ n) xs vs):∀ {ns:List Int},gU xs=some ns->IntsAre vs ns:=by
 induction h with
 | nil=>intro ns e;cases e;exact .nil
 | @cons x _ _ _ hv r ih=>
  intro ns e
  refine obE e fun i h e=>omE e fun l h1 h2=>?_
  rw [eB h] at hv
  obtain ⟨t,rfl⟩:=hv
  exact h2▸.cons _ _ (ih h1)
noncomputable def inV (neg:Bool) (a b:Val) (σ:Sto):Option Bool:=(toI a).bind fun k=>(asR b).bind fun i=>(asL (σ.get i)).bind fun xs=>(gU xs).map fun ns=>ns.any (· == k) != neg
theorem inV_inv {neg:Bool} {a b:Val} {σ:Sto} {r:Bool} (e:inV neg a b σ=some r):∃ k i xs ns,a=.int k/\b=.ref i/\σ.get i=.list xs/\gU xs=some ns/\r=(ns.any (· == k) != neg):=by
 refine obE e fun k h1 e=>obE e fun i h2 e=>obE e fun xs h3 e=>omE e fun ns h4 e=>?_
 exact ⟨k,i,xs,ns,eB h1,kR h2,bN h3,h4,e.symm⟩
noncomputable def inT (neg:Bool) (f g:EF):TF:=fun l σ=>(f l σ).bind fun a=>(g l a.2).bind fun b=>(inV neg a.1 b.1 b.2).map fun v=>(v,b.2)
noncomputable def inF (neg:Bool) (f g:EF):EF:=fun l σ=>(f l σ).bind fun a=>(g l a.2).bind fun b=>(inV neg a.1 b.1 b.2).map fun v=>(.bool v,b.2)
theorem in_ok {neg:Bool} {a b:Val} {c:Bool} {ρ:Map} {σ:Sto} {s:Shared} {va vb:Value} {A:Around} {Q:Value->Shared->Prop} {E:Value->Shared->Prop} (R:Rel G.base ρ σ s.heap) (h:inV neg a b σ=some c) (Ha:VR ρ σ.n a va) (Hb:VR ρ σ.n b vb)
  (hQ:Q (.bool c) s):wpAny (model G.prog G.w) A (compareOp (if neg=true then .NotIn else .In) va vb) Q E s:=by
 obtain ⟨k,i,xs,ns,rfl,rfl,h1,h2,rfl⟩:=inV_inv h
 obtain ⟨t,rfl⟩:=Ha
 obtain ⟨hi,rfl⟩:=Hb
 obtain ⟨vs,hl,r⟩:=R.isList hi h1
 have hI:=eV r h2
 cases neg with
 | false=>exact in_list_ints hl hI (by simpa using hQ)
 | true=>exact notin_list_ints hl hI (by simpa using hQ)
theorem ST.inL {neg:Bool} {l r:Expr} {p:Pos} {f g:EF} {op:CmpOp} (hop:op=if neg=true then .NotIn else .In) (hl:SE G sc d l f) (hr:SE G sc d r g) (hm:behindInMarks op r=false):ST G sc d (.Compare l [op] [r] p) (inT neg f g):=by
 intro x A lm ρ σ s v σ' Q E rm H e hQ
 obtain ⟨⟨a,σ₁⟩,h1,e⟩:=obx e
 obtain ⟨⟨b,σ₂⟩,h2,e⟩:=obx e
 obtain ⟨v₀,h3,e⟩:=omx e
 cases e
 refine wpAny_isTrue_Compare1 (hl x A lm ρ σ s a σ₁ _ _ rm H h1 fun ρ₁ s₁ va A1 Va=>?_) hm
 refine hr x A lm ρ₁ σ₁ s₁ b _ _ _ rm (H.step A1) h2 fun ρ₂ s₂ vb A2 Vb=>?_
 rw [hop]
 exact in_ok A2.rel h3 (Va.after A2) Vb (wpAny_truthy_bool (hQ _ _ (A1.trans A2)))
theorem SE.inL {neg:Bool} {l r:Expr} {p:Pos} {f g:EF} {op:CmpOp} (hop:op=if neg=true then .NotIn else .In) (hl:SE G sc d l f) (hr:SE G sc d r g) (hm:behindInMarks op r=false):SE G sc d (.Compare l [op] [r] p) (inF neg f g):=by
 intro x A lm ρ σ s v σ' Q E rm H e hQ
 obtain ⟨⟨a,σ₁⟩,h1,e⟩:=obx e
 obtain ⟨⟨b,σ₂⟩,h2,e⟩:=obx e
 obtain ⟨v₀,h3,e⟩:=omx e
 cases e
 refine wpAny_Compare1 (hl x A lm ρ σ s a σ₁ _ _ rm H h1 fun ρ₁ s₁ va A1 Va=>?_) hm
 refine hr x A lm ρ₁ σ₁ s₁ b _ _ _ rm (H.step A1) h2 fun ρ₂ s₂ vb A2 Vb=>?_
 rw [hop]
 exact in_ok A2.rel h3 (Va.after A2) Vb (hQ _ _ _ (A1.trans A2) rfl)
end
section
variable {G:G0} {sc:Scope} {d:Nat}
noncomputable def eqLV (neg:Bool) (a b:Val) (σ:Sto):Option Bool:=(asR a).bind fun i=>(asR b).bind fun j=>(asL (σ.get i)).bind fun xs=>(asL (σ.get j)).bind fun ys=>(gU xs).bind fun ns=>(gU ys).map fun ms=>decide (ns=ms) != neg
theorem eqLV_inv {neg:Bool} {a b:Val} {σ:Sto} {r:Bool} (e:eqLV neg a b σ=some r):∃ i j xs ys ns ms,a=.ref i/\b=.ref j/\σ.get i=.list xs/\σ.get j=.list ys/\gU xs=some ns/\gU ys=some ms/\r=(decide (ns=ms) != neg):=by
 refine obE e fun i h1 e=>obE e fun j h2 e=>obE e fun xs h3 e=>obE e fun ys h4 e=>obE e fun ns h5 e=>omE e fun ms h6 e=>?_
 exact ⟨i,j,xs,ys,ns,ms,kR h1,kR h2,bN h3,bN h4,h5,h6,e.symm⟩
theorem eqL_ok {neg:Bool} {a b:Val} {c:Bool} {ρ:Map} {σ:Sto} {s:Shared} {va vb:Value} {A:Around} {Q:Value->Shared->Prop} {E:Value->Shared->Prop} (hu:A.units<=9000) (R:Rel G.base ρ σ s.heap) (h:eqLV neg a b σ=some c) (Ha:VR ρ σ.n a va) (Hb:VR ρ σ.n b vb)
  (hQ:Q (.bool c) s):wpAny (model G.prog G.w) A (compareOp (if neg=true then .NotEq else .Eq) va vb) Q E s:=by
 obtain ⟨i,j,xs,ys,ns,ms,rfl,rfl,h1,h2,h3,h4,rfl⟩:=eqLV_inv h
 obtain ⟨hi,rfl⟩:=Ha
 obtain ⟨hj,rfl⟩:=Hb
 obtain ⟨vs,hl,r⟩:=R.isList hi h1
 obtain ⟨us,hl',r'⟩:=R.isList hj h2
 have hc:A.units+64<cLine:=by unfold cLine;lia
 cases neg with
 | false=>exact eq_intsK hl (eV r h3) hl' (eV r' h4) hc (by simpa using hQ)
 | true=>exact ne_intsK hl (eV r h3) hl' (eV r' h4) hc (by simpa using hQ)
noncomputable def eqLT (neg:Bool) (f g:EF):TF:=fun l σ=>(f l σ).bind fun a=>(g l a.2).bind fun b=>(eqLV neg a.1 b.1 b.2).map fun v=>(v,b.2)
noncomputable def eqLF (neg:Bool) (f g:EF):EF:=fun l σ=>(f l σ).bind fun a=>(g l a.2).bind fun b=>(eqLV neg a.1 b.1 b.2).map fun v=>(.bool v,b.2)
theorem ST.eqL {neg:Bool} {l r:Expr} {p:Pos} {f g:EF} {op:CmpOp} (hop:op=if neg=true then .NotEq else .Eq) (hl:SE G sc d l f) (hr:SE G sc d r g) (hm:behindInMarks op r=false):ST G sc d (.Compare l [op] [r] p) (eqLT neg f g):=by
 intro x A lm ρ σ s v σ' Q E rm H e hQ
 obtain ⟨⟨a,σ₁⟩,h1,e⟩:=obx e
 obtain ⟨⟨b,σ₂⟩,h2,e⟩:=obx e
 obtain ⟨v₀,h3,e⟩:=omx e
 cases e
 refine wpAny_isTrue_Compare1 (hl x A lm ρ σ s a σ₁ _ _ rm H h1 fun ρ₁ s₁ va A1 Va=>?_) hm
 refine hr x A lm ρ₁ σ₁ s₁ b _ _ _ rm (H.step A1) h2 fun ρ₂ s₂ vb A2 Vb=>?_
 rw [hop]
 exact eqL_ok (by have:=rm.2.1;lia) A2.rel h3 (Va.after A2) Vb (wpAny_truthy_bool (hQ _ _ (A1.trans A2)))
theorem SE.eqL {neg:Bool} {l r:Expr} {p:Pos} {f g:EF} {op:CmpOp} (hop:op=if neg=true then .NotEq else .Eq) (hl:SE G sc d l f) (hr:SE G sc d r g) (hm:behindInMarks op r=false):SE G sc d (.Compare l [op] [r] p) (eqLF neg f g):=by
 intro x A lm ρ σ s v σ' Q E rm H e hQ
 obtain ⟨⟨a,σ₁⟩,h1,e⟩:=obx e
 obtain ⟨⟨b,σ₂⟩,h2,e⟩:=obx e
 obtain ⟨v₀,h3,e⟩:=omx e
 cases e
 refine wpAny_Compare1 (hl x A lm ρ σ s a σ₁ _ _ rm H h1 fun ρ₁ s₁ va A1 Va=>?_) hm
 refine hr x A lm ρ₁ σ₁ s₁ b _ _ _ rm (H.step A1) h2 fun ρ₂ s₂ vb A2 Vb=>?_
 rw [hop]
 exact eqL_ok (by have:=rm.2.1;lia) A2.rel h3 (Va.after A2) Vb (hQ _ _ _ (A1.trans A2) rfl)
end
noncomputable def qY:SF:=
 (seqB (ifS (notT (valT (rX (varF "size")))) (fun _ _=>none) nilB)
 (seqB (ifS (cmpT .LtE (varF "size") (kF (.int 0))) (fun _ _=>none) nilB)
 (seqB (aZ 183 "_size_bytes" (unF .USub (binF .FloorDiv (unF .USub (varF "size")) (kF (.int 8)))) (varF "self"))
 (seqB (aZ 183 "_bitarray" (repF (gT (aA (kF (.int 0)) nilL)) (aC 183 "_size_bytes" (varF "self"))) (varF "self"))
 (aZ 183 "_size" (varF "size") (varF "self"))))))
noncomputable def jQ:FF:=bQ ["self","size"] qY
noncomputable def pL:SF:=
 (seqB (ifS (orT [(cmpT .Lt (varF "idx") (kF (.int 0))),(cmpT .GtE (varF "idx") (aC 183 "_size" (varF "self")))]) (fun _ _=>none) nilB)
 (retS (iteF (cmpT .Eq (binF .BitAnd (idxF (aC 183 "_bitarray" (varF "self")) (binF .FloorDiv (varF "idx") (kF (.int 8)))) (binF .LShift (kF (.int 1)) (binF .Mod (varF "idx") (kF (.int 8))))) (kF (.int 0))) (kF (.int 0)) (kF (.int 1)))))
noncomputable def aK:FF:=bQ ["self","idx"] pL
noncomputable def uC:SF:=
 (retS (aF 183 "check_bit" aK (varF "self") (aA (varF "key") nilL)))
noncomputable def aD:FF:=bQ ["self","key"] uC
noncomputable def uB:SF:=
 (seqB (ifS (orT [(cmpT .Lt (varF "val") (kF (.int 0))),(cmpT .Gt (varF "val") (kF (.int 1)))]) (fun _ _=>none) nilB)
 (seqB (ifS (orT [(cmpT .Lt (varF "idx") (kF (.int 0))),(cmpT .GtE (varF "idx") (aC 183 "_size" (varF "self")))]) (fun _ _=>none) nilB)
 (seqB (setF "b" (binF .FloorDiv (varF "idx") (kF (.int 8))))
 (ifS (cmpT .Eq (varF "val") (kF (.int 1))) (bF (binF .BitOr (idxF (aC 183 "_bitarray" (varF "self")) (varF "b")) (binF .LShift (kF (.int 1)) (binF .Mod (varF "idx") (kF (.int 8))))) (aC 183 "_bitarray" (varF "self")) (varF "b")) (bF (binF .BitAnd (idxF (aC 183 "_bitarray" (varF "self")) (varF "b")) (unF .Invert (binF .LShift (kF (.int 1)) (binF .Mod (varF "idx") (kF (.int 8)))))) (aC 183 "_bitarray" (varF "self")) (varF "b"))))))
noncomputable def aH:FF:=bQ ["self","idx","val"] uB
noncomputable def pK:SF:=
 (seqB (ifS (orT [(cmpT .Lt (varF "idx") (kF (.int 0))),(cmpT .GtE (varF "idx") (aC 183 "_size" (varF "self")))]) (fun _ _=>none) nilB)
 (seqB (setF "b" (binF .FloorDiv (varF "idx") (kF (.int 8))))
 (bF (binF .BitAnd (idxF (aC 183 "_bitarray" (varF "self")) (varF "b")) (unF .Invert (binF .LShift (kF (.int 1)) (binF .Mod (varF "idx") (kF (.int 8)))))) (aC 183 "_bitarray" (varF "self")) (varF "b"))))
noncomputable def bL:FF:=bQ ["self","idx"] pK
noncomputable def qX:SF:=
 (retS (binF .Add (binF .Add (binF .Mult (binF .Mod (varF "at") (kF (.int 8))) (kF (.int 536870912))) (binF .Mult (binF .FloorDiv (varF "at") (kF (.int 8))) (kF (.int 134217728)))) (binF .Mod (varF "at") (kF (.int 3)))))
noncomputable def aY:FF:=bQ ["at"] qX
noncomputable def qW:SF:=
 (retS (fnF aY (aA (binF .Mod (binF .Sub (ordF (chrF (varF "key") (kF (.int 0)))) (kF (.int 97))) (kF (.int 24))) nilL)))
noncomputable def fJ:FF:=bQ ["key","seed"] qW
noncomputable def pJ:SF:=
 (retS (fnF aY (aA (binF .Mod (binF .Sub (ordF (chrF (varF "key") (kF (.int 0)))) (kF (.int 96))) (kF (.int 24))) nilL)))
noncomputable def gS:FF:=bQ ["key","seed"] pJ
noncomputable def hashTab:List (Addr×FF):=[(485,fJ),(492,gS)]
noncomputable def iR:SF:=
 (retS (cmpF .Eq (binF .Add (binF .Add (subF 183 aD (aC 467 "_is_occupied" (varF "self")) (varF "elt")) (subF 183 aD (aC 467 "_is_continuation" (varF "self")) (varF "elt"))) (subF 183 aD (aC 467 "_is_shifted" (varF "self")) (varF "elt"))) (kF (.int 0))))
noncomputable def aI:FF:=bQ ["self","elt"] iR
noncomputable def lV:SF:=
 (retS (jW .And [(cmpF .NotEq (subF 183 aD (aC 467 "_is_continuation" (varF "self")) (varF "elt")) (kF (.int 1))),(jW .Or [(cmpF .Eq (subF 183 aD (aC 467 "_is_occupied" (varF "self")) (varF "elt")) (kF (.int 1))),(cmpF .Eq (subF 183 aD (aC 467 "_is_shifted" (varF "self")) (varF "elt")) (kF (.int 1)))])]))
noncomputable def bK:FF:=bQ ["self","elt"] lV
noncomputable def iS:SF:=
 (retS (jW .And [(cmpF .Eq (subF 183 aD (aC 467 "_is_occupied" (varF "self")) (varF "elt")) (kF (.int 1))),(cmpF .Eq (subF 183 aD (aC 467 "_is_continuation" (varF "self")) (varF "elt")) (kF (.int 0))),(cmpF .Eq (subF 183 aD (aC 467 "_is_shifted" (varF "self")) (varF "elt")) (kF (.int 0)))]))
noncomputable def aL:FF:=bQ ["self","elt"] iS
noncomputable def fM:SF:=
 (seqB (ifS (valT (aF 467 "_is_cluster_start" aL (varF "self") (aA (varF "elt") nilL))) (retS (kF (.bool true))) nilB)
 (retS (boolC (aF 467 "_is_run_start" bK (varF "self") (aA (varF "elt") nilL)))))
noncomputable def aR:FF:=bQ ["self","elt"] fM
noncomputable def jJ:SF:=
 (seqB (ifS (valT (aF 467 "_is_empty_element" aI (varF "self") (aA (varF "quotient") nilL))) (retS (varF "quotient")) nilB)
 (seqB (setF "j" (varF "quotient"))
 (seqB (setF "cnts" (kF (.int 0)))
 (seqB (bG (valT (kF (.bool true))) (seqB (ifS (orT [(cmpT .Eq (varF "j") (varF "quotient")),(cmpT .Eq (subF 183 aD (aC 467 "_is_occupied" (varF "self")) (varF "j")) (kF (.int 1)))]) (augN .Add "cnts" (kF (.int 1))) nilB)
 (ifS (cmpT .Eq (subF 183 aD (aC 467 "_is_shifted" (varF "self")) (varF "j")) (kF (.int 1))) (setF "j" (binF .BitAnd (binF .Sub (varF "j") (kF (.int 1))) (aC 467 "_QuotientFilter__mod_size" (varF "self")))) brkS)) 100)
 (seqB (bG (valT (kF (.bool true))) (seqB (ifS (cmpT .Eq (subF 183 aD (aC 467 "_is_continuation" (varF "self")) (varF "j")) (kF (.int 0))) (seqB (ifS (cmpT .Eq (varF "cnts") (kF (.int 1))) brkS nilB)
 (augN .Sub "cnts" (kF (.int 1)))) nilB)
 (setF "j" (binF .BitAnd (binF .Add (varF "j") (kF (.int 1))) (aC 467 "_QuotientFilter__mod_size" (varF "self"))))) 100)
 (retS (varF "j")))))))
noncomputable def bY:FF:=bQ ["self","quotient"] jJ
noncomputable def iU:SF:=
 (seqB (ifS (cmpT .Eq (subF 183 aD (aC 467 "_is_occupied" (varF "self")) (varF "q")) (kF (.int 0))) (retS (unF .USub (kF (.int 1)))) nilB)
 (seqB (setF "start_idx" (aF 467 "_get_start_index" bY (varF "self") (aA (varF "q") nilL)))
 (seqB (setF "starts" (kF (.int 0)))
 (seqB (bG (cmpT .Is (aF 467 "_is_empty_element" aI (varF "self") (aA (varF "start_idx") nilL)) (kF (.bool false))) (seqB (ifS (cmpT .Eq (subF 183 aD (aC 467 "_is_continuation" (varF "self")) (varF "start_idx")) (kF (.int 0))) (augN .Add "starts" (kF (.int 1))) nilB)
 (seqB (ifS (orT [(cmpT .Eq (varF "starts") (kF (.int 2))),(cmpT .Gt (idxF (aC 467 "_filter" (varF "self")) (varF "start_idx")) (varF "r"))]) brkS nilB)
 (seqB (ifS (cmpT .Eq (idxF (aC 467 "_filter" (varF "self")) (varF "start_idx")) (varF "r")) (retS (varF "start_idx")) nilB)
 (setF "start_idx" (binF .BitAnd (binF .Add (varF "start_idx") (kF (.int 1))) (aC 467 "_QuotientFilter__mod_size" (varF "self"))))))) 100)
 (retS (unF .USub (kF (.int 1))))))))
noncomputable def aG:FF:=bQ ["self","q","r"] iU
noncomputable def dT:SF:=
 (ifS (valT (aF 467 "_is_empty_element" aI (varF "self") (aA (varF "insert_idx") nilL))) (seqB (bF (varF "r") (aC 467 "_filter" (varF "self")) (varF "insert_idx"))
 (seqB (aQ 183 aH (kF (.int 1)) (aC 467 "_is_occupied" (varF "self")) (varF "q"))
 (seqB (aQ 183 aH (iteF (cmpT .NotEq (varF "insert_idx") (varF "orig_idx")) (kF (.int 1)) (kF (.int 0))) (aC 467 "_is_continuation" (varF "self")) (varF "insert_idx"))
 (aQ 183 aH (iteF (cmpT .NotEq (varF "insert_idx") (varF "q")) (kF (.int 1)) (kF (.int 0))) (aC 467 "_is_shifted" (varF "self")) (varF "insert_idx"))))) (seqB (setF "next_idx" (binF .BitAnd (binF .Add (varF "insert_idx") (kF (.int 1))) (aC 467 "_QuotientFilter__mod_size" (varF "self"))))
 (seqB (bG (valT (kF (.bool true))) (seqB (setF "was_empty" (aF 467 "_is_empty_element" aI (varF "self") (aA (varF "next_idx") nilL)))
 (seqB (setF "temp" (subF 183 aD (aC 467 "_is_continuation" (varF "self")) (varF "next_idx")))
 (seqB (aQ 183 aH (subF 183 aD (aC 467 "_is_continuation" (varF "self")) (varF "insert_idx")) (aC 467 "_is_continuation" (varF "self")) (varF "next_idx"))
 (seqB (aQ 183 aH (varF "temp") (aC 467 "_is_continuation" (varF "self")) (varF "insert_idx"))
 (seqB (aQ 183 aH (kF (.int 1)) (aC 467 "_is_shifted" (varF "self")) (varF "next_idx"))
 (seqB (setF "temp" (idxF (aC 467 "_filter" (varF "self")) (varF "next_idx")))
 (seqB (bF (idxF (aC 467 "_filter" (varF "self")) (varF "insert_idx")) (aC 467 "_filter" (varF "self")) (varF "next_idx"))
 (seqB (bF (varF "temp") (aC 467 "_filter" (varF "self")) (varF "insert_idx"))
 (seqB (ifS (valT (varF "was_empty")) brkS nilB)
 (setF "next_idx" (binF .BitAnd (binF .Add (varF "next_idx") (kF (.int 1))) (aC 467 "_QuotientFilter__mod_size" (varF "self"))))))))))))) 100)
 (seqB (bF (varF "r") (aC 467 "_filter" (varF "self")) (varF "insert_idx"))
 (seqB (aQ 183 aH (kF (.int 1)) (aC 467 "_is_occupied" (varF "self")) (varF "q"))
 (seqB (aQ 183 aH (iteF (cmpT .NotEq (varF "insert_idx") (varF "orig_idx")) (kF (.int 1)) (kF (.int 0))) (aC 467 "_is_continuation" (varF "self")) (varF "insert_idx"))
 (seqB (aQ 183 aH (iteF (cmpT .NotEq (varF "insert_idx") (varF "q")) (kF (.int 1)) (kF (.int 0))) (aC 467 "_is_shifted" (varF "self")) (varF "insert_idx"))
 (ifS (cmpT .Eq (varF "flag") (kF (.int 1))) (aQ 183 aH (kF (.int 1)) (aC 467 "_is_continuation" (varF "self")) (binF .BitAnd (binF .Add (varF "insert_idx") (kF (.int 1))) (aC 467 "_QuotientFilter__mod_size" (varF "self")))) nilB))))))))
noncomputable def bV:FF:=bQ ["self","q","r","orig_idx","insert_idx","flag"] dT
noncomputable def pC:SF:=
 (seqB (ifS (cmpT .Eq (aC 467 "_size" (varF "self")) (aC 467 "_elements_added" (varF "self"))) (fun _ _=>none) nilB)
 (seqB (ifS (valT (aF 467 "_is_empty_element" aI (varF "self") (aA (varF "q") nilL))) (seqB (bF (varF "r") (aC 467 "_filter" (varF "self")) (varF "q"))
 (aQ 183 aH (kF (.int 1)) (aC 467 "_is_occupied" (varF "self")) (varF "q"))) (seqB (setF "start_idx" (aF 467 "_get_start_index" bY (varF "self") (aA (varF "q") nilL)))
 (ifS (cmpT .Eq (subF 183 aD (aC 467 "_is_occupied" (varF "self")) (varF "q")) (kF (.int 0))) (aU (aF 467 "_shift_insert" bV (varF "self") (aA (varF "q") (aA (varF "r") (aA (varF "start_idx") (aA (varF "start_idx") (aA (kF (.int 0)) nilL))))))) (seqB (setF "orig_start_idx" (varF "start_idx"))
 (seqB (setF "starts" (kF (.int 0)))
 (seqB (setF "f" (binF .Add (binF .Add (aF 183 "check_bit" aK (aC 467 "_is_occupied" (varF "self")) (aA (varF "start_idx") nilL)) (aF 183 "check_bit" aK (aC 467 "_is_continuation" (varF "self")) (aA (varF "start_idx") nilL))) (aF 183 "check_bit" aK (aC 467 "_is_shifted" (varF "self")) (aA (varF "start_idx") nilL))))
 (seqB (bG (andT [(cmpT .Eq (varF "starts") (kF (.int 0))),(cmpT .NotEq (varF "f") (kF (.int 0))),(cmpT .Gt (varF "r") (idxF (aC 467 "_filter" (varF "self")) (varF "start_idx")))]) (seqB (setF "start_idx" (binF .BitAnd (binF .Add (varF "start_idx") (kF (.int 1))) (aC 467 "_QuotientFilter__mod_size" (varF "self"))))
 (seqB (ifS (cmpT .Eq (subF 183 aD (aC 467 "_is_continuation" (varF "self")) (varF "start_idx")) (kF (.int 0))) (augN .Add "starts" (kF (.int 1))) nilB)
 (setF "f" (binF .Add (binF .Add (aF 183 "check_bit" aK (aC 467 "_is_occupied" (varF "self")) (aA (varF "start_idx") nilL)) (aF 183 "check_bit" aK (aC 467 "_is_continuation" (varF "self")) (aA (varF "start_idx") nilL))) (aF 183 "check_bit" aK (aC 467 "_is_shifted" (varF "self")) (aA (varF "start_idx") nilL)))))) 100)
 (ifS (cmpT .Eq (varF "starts") (kF (.int 1))) (aU (aF 467 "_shift_insert" bV (varF "self") (aA (varF "q") (aA (varF "r") (aA (varF "orig_start_idx") (aA (varF "start_idx") (aA (kF (.int 0)) nilL))))))) (aU (aF 467 "_shift_insert" bV (varF "self") (aA (varF "q") (aA (varF "r") (aA (varF "orig_start_idx") (aA (varF "start_idx") (aA (kF (.int 1)) nilL)))))))))))))))
 (iH 467 "_elements_added" .Add (varF "self") (kF (.int 1)))))
noncomputable def eF:FF:=bQ ["self","q","r"] pC
noncomputable def dC:SF:=
 (seqB (bF (kF (.int 0)) (aC 467 "_filter" (varF "self")) (varF "idx"))
 (seqB (aQ 183 aH (kF (.int 0)) (aC 467 "_is_continuation" (varF "self")) (varF "idx"))
 (seqB (aQ 183 aH (kF (.int 0)) (aC 467 "_is_shifted" (varF "self")) (varF "idx"))
 (aQ 183 aH (kF (.int 0)) (aC 467 "_is_occupied" (varF "self")) (varF "idx")))))
noncomputable def cA:FF:=bQ ["self","idx"] dC
noncomputable def eA:SF:=
 (seqB (bG (andT [(notT (valT (aF 467 "_is_cluster_start" aL (varF "self") (aA (varF "next_idx") nilL)))),(notT (valT (aF 467 "_is_empty_element" aI (varF "self") (aA (varF "next_idx") nilL))))]) (seqB (bF (idxF (aC 467 "_filter" (varF "self")) (varF "next_idx")) (aC 467 "_filter" (varF "self")) (varF "idx"))
 (seqB (aQ 183 aH (subF 183 aD (aC 467 "_is_continuation" (varF "self")) (varF "next_idx")) (aC 467 "_is_continuation" (varF "self")) (varF "idx"))
 (seqB (aQ 183 aH (subF 183 aD (aC 467 "_is_shifted" (varF "self")) (varF "next_idx")) (aC 467 "_is_shifted" (varF "self")) (varF "idx"))
 (seqB (setF "idx" (varF "next_idx"))
 (setF "next_idx" (binF .BitAnd (binF .Add (varF "idx") (kF (.int 1))) (aC 467 "_QuotientFilter__mod_size" (varF "self")))))))) 100)
 (retS (tupF (aA (varF "idx") (aA (varF "next_idx") nilL)))))
noncomputable def cN:FF:=bQ ["self","idx","next_idx"] eA
noncomputable def cL:SF:=
 (seqB (ifS (andT [(valT (aF 467 "_is_run_or_cluster_start" aR (varF "self") (aA (varF "idx") nilL))),(cmpT .Eq (subF 183 aD (aC 467 "_is_continuation" (varF "self")) (varF "next_idx")) (kF (.int 1)))]) (seqB (bF (idxF (aC 467 "_filter" (varF "self")) (varF "next_idx")) (aC 467 "_filter" (varF "self")) (varF "idx"))
 (seqB (aQ 183 aH (kF (.int 0)) (aC 467 "_is_continuation" (varF "self")) (varF "idx"))
 (seqB (aQ 183 aH (subF 183 aD (aC 467 "_is_shifted" (varF "self")) (varF "next_idx")) (aC 467 "_is_shifted" (varF "self")) (varF "idx"))
 (seqB (setF "idx" (varF "next_idx"))
 (setF "next_idx" (binF .BitAnd (binF .Add (varF "idx") (kF (.int 1))) (aC 467 "_QuotientFilter__mod_size" (varF "self")))))))) nilB)
 (retS (tupF (aA (varF "idx") (aA (varF "next_idx") nilL)))))
noncomputable def cK:FF:=bQ ["self","idx","next_idx"] cL
noncomputable def dB:SF:=
 (seqB (setF "min_idx" (varF "idx"))
 (seqB (bG (notT (valT (aF 467 "_is_cluster_start" aL (varF "self") (aA (varF "min_idx") nilL)))) (setF "min_idx" (binF .BitAnd (binF .Sub (varF "min_idx") (kF (.int 1))) (aC 467 "_QuotientFilter__mod_size" (varF "self")))) 100)
 (retS (varF "min_idx"))))
noncomputable def bZ:FF:=bQ ["self","idx"] dB
noncomputable def cP:SF:=
 (seqB (bF (kF (.int 0)) (aC 467 "_filter" (varF "self")) (varF "idx"))
 (seqB (aU (aF 183 "clear_bit" bL (aC 467 "_is_occupied" (varF "self")) (aA (varF "idx") nilL)))
 (seqB (aU (aF 183 "clear_bit" bL (aC 467 "_is_continuation" (varF "self")) (aA (varF "idx") nilL)))
 (seqB (aU (aF 183 "clear_bit" bL (aC 467 "_is_shifted" (varF "self")) (aA (varF "idx") nilL)))
 (ifS (valT (varF "remove_orig_idx")) (aQ 183 aH (kF (.int 0)) (aC 467 "_is_occupied" (varF "self")) (varF "q")) nilB)))))
noncomputable def bM:FF:=bQ ["self","idx","q","remove_orig_idx"] cP
noncomputable def fV:SF:=
 (retS (jW .And [(aF 467 "_is_run_or_cluster_start" aR (varF "self") (aA (varF "idx") nilL)),(cmpF .Eq (subF 183 aD (aC 467 "_is_continuation" (varF "self")) (varF "next_idx")) (kF (.int 0)))]))
noncomputable def bI:FF:=bQ ["self","idx","next_idx"] fV
noncomputable def gG:SF:=
 (seqB (setF "cur_quot" (unF .USub (kF (.int 1))))
 (seqB (setF "queue" (gT nilL))
 (bG (cmpT .NotEq (varF "min_idx") (varF "next_idx")) (seqB (ifS (cmpT .Eq (subF 183 aD (aC 467 "_is_occupied" (varF "self")) (varF "min_idx")) (kF (.int 1))) (aU (appF (varF "queue") (varF "min_idx"))) nilB)
 (seqB (ifS (cmpT .Eq (aF 467 "_is_run_start" bK (varF "self") (aA (varF "min_idx") nilL)) (kF (.int 1))) (setF "cur_quot" (oE (varF "queue"))) nilB)
 (seqB (ifS (cmpT .Eq (varF "cur_quot") (varF "min_idx")) (seqB (aQ 183 aH (kF (.int 0)) (aC 467 "_is_continuation" (varF "self")) (varF "min_idx"))
 (seqB (aQ 183 aH (kF (.int 0)) (aC 467 "_is_shifted" (varF "self")) (varF "min_idx"))
 (aQ 183 aH (kF (.int 1)) (aC 467 "_is_occupied" (varF "self")) (varF "min_idx")))) nilB)
 (setF "min_idx" (binF .BitAnd (binF .Add (varF "min_idx") (kF (.int 1))) (aC 467 "_QuotientFilter__mod_size" (varF "self"))))))) 100)))
noncomputable def bX:FF:=bQ ["self","min_idx","next_idx"] gG
noncomputable def fZ:SF:=
 (seqB (setF "idx" (aF 467 "_contained_at_loc" aG (varF "self") (aA (varF "q") (aA (varF "r") nilL))))
 (seqB (ifS (cmpT .Eq (varF "idx") (unF .USub (kF (.int 1)))) retN nilB)
 (seqB (setF "next_idx" (binF .BitAnd (binF .Add (varF "idx") (kF (.int 1))) (aC 467 "_QuotientFilter__mod_size" (varF "self"))))
 (seqB (setF "remove_orig_idx" (aF 467 "_should_remove_orig_idx" bI (varF "self") (aA (varF "idx") (aA (varF "next_idx") nilL))))
 (seqB (ifS (orT [(valT (aF 467 "_is_empty_element" aI (varF "self") (aA (varF "next_idx") nilL))),(valT (aF 467 "_is_cluster_start" aL (varF "self") (aA (varF "next_idx") nilL)))]) (seqB (aU (aF 467 "_remove_and_clear_bits" bM (varF "self") (aA (varF "idx") (aA (varF "q") (aA (varF "remove_orig_idx") nilL)))))
 retN) nilB)
 (seqB (setF "min_idx" (aF 467 "_find_cluster_start" bZ (varF "self") (aA (varF "idx") nilL)))
 (seqB (unpack2 "idx" "next_idx" (aF 467 "_handle_first_move" cK (varF "self") (aA (varF "idx") (aA (varF "next_idx") nilL))))
 (seqB (unpack2 "idx" "next_idx" (aF 467 "_shift_elements" cN (varF "self") (aA (varF "idx") (aA (varF "next_idx") nilL))))
 (seqB (aU (aF 467 "_clear_last_element" cA (varF "self") (aA (varF "idx") nilL)))
 (seqB (ifS (valT (varF "remove_orig_idx")) (aQ 183 aH (kF (.int 0)) (aC 467 "_is_occupied" (varF "self")) (varF "q")) nilB)
 (aU (aF 467 "_fixup_cluster" bX (varF "self") (aA (varF "min_idx") (aA (varF "next_idx") nilL))))))))))))))
noncomputable def dY:FF:=bQ ["self","q","r"] fZ
noncomputable def jI:SF:=
 (seqB (setF "key_quotient" (binF .RShift (varF "_hash") (aC 467 "_r" (varF "self"))))
 (seqB (setF "key_remainder" (binF .BitAnd (varF "_hash") (binF .Sub (binF .LShift (kF (.int 1)) (aC 467 "_r" (varF "self"))) (kF (.int 1)))))
 (aU (aF 467 "_remove_element" dY (varF "self") (aA (varF "key_quotient") (aA (varF "key_remainder") nilL))))))
noncomputable def bS:FF:=bQ ["self","_hash"] jI
noncomputable def bQ_remove:SF:=
 (seqB (setF "_hash" (fldF 467 "_hash_func" hashTab (varF "self") (aA (varF "key") (aA (kF (.int 0)) nilL))))
 (aU (aF 467 "remove_alt" bS (varF "self") (aA (varF "_hash") nilL))))
noncomputable def fY:FF:=bQ ["self","key"] bQ_remove
noncomputable def kG:SF:=
 (seqB (setF "key_quotient" (binF .RShift (varF "_hash") (aC 467 "_r" (varF "self"))))
 (seqB (setF "key_remainder" (binF .BitAnd (varF "_hash") (binF .Sub (binF .LShift (kF (.int 1)) (aC 467 "_r" (varF "self"))) (kF (.int 1)))))
 (retS (cmpF .NotEq (aF 467 "_contained_at_loc" aG (varF "self") (aA (varF "key_quotient") (aA (varF "key_remainder") nilL))) (unF .USub (kF (.int 1)))))))
noncomputable def aX:FF:=bQ ["self","_hash"] kG
noncomputable def nS:SF:=
 (seqB (setF "_hash" (fldF 467 "_hash_func" hashTab (varF "self") (aA (varF "key") (aA (kF (.int 0)) nilL))))
 (retS (aF 467 "check_alt" aX (varF "self") (aA (varF "_hash") nilL))))
noncomputable def iD:FF:=bQ ["self","key"] nS
noncomputable def lW:SF:=
 (retS (aF 467 "check" iD (varF "self") (aA (varF "val") nilL)))
noncomputable def fH:FF:=bQ ["self","val"] lW
noncomputable def gD:SF:=
 (seqB (aZ 467 "_q" (varF "quotient") (varF "self"))
 (seqB (aZ 467 "_r" (binF .Sub (kF (.int 32)) (varF "quotient")) (varF "self"))
 (seqB (aZ 467 "_size" (binF .LShift (kF (.int 1)) (aC 467 "_q" (varF "self"))) (varF "self"))
 (seqB (aZ 467 "_QuotientFilter__mod_size" (binF .Sub (aC 467 "_size" (varF "self")) (kF (.int 1))) (varF "self"))
 (seqB (aZ 467 "_elements_added" (kF (.int 0)) (varF "self"))
 (seqB (aZ 467 "_auto_resize" (varF "auto_expand") (varF "self"))
 (seqB (aZ 467 "_hash_func" (iteF (cmpT .Is (varF "hash_function") (kF .none)) (fun _ _=>none) (varF "hash_function")) (varF "self"))
 (seqB (ifS (cmpT .LtE (aC 467 "_r" (varF "self")) (kF (.int 8))) (seqB (aZ 467 "_int_type_code" (kF (.str (Str.ofString "B"))) (varF "self"))
 (aZ 467 "_bits_per_elm" (kF (.int 8)) (varF "self"))) (ifS (cmpT .LtE (aC 467 "_r" (varF "self")) (kF (.int 16))) (seqB (aZ 467 "_int_type_code" (kF (.str (Str.ofString "I"))) (varF "self"))
 (aZ 467 "_bits_per_elm" (kF (.int 16)) (varF "self"))) (seqB (aZ 467 "_int_type_code" (kF (.str (Str.ofString "L"))) (varF "self"))
 (aZ 467 "_bits_per_elm" (kF (.int 32)) (varF "self")))))
 (seqB (aZ 467 "_is_occupied" (newF 183 jQ (aA (aC 467 "_size" (varF "self")) nilL)) (varF "self"))
 (seqB (aZ 467 "_is_continuation" (newF 183 jQ (aA (aC 467 "_size" (varF "self")) nilL)) (varF "self"))
 (seqB (aZ 467 "_is_shifted" (newF 183 jQ (aA (aC 467 "_size" (varF "self")) nilL)) (varF "self"))
 (aZ 467 "_filter" (repF (gT (aA (kF (.int 0)) nilL)) (aC 467 "_size" (varF "self"))) (varF "self")))))))))))))
noncomputable def cS:FF:=bQ ["self","quotient","auto_expand","hash_function"] gD
noncomputable def nR:SF:=
 (seqB (ifS (orT [(cmpT .Lt (varF "quotient") (kF (.int 3))),(cmpT .Gt (varF "quotient") (kF (.int 31)))]) (fun _ _=>none) nilB)
 (aU (aF 467 "_QuotientFilter__set_params" cS (varF "self") (aA (varF "quotient") (aA (varF "auto_expand") (aA (varF "hash_function") nilL))))))
noncomputable def fU:FF:=bodyD ["self","quotient","auto_expand","hash_function"] [] nR
noncomputable def jZ:SF:=
 (retS (aC 467 "_elements_added" (varF "self")))
noncomputable def bB:FF:=bQ ["self"] jZ
noncomputable def dL:SF:=
 (seqB (setF "queue" (gT nilL))
 (seqB (setF "start" (kF (.int 0)))
 (seqB (bG (notT (valT (aF 467 "_is_empty_element" aI (varF "self") (aA (varF "start") nilL)))) (augN .Add "start" (kF (.int 1))) 100)
 (setF "cur_quot" (kF (.int 0))))))
noncomputable def dP:LF:=
 (aA (varF "start") (aA (binF .Add (aC 467 "_size" (varF "self")) (varF "start")) nilL))
noncomputable def aM:SF:=
 (seqB (setF "idx" (binF .Mod (varF "i") (aC 467 "_size" (varF "self"))))
 (seqB (setF "is_occupied" (aF 183 "check_bit" aK (aC 467 "_is_occupied" (varF "self")) (aA (varF "idx") nilL)))
 (seqB (setF "is_continuation" (aF 183 "check_bit" aK (aC 467 "_is_continuation" (varF "self")) (aA (varF "idx") nilL)))
 (seqB (setF "is_shifted" (aF 183 "check_bit" aK (aC 467 "_is_shifted" (varF "self")) (aA (varF "idx") nilL)))
 (seqB (ifS (cmpT .Eq (binF .Add (binF .Add (varF "is_occupied") (varF "is_continuation")) (varF "is_shifted")) (kF (.int 0))) (seqB (nT (cmpT .Eq (lenF (varF "queue")) (kF (.int 0))))
 contS) nilB)
 (seqB (ifS (cmpT .Eq (varF "is_occupied") (kF (.int 1))) (aU (appF (varF "queue") (varF "idx"))) nilB)
 (ifS (valT (aF 467 "_is_run_start" bK (varF "self") (aA (varF "idx") nilL))) (setF "cur_quot" (oE (varF "queue"))) nilB)))))))
noncomputable def aP:EF:=
 (binF .Add (binF .LShift (varF "cur_quot") (aC 467 "_r" (varF "self"))) (idxF (aC 467 "_filter" (varF "self")) (varF "idx")))
noncomputable def jK:SF:=
 (retS (nB 467 "hashes" 100 ["self"] "i" dL dP aM aP (varF "self")))
noncomputable def aV:FF:=bQ ["self"] jK
noncomputable def qV:SF:=
 (seqB (ifS (andT [(valT (aC 467 "_auto_resize" (varF "self"))),(cmpT .GtE (binF .Mult (kF (.int 100)) (aC 467 "_elements_added" (varF "self"))) (binF .Mult (kF (.int 85)) (aC 467 "_size" (varF "self"))))]) (fun _ _=>none) nilB)
 (seqB (setF "key_quotient" (binF .RShift (varF "_hash") (aC 467 "_r" (varF "self"))))
 (seqB (setF "key_remainder" (binF .BitAnd (varF "_hash") (binF .Sub (binF .LShift (kF (.int 1)) (aC 467 "_r" (varF "self"))) (kF (.int 1)))))
 (ifS (cmpT .Eq (aF 467 "_contained_at_loc" aG (varF "self") (aA (varF "key_quotient") (aA (varF "key_remainder") nilL))) (unF .USub (kF (.int 1)))) (aU (aF 467 "_add" eF (varF "self") (aA (varF "key_quotient") (aA (varF "key_remainder") nilL)))) nilB))))
noncomputable def dZ:FF:=bQ ["self","_hash"] qV
noncomputable def lT:SF:=
 (seqB (ifS (cmpT .Is (varF "quotient") (kF .none)) (setF "quotient" (binF .Add (aC 467 "_q" (varF "self")) (kF (.int 1)))) nilB)
 (seqB (ifS (cmpT .GtE (lZ 467 bB (varF "self")) (binF .LShift (kF (.int 1)) (varF "quotient"))) (fun _ _=>none) nilB)
 (seqB (ifS (orT [(cmpT .Lt (varF "quotient") (kF (.int 3))),(cmpT .Gt (varF "quotient") (kF (.int 31)))]) (fun _ _=>none) nilB)
 (seqB (setF "hashes" (aF 467 "get_hashes" aV (varF "self") nilL))
 (seqB (jF "i" (aA (aC 467 "_size" (varF "self")) nilL) (bF (kF (.int 0)) (aC 467 "_filter" (varF "self")) (varF "i")))
 (seqB (aU (aF 467 "_QuotientFilter__set_params" cS (varF "self") (aA (varF "quotient") (aA (aC 467 "_auto_resize" (varF "self")) (aA (aC 467 "_hash_func" (varF "self")) nilL)))))
 (kK "_h" (varF "hashes") (aU (aF 467 "add_alt" dZ (varF "self") (aA (varF "_h") nilL))) 100)))))))
noncomputable def fG:FF:=bodyD ["self","quotient"] [.none] lT
noncomputable def jY:SF:=
 (seqB (ifS (cmpT .Is (varF "quotient") (kF .none)) (setF "quotient" (binF .Add (aC 467 "_q" (varF "self")) (kF (.int 1)))) nilB)
 (seqB (ifS (cmpT .GtE (lZ 467 bB (varF "self")) (binF .LShift (kF (.int 1)) (varF "quotient"))) (fun _ _=>none) nilB)
 (seqB (ifS (orT [(cmpT .Lt (varF "quotient") (kF (.int 3))),(cmpT .Gt (varF "quotient") (kF (.int 31)))]) (fun _ _=>none) nilB)
 (seqB (setF "hashes" (aF 467 "get_hashes" aV (varF "self") nilL))
 (seqB (jF "i" (aA (aC 467 "_size" (varF "self")) nilL) (bF (kF (.int 0)) (aC 467 "_filter" (varF "self")) (varF "i")))
 (seqB (aU (aF 467 "_QuotientFilter__set_params" cS (varF "self") (aA (varF "quotient") (aA (aC 467 "_auto_resize" (varF "self")) (aA (aC 467 "_hash_func" (varF "self")) nilL)))))
 (kK "_h" (varF "hashes") (aU (aF 467 "add_alt" dZ (varF "self") (aA (varF "_h") nilL))) 100)))))))
noncomputable def dX:FF:=bodyD ["self","quotient"] [] jY
noncomputable def uA:SF:=
 (seqB (ifS (andT [(valT (aC 467 "_auto_resize" (varF "self"))),(cmpT .GtE (binF .Mult (kF (.int 100)) (aC 467 "_elements_added" (varF "self"))) (binF .Mult (kF (.int 85)) (aC 467 "_size" (varF "self"))))]) (aU (aF 467 "resize" fG (varF "self") nilL)) nilB)
 (seqB (setF "key_quotient" (binF .RShift (varF "_hash") (aC 467 "_r" (varF "self"))))
 (seqB (setF "key_remainder" (binF .BitAnd (varF "_hash") (binF .Sub (binF .LShift (kF (.int 1)) (aC 467 "_r" (varF "self"))) (kF (.int 1)))))
 (ifS (cmpT .Eq (aF 467 "_contained_at_loc" aG (varF "self") (aA (varF "key_quotient") (aA (varF "key_remainder") nilL))) (unF .USub (kF (.int 1)))) (aU (aF 467 "_add" eF (varF "self") (aA (varF "key_quotient") (aA (varF "key_remainder") nilL)))) nilB))))
noncomputable def aS:FF:=bQ ["self","_hash"] uA
noncomputable def bQ_add:SF:=
 (seqB (setF "_hash" (fldF 467 "_hash_func" hashTab (varF "self") (aA (varF "key") (aA (kF (.int 0)) nilL))))
 (aU (aF 467 "add_alt" aS (varF "self") (aA (varF "_hash") nilL))))
noncomputable def mL:FF:=bQ ["self","key"] bQ_add
noncomputable def nO:SF:=
 (seqB (ifS (cmpT .NotEq (fldF 467 "_hash_func" hashTab (varF "self") (aA (kF (.str (Str.ofString "test"))) (aA (kF (.int 0)) nilL))) (fldF 467 "_hash_func" hashTab (varF "second") (aA (kF (.str (Str.ofString "test"))) (aA (kF (.int 0)) nilL)))) (fun _ _=>none) nilB)
 (forGenS 467 "hashes" "self" "_h" (aU (aF 467 "add_alt" aS (varF "self") (aA (varF "_h") nilL))) "i" dL dP aM aP (varF "second") 100))
noncomputable def kQ:FF:=bQ ["self","second"] nO
end
section
open PySem
section
variable {l l':Loc} {σ σ₁ σ₂ σ₃:Sto} {C:Addr} {x:String} {f g k:EF} {fa:LF} {m:FF} {i:Nat} {fs:List (String×Val)} {v w:Val}
theorem bnd {α β:Type} {o:Option α} {f:α->Option β} {a:α} {r:Option β} (h:o=some a) (e:f a=r):o.bind f=r:=by rw [h];exact e
theorem mp_ {α β:Type} {o:Option α} {f:α->β} {a:α} {b:β} (h:o=some a) (e:f a=b):o.map f=some b:=by rw [h,<- e];rfl
theorem aB (hx:l x=some v):varF x l σ=some (v,σ):=mp_ hx rfl
theorem evA (hf:f l σ=some (.ref i,σ₁)) (hg:σ₁.get i=.inst C fs) (hx:getF fs x=some v):aC C x f l σ=some (v,σ₁):=bnd hf (bnd rfl (bnd (eR hg) (mp_ hx rfl)))
theorem evSub {r:Option (Val×Sto)} (hf:f l σ=some (.ref i,σ₁)) (hg:g l σ₁=some (v,σ₂)) (hi:σ₂.get i=.inst C fs) (e:m [.ref i,v] σ₂=r):subF C m f g l σ=r:=bnd hf (bnd hg (bnd rfl (bnd (eR hi) e)))
theorem cE {vs:List Val} {r:Option (Val×Sto)} (hf:f l σ=some (.ref i,σ₁)) (hi:σ₁.get i=.inst C fs) (hx:getF fs x=none) (ha:fa l σ₁=some (vs,σ₂)) (e:m (.ref i :: vs) σ₂=r):aF C x m f fa l σ=r:=bnd hf (bnd rfl (bnd (eR hi) (bnd (lG hx) (bnd ha e))))
theorem evIdx {j:Int} {xs:List Val} (hf:f l σ=some (.ref i,σ₁)) (hg:g l σ₁=some (.int j,σ₂)) (hl:σ₂.get i=.list xs) (h0:0<=j/\j<2 ^ 62) (hx:xs[j.toNat]?=some v):idxF f g l σ=some (v,σ₂):=bnd hf (bnd hg (bnd rfl (bnd rfl (bnd (dG hl) ((if_pos h0).trans (mp_ hx rfl))))))
theorem bU {op:Operator} {a b:Val} (h1:f l σ=some (a,σ₁)) (h2:g l σ₁=some (b,σ₂)) (h3:binV op a b=some v):binF op f g l σ=some (v,σ₂):=bnd h1 (bnd h2 (mp_ h3 rfl))
theorem evUn {op:UnaryOp} {a:Val} (h1:f l σ=some (a,σ₁)) (h3:unV op a=some v):unF op f l σ=some (v,σ₁):=bnd h1 (mp_ h3 rfl)
theorem bD {op:CmpOp} {a b:Val} {c:Bool} (h1:f l σ=some (a,σ₁)) (h2:g l σ₁=some (b,σ₂)) (h3:cmpV op a b=some c):cmpT op f g l σ=some (c,σ₂):=bnd h1 (bnd h2 (mp_ h3 rfl))
theorem gZ {op:CmpOp} {a b:Val} {c:Bool} (h1:f l σ=some (a,σ₁)) (h2:g l σ₁=some (b,σ₂)) (h3:cmpV op a b=some c):cmpF op f g l σ=some (.bool c,σ₂):=bnd h1 (bnd h2 (mp_ h3 rfl))
theorem lN {c:Bool} (h1:f l σ=some (.bool c,σ₁)):valT f l σ=some (c,σ₁):=bnd h1 rfl
theorem evNot {t:TF} {c:Bool} (h1:t l σ=some (c,σ₁)):notT t l σ=some (!c,σ₁):=mp_ h1 rfl
theorem sI {t:TF} {ts:List TF} (h1:t l σ=some (true,σ₁)):orT (t :: ts) l σ=some (true,σ₁):=bnd h1 rfl
theorem lO {t:TF} {ts:List TF} {r:Option (Bool×Sto)} (h1:t l σ=some (false,σ₁)) (h2:orT ts l σ₁=r):orT (t :: ts) l σ=r:=bnd h1 h2
theorem evAnd_f {t:TF} {ts:List TF} (h1:t l σ=some (false,σ₁)):andT (t :: ts) l σ=some (false,σ₁):=bnd h1 rfl
theorem evAnd_t {t:TF} {ts:List TF} {r:Option (Bool×Sto)} (h1:t l σ=some (true,σ₁)) (h2:andT ts l σ₁=r):andT (t :: ts) l σ=r:=bnd h1 h2
theorem nK {t:TF} {ts:List TF} {b c:Bool} (h1:t l σ=some (b,σ)) (h2:andT ts l σ=some (c,σ)):andT (t :: ts) l σ=some (b && c,σ):=by
 cases b
 ·exact bnd h1 rfl
 ·exact bnd h1 h2
theorem lstC {fs:LF} {vs:List Val} (h:f l σ=some (v,σ₁)) (h2:fs l σ₁=some (vs,σ₂)):aA f fs l σ=some (v :: vs,σ₂):=bnd h (mp_ h2 rfl)
theorem lst1 (h:f l σ=some (v,σ₁)):aA f nilL l σ=some ([v],σ₁):=bnd h rfl
theorem lst2 (h:f l σ=some (v,σ₁)) (h2:g l σ₁=some (w,σ₂)):aA f (aA g nilL) l σ=some ([v,w],σ₂):=bnd h (mp_ (lst1 h2) rfl)
theorem aT {e:EF} {σ':Sto} (he:e l σ=some (v,σ')):setF x e l σ=some (.next,l.put x v,σ'):=mp_ he rfl
theorem cM {e:EF} {σ':Sto} (he:e l σ=some (v,σ')):aU e l σ=some (.next,l,σ'):=mp_ he rfl
theorem eX {e:EF} {σ':Sto} (he:e l σ=some (v,σ')):retS e l σ=some (.ret v,l,σ'):=mp_ he rfl
theorem stAug {op:Operator} {a b:Val} (hx:l x=some a) (hf:f l σ=some (b,σ₁)) (h:augV op a b=some v):augN op x f l σ=some (.next,l.put x v,σ₁):=bnd hx (bnd hf (mp_ h rfl))
theorem stSub {j a:Val} (hf:f l σ=some (a,σ₁)) (hg:g l σ₁=some (.ref i,σ₂)) (hk:k l σ₂=some (j,σ₃)) (hi:σ₃.get i=.inst C fs) {σ':Sto} (e:m [.ref i,j,a] σ₃=some (w,σ')):aQ C m f g k l σ=some (.next,l,σ'):=bnd hf (bnd hg (bnd hk (bnd rfl (bnd (eR hi) (mp_ e rfl)))))
theorem stIdx {j:Int} {xs:List Val} {a:Val} (hf:f l σ=some (a,σ₁)) (hg:g l σ₁=some (.ref i,σ₂)) (hk:k l σ₂=some (.int j,σ₃)) (hl:σ₃.get i=.list xs) (h0:0<=j/\j<2 ^ 62/\j<xs.length):bF f g k l σ=some (.next,l,σ₃.put i (.list (xs.set j.toNat a))):=bnd hf (bnd hg (bnd hk (bnd rfl (bnd rfl (bnd (dG hl) (if_pos h0))))))
theorem stAttr (hf:f l σ=some (v,σ₁)) (hg:g l σ₁=some (.ref i,σ₂)) (hi:σ₂.get i=.inst C fs) (hl:fs.length<=900):aZ C x f g l σ=some (.next,l,σ₂.put i (.inst C (putF fs x v))):=bnd hf (bnd hg (bnd rfl (bnd (eR hi) (if_pos hl))))
theorem stAugA {op:Operator} {a b:Val} {fs':List (String×Val)} (hg:g l σ=some (.ref i,σ₁)) (hi:σ₁.get i=.inst C fs) (hx:getF fs x=some a) (hf:f l σ₁=some (b,σ₂)) (hi2:σ₂.get i=.inst C fs') (hl:fs'.length<=900)
  (h:augV op a b=some v):iH C x op g f l σ=some (.next,l,σ₂.put i (.inst C (putF fs' x v))):=bnd hg (bnd rfl (bnd (eR hi) (bnd hx (bnd hf (bnd (eR hi2) ((if_pos hl).trans (mp_ h rfl)))))))
theorem evApp {xs:List Val} (hf:f l σ=some (.ref i,σ₁)) (hL:isL (σ₁.get i)=true) (hg:g l σ₁=some (v,σ₂)) (hl:σ₂.get i=.list xs) (hn:xs.length<=100000):appF f g l σ=some (.none,σ₂.put i (.list (xs ++ [v]))):=bnd hf (bnd hg (bnd rfl ((if_pos hL).trans (bnd (dG hl) (if_pos hn)))))
theorem evPop0 {xs:List Val} (hf:f l σ=some (.ref i,σ₁)) (hl:σ₁.get i=.list (v :: xs)) (hn:xs.length<=100000):oE f l σ=some (v,σ₁.put i (.list xs)):=bnd hf (bnd rfl (bnd (dG hl) (bnd rfl (if_pos hn))))
theorem evProp0 {r:Option (Val×Sto)} (hf:f l σ=some (.ref i,σ₁)) (hi:σ₁.get i=.inst C fs) (e:m [.ref i] σ₁=r):lZ C m f l σ=r:=bnd hf (bnd rfl (bnd (eR hi) e))
theorem evFld {tab:List (Addr×FF)} {a:Addr} {vs:List Val} {r:Option (Val×Sto)} (hf:f l σ=some (.ref i,σ₁)) (hi:σ₁.get i=.inst C fs) (hx:getF fs x=some (.fn a)) (ht:tab.find? (fun t=>t.1 == a)=some (a,m)) (ha:fa l σ₁=some (vs,σ₂)) (e:m vs σ₂=r):fldF C x tab f fa l σ=r:=
 bnd hf (bnd rfl (bnd (eR hi) (bnd hx (bnd rfl (bnd ht (bnd ha e))))))
theorem evForL {b:SF} {n:Nat} {r:Option (Fl×Loc×Sto)} (hf:f l σ=some (.ref i,σ₁)) (e:forL x b i n 0 l σ₁=r):kK x f b n l σ=r:=bnd hf (bnd rfl e)
theorem lt64 {n:Nat} (h:n<18446744073709551616):n<2 ^ 64:=by simpa using h
theorem bMod {a b:Int} (h:0<b):binV .Mod (.int a) (.int b)=some (.int (a%b)):=show (if 0<b then some (Val.int (a%b)) else none)=_ from if_pos h
theorem bDiv {a b:Int} (h:0<b/\b<2 ^ 30):binV .FloorDiv (.int a) (.int b)=some (.int (a / b)):=show (if 0<b/\b<2 ^ 30 then some (Val.int (a / b)) else none)=_ from if_pos h
theorem bMul {a b:Int} (h:a.natAbs<2 ^ 64):binV .Mult (.int a) (.int b)=some (.int (a*b)):=show (if a.natAbs<2 ^ 64 then some (Val.int (a*b)) else none)=_ from if_pos h
theorem bShl {a b:Int} (h:0<=b/\b<=1000/\a.natAbs<2 ^ 64):binV .LShift (.int a) (.int b)=some (.int (a*2 ^ b.toNat)):=show (if 0<=b/\b<=1000/\a.natAbs<2 ^ 64 then some (Val.int (a*2 ^ b.toNat)) else none)=_ from if_pos h
theorem bShr {a b:Int} (h:0<=b):binV .RShift (.int a) (.int b)=some (.int (a / 2 ^ b.toNat)):=show (if 0<=b then some (Val.int (a / 2 ^ b.toNat)) else none)=_ from if_pos h
theorem neD (a b:Int):some (a != b)=some (decide (a≠b)):=by
 by_cases q:a=b<;>simp [q]
theorem jG {b:SF} {n k:Nat} {xs:List Val} (h:σ.get i=.list xs) (hn:xs[k]?=none):forL x b i (n+1) k l σ=some (.next,l,σ):=bnd (dG h) (by rw [hn];rfl)
theorem gY {b:SF} {n k:Nat} {xs:List Val} {r:Option (Fl×Loc×Sto)} (h:σ.get i=.list xs) (hv:xs[k]?=some v) (hb:b (l.put x v) σ=some (.next,l',σ₁)) (e:forL x b i n (k+1) l' σ₁=r):forL x b i (n+1) k l σ=r:=bnd (dG h) (by rw [hv];exact bnd hb e)
theorem evNew {vs:List Val} {σ':Sto} (ha:fa l σ=some (vs,σ₁)) (e:m (.ref σ₁.n :: vs) (σ₁.push (.inst C []))=some (.none,σ')):newF C m fa l σ=some (.ref σ₁.n,σ'):=bnd ha (bnd e rfl)
theorem evLen {xs:List Val} (hf:f l σ=some (.ref i,σ₁)) (hl:σ₁.get i=.list xs) (hn:xs.length<=1000000):lenF f l σ=some (.int xs.length,σ₁):=bnd hf (bnd rfl (bnd (dG hl) (if_pos hn)))
theorem evChr {y:Str} {j:Int} {c:Nat} (hf:f l σ=some (.str y,σ₁)) (hg:g l σ₁=some (.int j,σ₂)) (h0:0<=j/\j<2 ^ 62) (hx:y.cps[j.toNat]?=some c):chrF f g l σ=some (.str ⟨#[c]⟩,σ₂):=bnd hf (bnd hg (bnd rfl (bnd rfl ((if_pos h0).trans (mp_ hx rfl)))))
theorem evOrd {y:Str} (hf:f l σ=some (.str y,σ₁)) (h:y.length=1):ordF f l σ=some (.int (y.cps.getD 0 0:Nat),σ₁):=bnd hf (bnd rfl (if_pos h))
theorem seqN {f g:SF} {r:Option (Fl×Loc×Sto)} (h:f l σ=some (.next,l',σ₁)) (h2:g l' σ₁=r):seqB f g l σ=r:=bnd h h2
theorem kN {f g:SF} (h:f l σ=some (.brk,l',σ₁)):seqB f g l σ=some (.brk,l',σ₁):=bnd h rfl
theorem iX {f g:SF} (h:f l σ=some (.ret v,l',σ₁)):seqB f g l σ=some (.ret v,l',σ₁):=bnd h rfl
theorem seqB_cont {f g:SF} (h:f l σ=some (.cont,l',σ₁)):seqB f g l σ=some (.cont,l',σ₁):=bnd h rfl
theorem ifT {t:TF} {f g:SF} {r:Option (Fl×Loc×Sto)} (h:t l σ=some (true,σ₁)) (e:f l σ₁=r):ifS t f g l σ=r:=bnd h e
theorem ifF {t:TF} {f g:SF} {r:Option (Fl×Loc×Sto)} (h:t l σ=some (false,σ₁)) (e:g l σ₁=r):ifS t f g l σ=r:=bnd h e
theorem iteT {t:TF} {r:Option (Val×Sto)} (h:t l σ=some (true,σ₁)) (e:f l σ₁=r):iteF t f g l σ=r:=bnd h e
theorem iteE {t:TF} {r:Option (Val×Sto)} (h:t l σ=some (false,σ₁)) (e:g l σ₁=r):iteF t f g l σ=r:=bnd h e
theorem whF {t:TF} {b:SF} {n:Nat} (ht:t l σ=some (false,σ₁)):bG t b (n+1) l σ=some (.next,l,σ₁):=bnd ht rfl
theorem whN {t:TF} {b:SF} {n:Nat} {r:Option (Fl×Loc×Sto)} (ht:t l σ=some (true,σ₁)) (hb:b l σ₁=some (.next,l',σ₂)) (e:bG t b n l' σ₂=r):bG t b (n+1) l σ=r:=bnd ht (bnd hb e)
theorem whB {t:TF} {b:SF} {n:Nat} (ht:t l σ=some (true,σ₁)) (hb:b l σ₁=some (.brk,l',σ₂)):bG t b (n+1) l σ=some (.next,l',σ₂):=bnd ht (bnd hb rfl)
theorem whR {t:TF} {b:SF} {n:Nat} (ht:t l σ=some (true,σ₁)) (hb:b l σ₁=some (.ret v,l',σ₂)):bG t b (n+1) l σ=some (.ret v,l',σ₂):=bnd ht (bnd hb rfl)
theorem fRet {ps:List String} {b:SF} {vs:List Val} (hl:vs.length=ps.length) (h:b (aJ ps vs) σ=some (.ret v,l',σ₁)):bQ ps b vs σ=some (v,σ₁):=(if_pos hl).trans (bnd h rfl)
theorem fEnd {ps:List String} {b:SF} {vs:List Val} (hl:vs.length=ps.length) (h:b (aJ ps vs) σ=some (.next,l',σ₁)):bQ ps b vs σ=some (.none,σ₁):=(if_pos hl).trans (bnd h rfl)
end
noncomputable def oX (b0 b1 b2 b3 b4 b5 b6 b7:Bool):Int:=(if b0 then 1 else 0)+(if b1 then 2 else 0)+(if b2 then 4 else 0)+(if b3 then 8 else 0)+(if b4 then 16 else 0)+(if b5 then 32 else 0)+(if b6 then 64 else 0)+(if b7 then 128 else 0)
noncomputable def pick8 (b0 b1 b2 b3 b4 b5 b6 b7:Bool) (k:Nat):Bool:=match k with
 | 0=>b0 | 1=>b1 | 2=>b2 | 3=>b3 | 4=>b4 | 5=>b5 | 6=>b6 | _=>b7
noncomputable def b2i (b:Bool):Int:=if b then 1 else 0
noncomputable def eqk (a b:Nat) (x y:Bool):Bool:=if a=b then x else y
theorem lS:∀ b0 b1 b2 b3 b4 b5 b6 b7:Bool,∀ k:Fin 8,
  (Builtin.bitAnd (oX b0 b1 b2 b3 b4 b5 b6 b7) (2 ^ k.val)=0 ↔ pick8 b0 b1 b2 b3 b4 b5 b6 b7 k.val=false)/\
  Builtin.bitOr (oX b0 b1 b2 b3 b4 b5 b6 b7) (2 ^ k.val)=oX (eqk k.val 0 true b0) (eqk k.val 1 true b1) (eqk k.val 2 true b2) (eqk k.val 3 true b3) (eqk k.val 4 true b4) (eqk k.val 5 true b5) (eqk k.val 6 true b6) (eqk k.val 7 true b7)/\
  Builtin.bitAnd (oX b0 b1 b2 b3 b4 b5 b6 b7) (-(2 ^ k.val) - 1)=oX (eqk k.val 0 false b0) (eqk k.val 1 false b1) (eqk k.val 2 false b2) (eqk k.val 3 false b3) (eqk k.val 4 false b4) (eqk k.val 5 false b5) (eqk k.val 6 false b6) (eqk k.val 7 false b7):=by decide +kernel
noncomputable def eI (F:Int->Bool) (b:Int):Int:=oX (F (8*b+0)) (F (8*b+1)) (F (8*b+2)) (F (8*b+3)) (F (8*b+4)) (F (8*b+5)) (F (8*b+6)) (F (8*b+7))
noncomputable def upd {α:Type} (F:Int->α) (j:Int) (v:α):Int->α:=fun k=>if k=j then v else F k
theorem qJ (j:Int):∃ k:Fin 8,j%8=(k.val:Int)/\j=8*(j / 8)+(k.val:Int):=by
 refine ⟨⟨(j%8).toNat,by lia⟩,?_,?_⟩<;>show _=_<;>dsimp only<;>lia
theorem finS {n:Nat} {p:Nat->Prop} (h0:p 0) (h:∀ k:Fin n,p (k.val+1)) (k:Fin (n+1)):p k.val:=Fin.cases (motive:=fun k=>p k.val) h0 h k
theorem tP {p:Nat->Prop} (h0:p 0) (h1:p 1) (h2:p 2) (h3:p 3) (h4:p 4) (h5:p 5) (h6:p 6) (h7:p 7) (k:Fin 8):p k.val:=
 (finS (p:=p) h0 (finS (p:=fun k=>p (k+1)) h1 (finS (p:=fun k=>p (k+1+1)) h2 (finS (p:=fun k=>p (k+1+1+1)) h3 (finS (p:=fun k=>p (k+1+1+1+1)) h4 (finS (p:=fun k=>p (k+1+1+1+1+1)) h5 (finS (p:=fun k=>p (k+1+1+1+1+1+1)) h6 (finS (p:=fun k=>p (k+1+1+1+1+1+1+1)) h7 (fun k=>k.elim0))))))))) k
theorem pick_byte (F:Int->Bool) (a:Int):∀ k:Fin 8,pick8 (F (8*a+0)) (F (8*a+1)) (F (8*a+2)) (F (8*a+3)) (F (8*a+4)) (F (8*a+5)) (F (8*a+6)) (F (8*a+7)) k.val=F (8*a+(k.val:Int)):=
 tP (p:=fun k=>pick8 (F (8*a+0)) (F (8*a+1)) (F (8*a+2)) (F (8*a+3)) (F (8*a+4)) (F (8*a+5)) (F (8*a+6)) (F (8*a+7)) k=F (8*a+(k:Int))) rfl rfl rfl rfl rfl rfl rfl rfl
theorem upd_at (F:Int->Bool) (v:Bool) (a:Int) (k i:Nat):upd F (8*a+(k:Int)) v (8*a+(i:Int))=eqk k i v (F (8*a+(i:Int))):=by
 unfold upd eqk
 by_cases q:k=i
 ·rw [q,if_pos rfl,if_pos rfl]
 ·rw [if_neg (by lia),if_neg q]
theorem byte_get (F:Int->Bool) (j:Int):Builtin.bitAnd (eI F (j / 8)) (2 ^ (j%8).toNat)=0 ↔ F j=false:=by
 obtain ⟨k,h1,h2⟩:=qJ j
 rw [h1,Int.toNat_natCast]
 have:=(lS (F (8*(j / 8)+0)) (F (8*(j / 8)+1)) (F (8*(j / 8)+2)) (F (8*(j / 8)+3)) (F (8*(j / 8)+4)) (F (8*(j / 8)+5)) (F (8*(j / 8)+6)) (F (8*(j / 8)+7)) k).1
 rw [pick_byte,<- h2] at this
 exact this
theorem rC (F:Int->Bool) (v:Bool) (a:Int) (k:Nat):eI (upd F (8*a+(k:Int)) v) a=oX (eqk k 0 v (F (8*a+0))) (eqk k 1 v (F (8*a+1))) (eqk k 2 v (F (8*a+2))) (eqk k 3 v (F (8*a+3))) (eqk k 4 v (F (8*a+4))) (eqk k 5 v (F (8*a+5))) (eqk k 6 v (F (8*a+6))) (eqk k 7 v (F (8*a+7))):=by
 have e:=upd_at F v a k
 unfold eI
 exact congr (congr (congr (congr (congr (congr (congr (congrArg oX (e 0)) (e 1)) (e 2)) (e 3)) (e 4)) (e 5)) (e 6)) (e 7)
theorem byte_or (F:Int->Bool) (j:Int):Builtin.bitOr (eI F (j / 8)) (2 ^ (j%8).toNat)=eI (upd F j true) (j / 8):=by
 obtain ⟨k,h1,h2⟩:=qJ j
 have e:=rC F true (j / 8) k
 rw [<- h2] at e
 rw [h1,Int.toNat_natCast,e]
 exact (lS _ _ _ _ _ _ _ _ k).2.1
theorem sL (F:Int->Bool) (j:Int):Builtin.bitAnd (eI F (j / 8)) (-(2 ^ (j%8).toNat) - 1)=eI (upd F j false) (j / 8):=by
 obtain ⟨k,h1,h2⟩:=qJ j
 have e:=rC F false (j / 8) k
 rw [<- h2] at e
 rw [h1,Int.toNat_natCast,e]
 exact (lS _ _ _ _ _ _ _ _ k).2.2
theorem tX (F:Int->Bool) (j a:Int) (v:Bool) (h:a≠j / 8):eI (upd F j v) a=eI F a:=by
 have e:∀ k:Int,0<=k->k<8->upd F j v (8*a+k)=F (8*a+k):=fun k h0 h7=>if_neg (by lia)
 unfold eI
 rw [e 0 (by decide) (by decide),e 1 (by decide) (by decide),e 2 (by decide) (by decide),e 3 (by decide) (by decide),e 4 (by decide) (by decide),e 5 (by decide) (by decide),e 6 (by decide) (by decide),e 7 (by decide) (by decide)]
noncomputable def bfs (m:Nat) (l:Nat):List (String×Val):=[("_size_bytes",.int (m / 8:Nat)),("_bitarray",.ref l),("_size",.int m)]
noncomputable def bl (F:Int->Bool) (nb:Nat):List Val:=(List.range nb).map fun a:Nat=>.int (eI F a)
noncomputable def flL (F:Int->Int) (m:Nat):List Val:=(List.range m).map fun a:Nat=>.int (F a)
theorem flL_set (F:Int->Int) (m:Nat) (j:Nat) (v:Int):(flL F m).set j (.int v)=flL (upd F j v) m:=by
 unfold flL
 apply List.ext_getElem?
 intro k
 rw [List.getElem?_set]
 by_cases q:j=k
 ·subst q
  rw [if_pos rfl]
  by_cases h:j<m
  ·simp [h,upd]
  ·simp [h]
 ·rw [if_neg q]
  simp only [List.getElem?_map]
  by_cases h:k<m
  ·rw [List.getElem?_range h];simp only [Option.map_some,upd];rw [if_neg (by lia)]
  ·rw [List.getElem?_eq_none (by simpa using h)];rfl
theorem bl_set (F:Int->Bool) (nb:Nat) (j:Nat) (v:Bool):(bl F nb).set (j / 8) (.int (eI (upd F j v) ((j / 8:Nat):Int)))=bl (upd F j v) nb:=by
 unfold bl
 apply List.ext_getElem?
 intro k
 rw [List.getElem?_set]
 by_cases q:j / 8=k
 ·subst q
  rw [if_pos rfl]
  by_cases h:j / 8<nb
  ·simp [h]
  ·simp [h]
 ·rw [if_neg q]
  simp only [List.getElem?_map]
  by_cases h:k<nb
  ·rw [List.getElem?_range h];simp only [Option.map_some];rw [tX];lia
  ·rw [List.getElem?_eq_none (by simpa using h)];rfl
theorem bl_get (F:Int->Bool) (nb:Nat) (k:Nat) (h:k<nb):(bl F nb)[k]?=some (.int (eI F k)):=by
 unfold bl;rw [List.getElem?_map,List.getElem?_range h];rfl
theorem flL_get (F:Int->Int) (m:Nat) (k:Nat) (h:k<m):(flL F m)[k]?=some (.int (F k)):=by
 unfold flL;rw [List.getElem?_map,List.getElem?_range h];rfl
theorem bl_len (F:Int->Bool) (nb:Nat):(bl F nb).length=nb:=by simp [bl]
theorem flL_len (F:Int->Int) (nb:Nat):(flL F nb).length=nb:=by simp [flL]
section
variable {σ:Sto} {o ol m:Nat} {F:Int->Bool} {l:Loc} {j:Int}
theorem byte_at (h0:0<=j) (hj:j<m) (h8:m%8=0):(bl F (m / 8))[(j / 8).toNat]?=some (.int (eI F (j / 8))):=by
 have e:=bl_get F (m / 8) (j / 8).toNat (by lia)
 rw [Int.toNat_of_nonneg (Int.ediv_nonneg h0 (by decide))] at e
 exact e
theorem byte_set (h0:0<=j) (v:Bool):(bl F (m / 8)).set (j / 8).toNat (.int (eI (upd F j v) (j / 8)))=bl (upd F j v) (m / 8):=by
 obtain ⟨n,rfl⟩:=Int.eq_ofNat_of_zero_le h0
 exact bl_set F (m / 8) n v
theorem ev_rng (h1:σ.get o=.inst 183 (bfs m ol)) (h0:0<=j) (hj:j<m) (ls:l "self"=some (.ref o)) (li:l "idx"=some (.int j)) :
  orT [(cmpT .Lt (varF "idx") (kF (.int 0))),(cmpT .GtE (varF "idx") (aC 183 "_size" (varF "self")))] l σ=some (false,σ):=
 lO (bD (aB li) rfl (congrArg some (decide_eq_false (Int.not_lt.mpr h0)))) (lO (bD (aB li) (evA (aB ls) h1 rfl) (congrArg some (decide_eq_false (Int.not_le.mpr hj)))) rfl)
theorem qO (h1:σ.get o=.inst 183 (bfs m ol)) (h2:σ.get ol=.list (bl F (m / 8))) (h8:m%8=0) (hm:m<100) (h0:0<=j) (hj:j<m) (ls:l "self"=some (.ref o)) {g:EF} (hg:g l σ=some (.int (j / 8),σ)) :
  idxF (aC 183 "_bitarray" (varF "self")) g l σ=some (.int (eI F (j / 8)),σ):=
 evIdx (evA (aB ls) h1 rfl) hg h2 ⟨Int.ediv_nonneg h0 (by decide),by lia⟩ (byte_at h0 hj h8)
theorem ev_div (li:l "idx"=some (.int j)):binF .FloorDiv (varF "idx") (kF (.int 8)) l σ=some (.int (j / 8),σ):=bU (aB li) rfl rfl
theorem sF (li:l "idx"=some (.int j)):binF .LShift (kF (.int 1)) (binF .Mod (varF "idx") (kF (.int 8))) l σ=some (.int (2 ^ (j%8).toNat),σ):=by
 refine bU rfl (bU (aB li) rfl rfl) ((if_pos ⟨Int.emod_nonneg _ (by decide),?_,by decide⟩).trans (by rw [Int.one_mul]))
 have:=Int.emod_lt_of_pos j (show (0:Int)<8 by decide)
 lia
theorem chk (h1:σ.get o=.inst 183 (bfs m ol)) (h2:σ.get ol=.list (bl F (m / 8))) (h8:m%8=0) (hm:m<100) {j:Int} (h0:0<=j) (hj:j<m):aK [.ref o,.int j] σ=some (.int (b2i (F j)),σ):=by
 have e:=bU (op:=.BitAnd) (qO (l:=aJ ["self","idx"] [.ref o,.int j]) h1 h2 h8 hm h0 hj rfl (ev_div rfl)) (sF rfl) rfl
 have eb:=byte_get F j
 refine fRet rfl (seqN (ifF (ev_rng h1 h0 hj rfl rfl) rfl) (eX ?_))
 cases q:F j with
 | false=>exact iteT (bD e rfl (by rw [eb.mpr q];rfl)) rfl
 | true=>exact iteE (bD e rfl (congrArg some (beq_eq_false_iff_ne.mpr fun z=>by rw [eb.mp z] at q;cases q))) rfl
theorem getit (h1:σ.get o=.inst 183 (bfs m ol)) (h2:σ.get ol=.list (bl F (m / 8))) (h8:m%8=0) (hm:m<100) {j:Int} (h0:0<=j) (hj:j<m):aD [.ref o,.int j] σ=some (.int (b2i (F j)),σ):=
 fRet rfl (eX (cE (aB rfl) h1 rfl (lst1 (aB rfl)) (chk h1 h2 h8 hm h0 hj)))
theorem ev_put (h1:σ.get o=.inst 183 (bfs m ol)) (h2:σ.get ol=.list (bl F (m / 8))) (h8:m%8=0) (hm:m<100) (h0:0<=j) (hj:j<m) {v:Bool} {e:EF} (ls:l "self"=some (.ref o)) (lb:l "b"=some (.int (j / 8)))
  (he:e l σ=some (.int (eI (upd F j v) (j / 8)),σ)):bF e (aC 183 "_bitarray" (varF "self")) (varF "b") l σ=some (.next,l,σ.put ol (.list (bl (upd F j v) (m / 8)))):=
 (stIdx he (evA (aB ls) h1 rfl) (aB lb) h2 ⟨Int.ediv_nonneg h0 (by decide),by lia,by rw [bl_len];lia⟩).trans (by rw [byte_set h0])
theorem setit (h1:σ.get o=.inst 183 (bfs m ol)) (h2:σ.get ol=.list (bl F (m / 8))) (h8:m%8=0) (hm:m<100) {j:Int} (h0:0<=j) (hj:j<m) (v:Bool):aH [.ref o,.int j,.int (b2i v)] σ=some (.none,σ.put ol (.list (bl (upd F j v) (m / 8)))):=by
 let l:=aJ ["self","idx","val"] [.ref o,.int j,.int (b2i v)]
 have hv:orT [(cmpT .Lt (varF "val") (kF (.int 0))),(cmpT .Gt (varF "val") (kF (.int 1)))] l σ=some (false,σ):=by
  cases v<;>exact lO (bD (aB rfl) rfl rfl) (lO (bD (aB rfl) rfl rfl) rfl)
 refine fEnd (l':=l.put "b" (.int (j / 8))) rfl (seqN (ifF hv rfl) (seqN (ifF (ev_rng h1 h0 hj rfl rfl) rfl) (seqN (aT (ev_div rfl)) ?_)))
 have eb:=qO (l:=l.put "b" (.int (j / 8))) (g:=varF "b") h1 h2 h8 hm h0 hj rfl (aB rfl)
 cases v with
 | false=>exact ifF (bD (aB rfl) rfl rfl) (ev_put h1 h2 h8 hm h0 hj rfl rfl (bU eb (evUn (sF rfl) rfl) (by rw [<- sL F j];rfl)))
 | true=>exact ifT (bD (aB rfl) rfl rfl) (ev_put h1 h2 h8 hm h0 hj rfl rfl (bU eb (sF rfl) (by rw [<- byte_or F j];rfl)))
theorem clrit (h1:σ.get o=.inst 183 (bfs m ol)) (h2:σ.get ol=.list (bl F (m / 8))) (h8:m%8=0) (hm:m<100) {j:Int} (h0:0<=j) (hj:j<m):bL [.ref o,.int j] σ=some (.none,σ.put ol (.list (bl (upd F j false) (m / 8)))):=
 fEnd rfl (seqN (ifF (ev_rng h1 h0 hj rfl rfl) rfl) (seqN (aT (ev_div rfl))
  (ev_put h1 h2 h8 hm h0 hj rfl rfl (bU (qO h1 h2 h8 hm h0 hj rfl (aB rfl)) (evUn (sF rfl) rfl) (by rw [<- sL F j];rfl)))))
end
set_option genInjectivity false in
structure View where
 q:Nat
 n:Int
 auto:Bool
 hf:Addr
 i:Nat
 b:Nat
 occ:Int->Bool
 con:Int->Bool
 shf:Int->Bool
 flt:Int->Int
noncomputable def View.m (V:View):Nat:=2 ^ V.q
noncomputable def View.fs (V:View):List (String×Val):=[("_q",.int V.q),("_r",.int (32 - (V.q:Int))),("_size",.int V.m),("_QuotientFilter__mod_size",.int ((V.m:Int) - 1)),("_elements_added",.int V.n),("_auto_resize",.bool V.auto),("_hash_func",.fn V.hf),
 ("_int_type_code",.str (Str.ofString "L")),("_bits_per_elm",.int 32),("_is_occupied",.ref V.b),("_is_continuation",.ref (V.b+3)),("_is_shifted",.ref (V.b+6)),("_filter",.ref (V.b+10))]
noncomputable def qf (σ:Sto) (V:View):Sto:=⟨σ.n,fun k=>
 if k=V.i then .inst 467 V.fs else
 if k=V.b then .inst 183 (bfs V.m (V.b+2)) else if k=V.b+2 then .list (bl V.occ (V.m / 8)) else
 if k=V.b+3 then .inst 183 (bfs V.m (V.b+5)) else if k=V.b+5 then .list (bl V.con (V.m / 8)) else
 if k=V.b+6 then .inst 183 (bfs V.m (V.b+8)) else if k=V.b+8 then .list (bl V.shf (V.m / 8)) else
 if k=V.b+10 then .list (flL V.flt V.m) else σ.get k⟩
structure Good (V:View):Prop where
 lt:V.i<V.b
 q:V.q=3\/V.q=4
theorem Good.m8 {V:View} (h:Good V):V.m%8=0:=by rcases h.q with e | e<;>simp [View.m,e]
theorem Good.m100 {V:View} (h:Good V):V.m<100:=by rcases h.q with e | e<;>simp [View.m,e]
theorem Good.mc {V:View} (h:Good V):V.m=8\/V.m=16:=by rcases h.q with e | e<;>simp [View.m,e]
theorem Good.mpos {V:View} (h:Good V):(0:Int)<V.m:=by have:=h.mc;lia
section
variable {σ:Sto} {V:View}
theorem qf_i:(qf σ V).get V.i=.inst 467 V.fs:=if_pos rfl
theorem ifc {α:Type} {n a b:Nat} {x y:α}:(if n+a=n+b then x else y)=if a=b then x else y:=by
 by_cases h:a=b
 ·rw [if_pos h,if_pos (congrArg _ h)]
 ·rw [if_neg h,if_neg fun q=>h (Nat.add_left_cancel q)]
theorem qf_b (h:Good V) {k:Nat}:(qf σ V).get (V.b+k)=if k=0 then .inst 183 (bfs V.m (V.b+2)) else if k=2 then .list (bl V.occ (V.m / 8)) else
  if k=3 then .inst 183 (bfs V.m (V.b+5)) else if k=5 then .list (bl V.con (V.m / 8)) else if k=6 then .inst 183 (bfs V.m (V.b+8)) else if k=8 then .list (bl V.shf (V.m / 8)) else
  if k=10 then .list (flL V.flt V.m) else σ.get (V.b+k):=by
 refine (if_neg (Nat.ne_of_gt (Nat.lt_add_right k h.lt))).trans ?_
 show (if V.b+k=V.b+0 then _ else _)=_
 simp only [ifc]
theorem qf_o (h:Good V):(qf σ V).get V.b=.inst 183 (bfs V.m (V.b+2)):=qf_b h (k:=0)
theorem qf_ol (h:Good V):(qf σ V).get (V.b+2)=.list (bl V.occ (V.m / 8)):=qf_b h
theorem qf_c (h:Good V):(qf σ V).get (V.b+3)=.inst 183 (bfs V.m (V.b+5)):=qf_b h
theorem qf_cl (h:Good V):(qf σ V).get (V.b+5)=.list (bl V.con (V.m / 8)):=qf_b h
theorem qf_s (h:Good V):(qf σ V).get (V.b+6)=.inst 183 (bfs V.m (V.b+8)):=qf_b h
theorem qf_sl (h:Good V):(qf σ V).get (V.b+8)=.list (bl V.shf (V.m / 8)):=qf_b h
theorem qf_f (h:Good V):(qf σ V).get (V.b+10)=.list (flL V.flt V.m):=qf_b h
noncomputable def own (V:View) (k:Nat):Prop:=k=V.i\/(V.b<=k/\k<=V.b+10)
theorem qF {k:Nat} (h:¬ own V k) {c:Nat} (hc:c<=10):¬ k=V.b+c:=fun e=>h (.inr ⟨by lia,by lia⟩)
theorem qf_at {k:Nat} {i:Nat} {n:Ob} (h:¬ own V k):(if k=V.i then .inst 467 V.fs else
 if k=V.b then .inst 183 (bfs V.m (V.b+2)) else if k=V.b+2 then .list (bl V.occ (V.m / 8)) else
 if k=V.b+3 then .inst 183 (bfs V.m (V.b+5)) else if k=V.b+5 then .list (bl V.con (V.m / 8)) else
 if k=V.b+6 then .inst 183 (bfs V.m (V.b+8)) else if k=V.b+8 then .list (bl V.shf (V.m / 8)) else
 if k=V.b+10 then .list (flL V.flt V.m) else n)=n:=
 (if_neg fun e=>h (.inl e)).trans ((if_neg (qF h (c:=0) (by decide))).trans ((if_neg (qF h (by decide))).trans ((if_neg (qF h (by decide))).trans ((if_neg (qF h (by decide))).trans ((if_neg (qF h (by decide))).trans
  ((if_neg (qF h (by decide))).trans (if_neg (qF h (by decide)))))))))
theorem cY {k:Nat} (h:¬ own V k):(qf σ V).get k=σ.get k:=qf_at (i:=0) h
theorem rN {k:Nat} {o:Ob} (h:¬ own V k):(qf σ V).put k o=qf (σ.put k o) V:=
 congrArg (Sto.mk σ.n) (funext fun j=>by
  by_cases q:j=k
  ·subst q;exact (if_pos rfl).trans ((qf_at (i:=0) h).trans (if_pos rfl)).symm
  ·exact (if_neg q).trans (congrArg (fun x=>_root_.ite (j=V.i) _ (_root_.ite (j=V.b) _ (_root_.ite (j=V.b+2) _ (_root_.ite (j=V.b+3) _ (_root_.ite (j=V.b+5) _ (_root_.ite (j=V.b+6) _ (_root_.ite (j=V.b+8) _ (_root_.ite (j=V.b+10) _ x)))))))) (if_neg q).symm))
theorem mV {o:Ob} (hi:V.i<σ.n) (hb:V.b+10<σ.n):(qf σ V).push o=qf (σ.push o) V:=
 congrArg (Sto.mk (σ.n+1)) (congrArg Sto.get (rN (σ:=σ) (V:=V) (k:=σ.n) (o:=o) fun z=>by rcases z with z | z<;>lia))
theorem put_b (h:Good V) {W:View} {c:Nat} {o:Ob} (hk:∀ k,k≠V.b+c->(qf σ V).get k=(qf σ W).get k) (hc:(qf σ W).get (V.b+c)=o):(qf σ V).put (V.b+c) o=qf σ W:=
 congrArg (Sto.mk σ.n) (funext fun j=>by
  by_cases q:j=V.b+c
  ·subst q;exact (if_pos rfl).trans hc.symm
  ·exact (if_neg q).trans (hk j q))
theorem put_o (h:Good V) {F:Int->Bool}:(qf σ V).put (V.b+2) (.list (bl F (V.m / 8)))=qf σ { V with occ:=F }:=
 put_b h (fun k hk=>congrArg (ite (k=V.i) _) (congrArg (ite (k=V.b) _) ((if_neg hk).trans (if_neg hk).symm))) (qf_ol (V:={ V with occ:=F }) ⟨h.lt,h.q⟩)
theorem put_c (h:Good V) {F:Int->Bool}:(qf σ V).put (V.b+5) (.list (bl F (V.m / 8)))=qf σ { V with con:=F }:=
 put_b h (fun k hk=>congrArg (ite (k=V.i) _) (congrArg (ite (k=V.b) _) (congrArg (ite (k=V.b+2) _) (congrArg (ite (k=V.b+3) _) ((if_neg hk).trans (if_neg hk).symm))))) (qf_cl (V:={ V with con:=F }) ⟨h.lt,h.q⟩)
theorem put_s (h:Good V) {F:Int->Bool}:(qf σ V).put (V.b+8) (.list (bl F (V.m / 8)))=qf σ { V with shf:=F }:=
 put_b h (fun k hk=>congrArg (ite (k=V.i) _) (congrArg (ite (k=V.b) _) (congrArg (ite (k=V.b+2) _) (congrArg (ite (k=V.b+3) _) (congrArg (ite (k=V.b+5) _) (congrArg (ite (k=V.b+6) _) ((if_neg hk).trans (if_neg hk).symm))))))) (qf_sl (V:={ V with shf:=F }) ⟨h.lt,h.q⟩)
theorem put_f (h:Good V) {F:Int->Int}:(qf σ V).put (V.b+10) (.list (flL F V.m))=qf σ { V with flt:=F }:=
 put_b h (fun k hk=>congrArg (ite (k=V.i) _) (congrArg (ite (k=V.b) _) (congrArg (ite (k=V.b+2) _) (congrArg (ite (k=V.b+3) _) (congrArg (ite (k=V.b+5) _) (congrArg (ite (k=V.b+6) _) (congrArg (ite (k=V.b+8) _) ((if_neg hk).trans (if_neg hk).symm)))))))) (qf_f (V:={ V with flt:=F }) ⟨h.lt,h.q⟩)
theorem put_n {n:Int}:(qf σ V).put V.i (.inst 467 ({ V with n:=n }:View).fs)=qf σ { V with n:=n }:=
 congrArg (Sto.mk σ.n) (funext fun j=>by
  by_cases q:j=V.i
  ·exact (if_pos q).trans (if_pos q).symm
  ·exact (if_neg q).trans ((if_neg q).trans (if_neg q).symm))
noncomputable def In (V:View) (j:Int):Prop:=0<=j/\j<V.m
theorem get_o (h:Good V) {j:Int} (hj:In V j):aD [.ref V.b,.int j] (qf σ V)=some (.int (b2i (V.occ j)),qf σ V):=getit (qf_o h) (qf_ol h) h.m8 h.m100 hj.1 hj.2
theorem get_c (h:Good V) {j:Int} (hj:In V j):aD [.ref (V.b+3),.int j] (qf σ V)=some (.int (b2i (V.con j)),qf σ V):=getit (qf_c h) (qf_cl h) h.m8 h.m100 hj.1 hj.2
theorem get_s (h:Good V) {j:Int} (hj:In V j):aD [.ref (V.b+6),.int j] (qf σ V)=some (.int (b2i (V.shf j)),qf σ V):=getit (qf_s h) (qf_sl h) h.m8 h.m100 hj.1 hj.2
theorem chk_o (h:Good V) {j:Int} (hj:In V j):aK [.ref V.b,.int j] (qf σ V)=some (.int (b2i (V.occ j)),qf σ V):=chk (qf_o h) (qf_ol h) h.m8 h.m100 hj.1 hj.2
theorem chk_c (h:Good V) {j:Int} (hj:In V j):aK [.ref (V.b+3),.int j] (qf σ V)=some (.int (b2i (V.con j)),qf σ V):=chk (qf_c h) (qf_cl h) h.m8 h.m100 hj.1 hj.2
theorem chk_s (h:Good V) {j:Int} (hj:In V j):aK [.ref (V.b+6),.int j] (qf σ V)=some (.int (b2i (V.shf j)),qf σ V):=chk (qf_s h) (qf_sl h) h.m8 h.m100 hj.1 hj.2
theorem set_o (h:Good V) {j:Int} (hj:In V j) (v:Bool):aH [.ref V.b,.int j,.int (b2i v)] (qf σ V)=some (.none,qf σ { V with occ:=upd V.occ j v }):=(setit (qf_o h) (qf_ol h) h.m8 h.m100 hj.1 hj.2 v).trans (by rw [put_o h])
theorem set_c (h:Good V) {j:Int} (hj:In V j) (v:Bool):aH [.ref (V.b+3),.int j,.int (b2i v)] (qf σ V)=some (.none,qf σ { V with con:=upd V.con j v }):=(setit (qf_c h) (qf_cl h) h.m8 h.m100 hj.1 hj.2 v).trans (by rw [put_c h])
theorem set_s (h:Good V) {j:Int} (hj:In V j) (v:Bool):aH [.ref (V.b+6),.int j,.int (b2i v)] (qf σ V)=some (.none,qf σ { V with shf:=upd V.shf j v }):=(setit (qf_s h) (qf_sl h) h.m8 h.m100 hj.1 hj.2 v).trans (by rw [put_s h])
theorem clr_o (h:Good V) {j:Int} (hj:In V j):bL [.ref V.b,.int j] (qf σ V)=some (.none,qf σ { V with occ:=upd V.occ j false }):=(clrit (qf_o h) (qf_ol h) h.m8 h.m100 hj.1 hj.2).trans (by rw [put_o h])
theorem clr_c (h:Good V) {j:Int} (hj:In V j):bL [.ref (V.b+3),.int j] (qf σ V)=some (.none,qf σ { V with con:=upd V.con j false }):=(clrit (qf_c h) (qf_cl h) h.m8 h.m100 hj.1 hj.2).trans (by rw [put_c h])
theorem clr_s (h:Good V) {j:Int} (hj:In V j):bL [.ref (V.b+6),.int j] (qf σ V)=some (.none,qf σ { V with shf:=upd V.shf j false }):=(clrit (qf_s h) (qf_sl h) h.m8 h.m100 hj.1 hj.2).trans (by rw [put_s h])
theorem flt_get {V:View} {j:Int} (hj:In V j):(flL V.flt V.m)[j.toNat]?=some (.int (V.flt j)):=by
 have:=flL_get V.flt V.m j.toNat (by have:=hj.1;have:=hj.2;lia)
 rw [this,Int.toNat_of_nonneg hj.1]
theorem flt_set {V:View} {j:Int} (hj:In V j) (v:Int):(flL V.flt V.m).set j.toNat (.int v)=flL (upd V.flt j v) V.m:=by
 have:=flL_set V.flt V.m j.toNat v
 rw [Int.toNat_of_nonneg hj.1] at this
 exact this
theorem b2i_eq0 {b:Bool}:(b2i b=0)=(b=false):=by cases b<;>simp [b2i]
theorem b2i_eq1 {b:Bool}:(b2i b=1)=(b=true):=by cases b<;>simp [b2i]
noncomputable def emp (V:View) (j:Int):Bool:=!V.occ j && !V.con j && !V.shf j
section
variable {l:Loc} {fe ge:EF} {j:Int}
theorem evO (h:Good V) (hs:l "self"=some (.ref V.i)) (hg:ge l (qf σ V)=some (.int j,qf σ V)) (hj:In V j):subF 183 aD (aC 467 "_is_occupied" (varF "self")) ge l (qf σ V)=some (.int (b2i (V.occ j)),qf σ V):=
 evSub (evA (aB hs) qf_i rfl) hg (qf_o h) (get_o h hj)
theorem evC (h:Good V) (hs:l "self"=some (.ref V.i)) (hg:ge l (qf σ V)=some (.int j,qf σ V)) (hj:In V j):subF 183 aD (aC 467 "_is_continuation" (varF "self")) ge l (qf σ V)=some (.int (b2i (V.con j)),qf σ V):=
 evSub (evA (aB hs) qf_i rfl) hg (qf_c h) (get_c h hj)
theorem evS (h:Good V) (hs:l "self"=some (.ref V.i)) (hg:ge l (qf σ V)=some (.int j,qf σ V)) (hj:In V j):subF 183 aD (aC 467 "_is_shifted" (varF "self")) ge l (qf σ V)=some (.int (b2i (V.shf j)),qf σ V):=
 evSub (evA (aB hs) qf_i rfl) hg (qf_s h) (get_s h hj)
end
theorem jD (h:Good V) {j:Int} (hj:In V j):aI [.ref V.i,.int j] (qf σ V)=some (.bool (emp V j),qf σ V):=
 fRet rfl (eX (gZ (bU (bU (evO h rfl (aB rfl) hj) (evC h rfl (aB rfl) hj) rfl) (evS h rfl (aB rfl) hj) rfl) rfl (by
  unfold emp;cases V.occ j<;>cases V.con j<;>cases V.shf j<;>rfl)))
theorem qQ {l:Loc} {j:Int} (h:Good V) {x:String} (hs:l "self"=some (.ref V.i)) (hx:l x=some (.int j)) (hj:In V j):aF 467 "_is_empty_element" aI (varF "self") (aA (varF x) nilL) l (qf σ V)=some (.bool (emp V j),qf σ V):=
 cE (aB hs) qf_i rfl (lst1 (aB hx)) (jD h hj)
end
theorem and_all:∀ n:Fin 40,Builtin.bitAnd ((n.val:Int) - 1) 7=((n.val:Int) - 1)%8/\Builtin.bitAnd ((n.val:Int) - 1) 15=((n.val:Int) - 1)%16:=by decide +kernel
section
variable {σ:Sto} {V:View}
theorem bE (h:Good V) (i:Int):In V (i%V.m):=by
 have:=h.mpos
 exact ⟨Int.emod_nonneg _ (by lia),Int.emod_lt_of_pos _ this⟩
theorem and_m (h:Good V) {x:Int} (h0:-1<=x) (h1:x<39):Builtin.bitAnd x ((V.m:Int) - 1)=x%V.m:=by
 have:=and_all ⟨(x+1).toNat,by lia⟩
 rw [show (((⟨(x+1).toNat,by lia⟩:Fin 40).val:Nat):Int) - 1=x by show ((x+1).toNat:Int) - 1=x;lia] at this
 rcases h.mc with e | e<;>rw [e]
 ·exact this.1
 ·exact this.2
theorem idx39 (h:Good V) (i:Int):i%V.m<20:=by have:=(bE h i).2;have:=h.mc;lia
theorem and_up (h:Good V) (i:Int):Builtin.bitAnd (i%V.m+1) ((V.m:Int) - 1)=(i+1)%V.m:=by
 have:=(bE h i).1
 have:=idx39 h i
 exact (and_m h (by lia) (by lia)).trans (Int.emod_add_emod ..)
theorem and_dn (h:Good V) (i:Int):Builtin.bitAnd (i%V.m - 1) ((V.m:Int) - 1)=(i - 1)%V.m:=by
 have:=(bE h i).1
 have:=idx39 h i
 exact (and_m h (by lia) (by lia)).trans (Int.emod_sub_emod ..)
section
variable {l:Loc} {f g:EF} {r:List EF} {b c:Bool}
theorem evB1 {op:BoolOp} (h:f l σ=some (.bool b,σ)):jW op [f] l σ=some (.bool b,σ):=bnd h rfl
theorem evBA (h:f l σ=some (.bool b,σ)) (h2:jW .And (g :: r) l σ=some (.bool c,σ)):jW .And (f :: g :: r) l σ=some (.bool (b && c),σ):=by
 cases b
 ·exact bnd h rfl
 ·exact bnd h h2
theorem evBO (h:f l σ=some (.bool b,σ)) (h2:jW .Or (g :: r) l σ=some (.bool c,σ)):jW .Or (f :: g :: r) l σ=some (.bool (b || c),σ):=by
 cases b
 ·exact bnd h h2
 ·exact bnd h rfl
theorem tZ:cmpV .Eq (.int (b2i b)) (.int 1)=some b:=by cases b<;>rfl
theorem b_ne1:cmpV .NotEq (.int (b2i b)) (.int 1)=some (!b):=by cases b<;>rfl
theorem qU:cmpV .Eq (.int (b2i b)) (.int 0)=some (!b):=by cases b<;>rfl
end
theorem iK (h:Good V) {j:Int} (hj:In V j):bK [.ref V.i,.int j] (qf σ V)=some (.bool (!V.con j && (V.occ j || V.shf j)),qf σ V):=
 fRet rfl (eX (evBA (gZ (evC h rfl (aB rfl) hj) rfl b_ne1) (evB1 (evBO (gZ (evO h rfl (aB rfl) hj) rfl tZ) (evB1 (gZ (evS h rfl (aB rfl) hj) rfl tZ))))))
theorem fR (h:Good V) {j:Int} (hj:In V j):aL [.ref V.i,.int j] (qf σ V)=some (.bool (V.occ j && !V.con j && !V.shf j),qf σ V):=
 (fRet rfl (eX (evBA (gZ (evO h rfl (aB rfl) hj) rfl tZ) (evBA (gZ (evC h rfl (aB rfl) hj) rfl qU) (evB1 (gZ (evS h rfl (aB rfl) hj) rfl qU)))))).trans (by rw [Bool.and_assoc])
theorem iN (h:Good V) {j:Int} (hj:In V j):aR [.ref V.i,.int j] (qf σ V)=some (.bool (!V.con j && (V.occ j || V.shf j)),qf σ V):=by
 have e1:=lN (cE (l:=aJ ["self","elt"] [.ref V.i,.int j]) (x:="_is_cluster_start") (f:=varF "self") (aB rfl) qf_i rfl (lst1 (f:=varF "elt") (aB rfl)) (fR (σ:=σ) h hj))
 cases q:V.occ j && !V.con j && !V.shf j with
 | true=>
  rw [q] at e1
  rw [Bool.and_eq_true,Bool.and_eq_true] at q
  rw [q.1.1,q.1.2]
  exact fRet rfl (iX (ifT e1 (eX rfl)))
 | false=>
  rw [q] at e1
  exact fRet rfl (seqN (ifF e1 rfl) (eX (bnd (cE (aB rfl) qf_i rfl (lst1 (aB rfl)) (iK h hj)) rfl)))
end
noncomputable def E (V:View) (i:Int):Bool:=emp V (i%V.m)
noncomputable def O (V:View) (i:Int):Bool:=V.occ (i%V.m)
noncomputable def Cn (V:View) (i:Int):Bool:=V.con (i%V.m)
noncomputable def Sh (V:View) (i:Int):Bool:=V.shf (i%V.m)
noncomputable def Fl' (V:View) (i:Int):Int:=V.flt (i%V.m)
structure LayW (V:View) (H:Int->Int):Prop where
 per:∀ i,H (i+V.m)=H i+V.m
 le:∀ i,H i<=i
 mono1:∀ i,H i<=H (i+1)
 hole:∀ i,E V i=true->H i=i/\H (i+1)=i+1
 shf:∀ i,Sh V i=true ↔ H i<i
 con:∀ i,Cn V i=true ↔ H i=H (i - 1)
 occ:∀ k,O V k=true ↔ ∃ j,E V j=false/\H j=k
 sorted:∀ i,Cn V i=true->Fl' V (i - 1)<Fl' V i
 start:∃ e,H e=e
structure Lay (V:View) (H:Int->Int):Prop extends LayW V H where
 ex:∃ e,E V e=true
theorem LayW.strong {V:View} {H:Int->Int} (L:LayW V H) (ex:∃ e,E V e=true):Lay V H:={ L with ex:=ex }
section
variable {V:View} {H:Int->Int}
theorem dK (V:View) (i:Int):E V i=(!O V i && !Cn V i && !Sh V i):=rfl
theorem LayW.mono (L:LayW V H) {i j:Int} (hij:i<=j):H i<=H j:=by
 obtain ⟨n,rfl⟩:∃ n:Nat,j=i+n:=⟨(j - i).toNat,by lia⟩
 clear hij
 induction n with
 | zero=>simp
 | succ n ih=>
  have:=L.mono1 (i+n)
  have e:i+((n+1:Nat):Int)=i+n+1:=by lia
  rw [e];lia
theorem mY (V:View) (i:Int):(i+V.m)%V.m=i%V.m:=Int.add_emod_right ..
theorem nW (V:View) (i:Int):E V (i+V.m)=E V i:=by unfold E;rw [mY]
theorem cU (V:View) (i:Int) (k:Int):E V (i+V.m*k)=E V i:=by unfold E;rw [Int.add_mul_emod_self_left]
theorem Lay.hole_below (L:Lay V H) (g:Good V) (i:Int):∃ e,E V e=true/\e<=i/\i<e+V.m:=by
 obtain ⟨e,he⟩:=L.ex
 have hm:=g.mpos
 refine ⟨e+V.m*((i - e) / V.m),by rw [cU];exact he,?_,?_⟩
 ·have:=Int.emod_nonneg (i - e) (show (V.m:Int)≠0 by lia)
  have:=Int.emod_add_mul_ediv (i - e) V.m
  lia
 ·have:=Int.emod_lt_of_pos (i - e) hm
  have:=Int.emod_add_mul_ediv (i - e) V.m
  lia
theorem fW {m:Int} {H:Int->Int} (per:∀ i,H (i+m)=H i+m) (i t:Int):H (i+m*t)=H i+m*t:=by
 have pos:∀ (n:Nat) (i:Int),H (i+m*n)=H i+m*n:=by
  intro n
  induction n with
  | zero=>intro i;simp
  | succ n ih=>
   intro i
   have e:i+m*((n+1:Nat):Int)=(i+m*n)+m:=by rw [Int.natCast_succ,Int.mul_add];lia
   rw [e,per,ih]
   rw [Int.natCast_succ,Int.mul_add];lia
 by_cases h:0<=t
 ·obtain ⟨n,rfl⟩:=Int.eq_ofNat_of_zero_le h
  exact pos n i
 ·obtain ⟨n,hn⟩:=Int.eq_ofNat_of_zero_le (show 0<=-t by lia)
  have:=pos n (i+m*t)
  have e:i+m*t+m*(n:Int)=i:=by rw [<- hn,Int.mul_neg];lia
  rw [e] at this
  have e2:m*(n:Int)=-(m*t):=by rw [<- hn,Int.mul_neg]
  lia
theorem LayW.start_below (L:LayW V H) (g:Good V) (i:Int):∃ e,H e=e/\e<=i/\i<e+V.m:=by
 obtain ⟨e,he⟩:=L.start
 have hm:=g.mpos
 refine ⟨e+V.m*((i - e) / V.m),by rw [fW L.per,he],?_,?_⟩
 ·have:=Int.emod_nonneg (i - e) (show (V.m:Int)≠0 by lia)
  have:=Int.emod_add_mul_ediv (i - e) V.m
  lia
 ·have:=Int.emod_lt_of_pos (i - e) hm
  have:=Int.emod_add_mul_ediv (i - e) V.m
  lia
theorem LayW.gt (L:LayW V H) (g:Good V) (i:Int):i - V.m<H i:=by
 obtain ⟨e,he,h1,h2⟩:=L.start_below g i
 have:=L.mono h1
 lia
theorem LayW.start_sh (L:LayW V H) {e:Int} (he:H e=e):Sh V e=false:=by
 cases q:Sh V e with
 | false=>rfl
 | true=>have:=(L.shf e).mp q;lia
theorem LayW.between (L:LayW V H) {j k:Int} (h1:H (j - 1)<k) (h2:k<H j):O V k=false:=by
 cases q:O V k with
 | false=>rfl
 | true=>
  obtain ⟨i,hi,e⟩:=(L.occ k).mp q
  by_cases z:i<=j - 1
  ·have:=L.mono z;lia
  ·have:=L.mono (show j<=i by lia);lia
theorem LayW.ne_occ (L:LayW V H) {j:Int} (h:E V j=false):O V (H j)=true:=(L.occ _).mpr ⟨j,h,rfl⟩
theorem LayW.sh_ne (L:LayW V H) {j:Int} (h:Sh V j=true):E V j=false:=by rw [dK,h];simp
theorem LayW.same_run (L:LayW V H):∀ (n:Nat) (i:Int),H (i+(n+1:Nat))=H i->Fl' V i<Fl' V (i+(n+1:Nat)):=by
 intro n
 induction n with
 | zero=>
  intro i h
  have e:i+((0+1:Nat):Int)=i+1:=by lia
  rw [e] at h |-
  have:=L.sorted (i+1) ((L.con _).mpr (by rw [h];congr 1;lia))
  rwa [show i+1 - 1=i by lia] at this
 | succ n ih=>
  intro i h
  have e:i+((n+1+1:Nat):Int)=i+(n+1:Nat)+1:=by lia
  rw [e] at h |-
  have h1:=L.mono1 (i+(n+1:Nat))
  have h2:=L.mono (show i<=i+(n+1:Nat) by lia)
  have h3:H (i+(n+1:Nat))=H i:=by lia
  have:=L.sorted (i+(n+1:Nat)+1) ((L.con _).mpr (by rw [h,<- h3];congr 1;lia))
  rw [show i+((n+1:Nat):Int)+1 - 1=i+(n+1:Nat) by lia] at this
  exact Int.lt_trans (ih i h3) this
theorem LayW.run_lt (L:LayW V H) {i j:Int} (hij:i<j) (h:H i=H j):Fl' V i<Fl' V j:=by
 obtain ⟨n,rfl⟩:∃ n:Nat,j=i+(n+1:Nat):=⟨(j - i - 1).toNat,by lia⟩
 exact L.same_run n i h.symm
noncomputable def cnt (P:Int->Bool):Nat->Int->Int
 | 0,_=>0
 | n+1,a=>b2i (P a)+cnt P n (a+1)
theorem tT (P:Int->Bool) (n:Nat):∀ a,0<=cnt P n a:=by
 induction n with
 | zero=>exact fun _=>Int.le_refl _
 | succ n ih=>
  intro a
  have:=ih (a+1)
  show 0<=(if P a=true then (1:Int) else 0)+cnt P n (a+1)
  by_cases q:P a=true
  ·rw [if_pos q];lia
  ·rw [if_neg q];lia
theorem cnt_skip (P:Int->Bool) (k n:Nat):∀ (a:Int),(∀ i,a<=i->i<a+k->P i=false)->cnt P (k+n) a=cnt P n (a+k):=by
 induction k with
 | zero=>exact fun a _=>by rw [Nat.zero_add];exact congrArg (cnt P n) (Int.add_zero a).symm
 | succ k ih=>
  intro a h
  have e:k+1+n=(k+n)+1:=by lia
  rw [e]
  show b2i (P a)+cnt P (k+n) (a+1)=_
  rw [h a (by lia) (by lia),ih (a+1) fun i h1 h2=>h i (by lia) (by lia)]
  have e2:a+1+(k:Int)=a+((k+1:Nat):Int):=by lia
  rw [e2];exact Int.zero_add _
noncomputable def CN (P:Int->Bool) (a b:Int):Int:=cnt P (b - a).toNat a
theorem CN_nonneg (P:Int->Bool) (a b:Int):0<=CN P a b:=tT ..
theorem rB (P:Int->Bool) {a b c:Int} (hab:a<=b) (hbc:b<=c) (h:∀ i,a<=i->i<b->P i=false):CN P a c=CN P b c:=by
 unfold CN
 have e:(c - a).toNat=(b - a).toNat+(c - b).toNat:=by lia
 rw [e,cnt_skip P _ _ a fun i h1 h2=>h i h1 (by lia)]
 congr 1;lia
theorem CN_step (P:Int->Bool) {a b:Int} (h:a<b):CN P a b=b2i (P a)+CN P (a+1) b:=by
 unfold CN
 have e:(b - a).toNat=(b - (a+1)).toNat+1:=by lia
 rw [e];rfl
theorem CN_nil (P:Int->Bool) (a:Int):CN P a a=0:=by unfold CN;rw [Int.sub_self];rfl
end
theorem sS:b2i true=1:=rfl
theorem b2i_false:b2i false=0:=rfl
theorem iA {b:SF} {n:Nat} {l:Loc} {σ:Sto}:bG (valT (kF (.bool true))) b (n+1) l σ=(b l σ).bind fun r=>match r.1 with
   | .next | .cont=>bG (valT (kF (.bool true))) b n r.2.1 r.2.2
   | .brk=>some (.next,r.2.1,r.2.2)
   | .ret v=>some (.ret v,r.2.1,r.2.2):=rfl
section
variable {σ:Sto} {V:View} {H:Int->Int}
theorem bP (h:Good V) {i j:Int} (hm:i%V.m=j%V.m) (h1:i - V.m<j) (h2:j<i+V.m):i=j:=by
 have e1:=Int.emod_add_mul_ediv i V.m
 have e2:=Int.emod_add_mul_ediv j V.m
 have hp:=h.mpos
 rcases h.mc with e | e<;>rw [e] at e1 e2 hm h1 h2<;>lia
noncomputable def gb1:SF:=seqB (ifS (orT [(cmpT .Eq (varF "j") (varF "quotient")),(cmpT .Eq (subF 183 aD (aC 467 "_is_occupied" (varF "self")) (varF "j")) (kF (.int 1)))]) (augN .Add "cnts" (kF (.int 1))) nilB)
 (ifS (cmpT .Eq (subF 183 aD (aC 467 "_is_shifted" (varF "self")) (varF "j")) (kF (.int 1))) (setF "j" (binF .BitAnd (binF .Sub (varF "j") (kF (.int 1))) (aC 467 "_QuotientFilter__mod_size" (varF "self")))) brkS)
noncomputable def gb2:SF:=seqB (ifS (cmpT .Eq (subF 183 aD (aC 467 "_is_continuation" (varF "self")) (varF "j")) (kF (.int 0))) (seqB (ifS (cmpT .Eq (varF "cnts") (kF (.int 1))) brkS nilB)
 (augN .Sub "cnts" (kF (.int 1)))) nilB)
 (setF "j" (binF .BitAnd (binF .Add (varF "j") (kF (.int 1))) (aC 467 "_QuotientFilter__mod_size" (varF "self"))))
structure GL (V:View) (Q j c:Int) (l:Loc):Prop where
 self:l "self"=some (.ref V.i)
 q:l "quotient"=some (.int (Q%V.m))
 j:l "j"=some (.int (j%V.m))
 c:l "cnts"=some (.int c)
section
variable {l:Loc} {ge:EF} {i j:Int}
theorem evF (h:Good V) (hs:l "self"=some (.ref V.i)) (hg:ge l (qf σ V)=some (.int j,qf σ V)) (hj:In V j):idxF (aC 467 "_filter" (varF "self")) ge l (qf σ V)=some (.int (V.flt j),qf σ V):=
 evIdx (evA (aB hs) qf_i rfl) hg (qf_f h) ⟨hj.1,by have:=hj.2;have:=h.m100;lia⟩ (flt_get hj)
theorem evM (hs:l "self"=some (.ref V.i)):aC 467 "_QuotientFilter__mod_size" (varF "self") l (qf σ V)=some (.int ((V.m:Int) - 1),qf σ V):=evA (aB hs) qf_i rfl
theorem evUp (h:Good V) {x:String} (hs:l "self"=some (.ref V.i)) (hx:l x=some (.int (i%V.m))) :
  binF .BitAnd (binF .Add (varF x) (kF (.int 1))) (aC 467 "_QuotientFilter__mod_size" (varF "self")) l (qf σ V)=some (.int ((i+1)%V.m),qf σ V):=
 bU (bU (aB hx) rfl rfl) (evM hs) (congrArg (fun z=>some (Val.int z)) (and_up h i))
theorem evDn (h:Good V) {x:String} (hs:l "self"=some (.ref V.i)) (hx:l x=some (.int (i%V.m))) :
  binF .BitAnd (binF .Sub (varF x) (kF (.int 1))) (aC 467 "_QuotientFilter__mod_size" (varF "self")) l (qf σ V)=some (.int ((i - 1)%V.m),qf σ V):=
 bU (bU (aB hx) rfl rfl) (evM hs) (congrArg (fun z=>some (Val.int z)) (and_dn h i))
theorem qP {τ:Sto} {s t:TF} {b c:Bool} (h1:s l τ=some (b,τ)) (h2:t l τ=some (c,τ)):orT [s,t] l τ=some (b || c,τ):=by
 cases b
 ·cases c<;>exact lO h1 (bnd h2 rfl)
 ·exact sI h1
end
theorem gb1_step (h:Good V) {Q j c:Int} {l:Loc} (l':GL V Q j c l):∃ l1,GL V Q (if Sh V j=true then j - 1 else j) (if j%V.m=Q%V.m\/O V j=true then c+1 else c) l1/\
  gb1 l (qf σ V)=some (if Sh V j=true then .next else .brk,l1,qf σ V):=by
 have gi:=bE h j
 have t:=qP (bD (op:=.Eq) (aB (σ:=qf σ V) l'.j) (aB l'.q) rfl) (bD (op:=.Eq) (evO (σ:=σ) h l'.self (aB l'.j) gi) (g:=kF (.int 1)) rfl tZ)
 have:∃ l1,GL V Q j (if j%V.m=Q%V.m\/O V j=true then c+1 else c) l1/\ifS (orT [(cmpT .Eq (varF "j") (varF "quotient")),(cmpT .Eq (subF 183 aD (aC 467 "_is_occupied" (varF "self")) (varF "j")) (kF (.int 1)))]) (augN .Add "cnts" (kF (.int 1))) nilB l (qf σ V)=some (.next,l1,qf σ V):=by
  by_cases z:j%V.m=Q%V.m\/O V j=true
  ·rw [if_pos z]
   have z':(j%V.m == Q%V.m || V.occ (j%V.m))=true:=by rw [Bool.or_eq_true,beq_iff_eq];exact z
   rw [z'] at t
   exact ⟨l.put "cnts" (.int (c+1)),⟨l'.self,l'.q,l'.j,rfl⟩,ifT t (stAug l'.c rfl rfl)⟩
  ·rw [if_neg z]
   have z':(j%V.m == Q%V.m || V.occ (j%V.m))=false:=by rw [<- Bool.not_eq_true,Bool.or_eq_true,beq_iff_eq];exact z
   rw [z'] at t
   exact ⟨l,l',ifF t rfl⟩
 obtain ⟨l1,g,e⟩:=this
 have hs:=bD (evS (σ:=σ) h g.self (aB g.j) gi) (g:=kF (.int 1)) rfl tZ
 cases q:Sh V j with
 | false=>exact ⟨l1,g,seqN e (ifF (hs.trans (by rw [show V.shf (j%V.m)=false from q])) rfl)⟩
 | true=>exact ⟨l1.put "j" (.int ((j - 1)%V.m)),⟨g.self,g.q,rfl,g.c⟩,seqN e (ifT (hs.trans (by rw [show V.shf (j%V.m)=true from q])) (aT (evDn h g.self g.j)))⟩
theorem gb2_step (h:Good V) {Q j c:Int} {l:Loc} (l':GL V Q j c l) :
  (Cn V j=false->c=1->∃ l1,GL V Q j c l1/\gb2 l (qf σ V)=some (.brk,l1,qf σ V))/\
  ((Cn V j=true\/c≠1)->∃ l1,GL V Q (j+1) (if Cn V j=true then c else c - 1) l1/\gb2 l (qf σ V)=some (.next,l1,qf σ V)):=by
 have hs:=bD (evC (σ:=σ) h l'.self (aB l'.j) (bE h j)) (g:=kF (.int 0)) rfl qU
 have hc:∀ {b},(c == 1)=b->cmpT .Eq (varF "cnts") (kF (.int 1)) l (qf σ V)=some (b,qf σ V):=fun q=>bD (aB l'.c) rfl (congrArg some q)
 refine ⟨fun q1 q2=>⟨l,l',?_⟩,fun q=>?_⟩
 ·rw [show V.con (j%V.m)=false from q1] at hs
  exact kN (ifT hs (kN (ifT (hc (beq_iff_eq.mpr q2)) rfl)))
 ·cases q1:Cn V j with
  | false=>
   have q2:c≠1:=q.elim (fun q=>by rw [q1] at q;cases q) id
   rw [show V.con (j%V.m)=false from q1] at hs
   exact ⟨(l.put "cnts" (.int (c - 1))).put "j" (.int ((j+1)%V.m)),⟨l'.self,l'.q,rfl,rfl⟩,seqN (ifT hs (seqN (ifF (hc (beq_eq_false_iff_ne.mpr q2)) rfl) (stAug l'.c rfl rfl))) (aT (evUp h (i:=j) l'.self l'.j))⟩
  | true=>
   rw [show V.con (j%V.m)=true from q1] at hs
   exact ⟨l.put "j" (.int ((j+1)%V.m)),⟨l'.self,l'.q,rfl,l'.c⟩,seqN (ifF hs rfl) (aT (evUp h l'.self l'.j))⟩
theorem gsi_loop1 (h:Good V) (Q:Int) (e:Int) (hse:Sh V e=false) (heQ:Q<e+V.m):∀ (n:Nat) (fuel:Nat) (j c:Int) (l:Loc),e<=j->j<=Q->(∀ k,j<k->k<=Q->Sh V k=true)->
  c=(if j=Q then 0 else 1+CN (O V) (j+1) Q)->(j - e).toNat=n->n<fuel->GL V Q j c l->
  ∃ a l',bG (valT (kF (.bool true))) gb1 fuel l (qf σ V)=some (.next,l',qf σ V)/\
   e<=a/\a<=Q/\Sh V a=false/\(∀ k,a<k->k<=Q->Sh V k=true)/\GL V Q a (1+CN (O V) a Q) l':=by
 refine meas fun n ih=>?_
 all_goals
  intro fuel j c l h1 h2 h3 hc hn hf hl
  obtain ⟨f,rfl⟩:∃ f,fuel=f+1:=⟨fuel - 1,by lia⟩
  obtain ⟨l1,hl1,hb⟩:=gb1_step (σ:=σ) h hl
  have hcnt:(if j%V.m=Q%V.m\/O V j=true then c+1 else c)=1+CN (O V) j Q:=by
   by_cases z:j=Q
   ·subst z
    rw [if_pos (.inl rfl),hc,if_pos rfl,CN_nil];rfl
   ·have hz:¬ j%V.m=Q%V.m:=fun q=>z (bP h q (by lia) (by lia))
    rw [hc,if_neg z,CN_step (O V) (show j<Q by lia)]
    cases q:O V j
    ·rw [if_neg (by simp [hz]),b2i_false];lia
    ·rw [if_pos (.inr rfl),sS];lia
  rw [hcnt] at hl1
  rw [iA,hb]
  cases q:Sh V j with
  | false=>
   rw [q] at hl1
   exact ⟨j,l1,rfl,h1,h2,q,h3,hl1⟩
  | true=>
   have hje:j≠e:=fun z=>by rw [z,hse] at q;cases q
   rw [q] at hl1
   obtain ⟨n,rfl⟩:∃ m,n=m+1:=⟨n - 1,by lia⟩
   replace ih:=ih n rfl
   all_goals
    show ∃ a l',bG _ _ f l1 (qf σ V)=_/\_
    exact ih f (j - 1) _ l1 (by lia) (by lia) (fun k k1 k2=>if z:k=j then (by rw [z];exact q) else h3 k (by lia) k2) (by rw [if_neg (by lia),show j - 1+1=j by lia]) (by lia) (by lia) hl1
theorem gsi_loop2 (h:Good V) (L:LayW V H) (Q a:Int) (haQ:a<=Q) (hne:∀ k,a<=k->k<=Q->E V k=false):∀ (n:Nat) (fuel:Nat) (j c:Int) (l:Loc),a<=j->H (j - 1)<Q->
  c=1+CN (O V) (H (j - 1)+1) Q->(Q+V.m - j).toNat=n->n<fuel->GL V Q j c l->
  ∃ J c' l',bG (valT (kF (.bool true))) gb2 fuel l (qf σ V)=some (.next,l',qf σ V)/\H (J - 1)<Q/\Q<=H J/\a<=J/\GL V Q J c' l':=by
 refine meas fun n ih=>?_
 all_goals
  intro fuel j c l h1 h2 hc hn hf hl
  obtain ⟨f,rfl⟩:∃ f,fuel=f+1:=⟨fuel - 1,by lia⟩
  obtain ⟨hbrk,hnext⟩:=gb2_step (σ:=σ) h hl
  have hm1:=L.mono1 (j - 1)
  rw [show j - 1+1=j by lia] at hm1
  by_cases hJ:Q<=H j
  ·have hC:Cn V j=false:=by
    cases q:Cn V j with
    | false=>rfl
    | true=>have:=(L.con j).mp q;lia
   have hc1:c=1:=by
    rw [hc,rB (O V) (b:=Q) (by lia) (Int.le_refl _) fun i i1 i2=>L.between (j:=j) (by lia) (by lia),CN_nil];rfl
   obtain ⟨l1,hl1,hb⟩:=hbrk hC hc1
   rw [iA,hb]
   exact ⟨j,_,l1,rfl,h2,hJ,h1,hl1⟩
  ·have hjE:E V j=false:=by
    cases q:E V j with
    | false=>rfl
    | true=>have:=(L.hole j q).1;rw [hne j h1 (by lia)] at q;cases q
   have hgt:=L.gt h j
   have key:(Cn V j=true\/c≠1)/\(if Cn V j=true then c else c - 1)=1+CN (O V) (H (j+1 - 1)+1) Q:=by
    rw [show j+1 - 1=j by lia]
    cases q:Cn V j with
    | true=>have:=(L.con j).mp q;exact ⟨.inl rfl,by rw [if_pos rfl,hc,this]⟩
    | false=>
     have hne':H j≠H (j - 1):=fun z=>by rw [(L.con j).mpr z] at q;cases q
     have e1:CN (O V) (H (j - 1)+1) Q=1+CN (O V) (H j+1) Q:=by
      rw [rB (O V) (b:=H j) (by lia) (by lia) fun i i1 i2=>L.between (j:=j) (by lia) (by lia),CN_step (O V) (show H j<Q by lia),L.ne_occ hjE,sS]
     have:=CN_nonneg (O V) (H j+1) Q
     exact ⟨.inr (by lia),by rw [if_neg (by decide)];lia⟩
   obtain ⟨l1,hl1,hb⟩:=hnext key.1
   rw [key.2] at hl1
   rw [iA,hb]
   obtain ⟨n,rfl⟩:∃ m,n=m+1:=⟨n - 1,by lia⟩
   replace ih:=ih n rfl
   all_goals
    show ∃ J c' l',bG _ _ f l1 (qf σ V)=_/\_
    exact ih f (j+1) _ l1 (by lia) (by rw [show j+1 - 1=j by lia];lia) rfl (by lia) (by lia) hl1
theorem sC (h:Good V) (L:LayW V H) {Q:Int} (hQ:In V Q):∃ J,bY [.ref V.i,.int Q] (qf σ V)=some (.int (J%V.m),qf σ V)/\H (J - 1)<Q/\Q<=H J:=by
 have hmod:Q%V.m=Q:=Int.emod_eq_of_lt hQ.1 hQ.2
 have hemp:=jD (σ:=σ) h hQ
 cases q:emp V Q with
 | true=>
  have hE:E V Q=true:=by unfold E;rw [hmod];exact q
  have h1:=(L.hole Q hE).1
  have h2:=L.le (Q - 1)
  refine ⟨Q,?_,by lia,by lia⟩
  rw [q] at hemp
  rw [hmod]
  exact fRet rfl (iX (ifT (lN (cE (aB rfl) qf_i rfl (lst1 (aB rfl)) hemp)) (eX (aB rfl))))
 | false=>
  have hE:E V Q=false:=by unfold E;rw [hmod];exact q
  obtain ⟨e,he,he1,he2⟩:=L.start_below h Q
  rw [q] at hemp
  have hl0:GL V Q Q 0 (((aJ ["self","quotient"] [.ref V.i,.int Q]).put "j" (.int Q)).put "cnts" (.int 0)):=⟨rfl,by rw [hmod];rfl,by rw [hmod];rfl,rfl⟩
  obtain ⟨a,l1,w1,a1,a2,a3,a4,g1⟩:=gsi_loop1 (σ:=σ) h Q e (L.start_sh he) he2 (Q - e).toNat 100 Q 0 _ he1 (Int.le_refl _) (fun k k1 k2=>absurd k1 (by lia)) (by rw [if_pos rfl]) rfl (by have:=h.m100;lia) hl0
  have hne:∀ k,a<=k->k<=Q->E V k=false:=by
   intro k k1 k2
   by_cases z:k=a
   ·subst z
    by_cases z2:k=Q
    ·rw [z2];exact hE
    ·cases q3:E V k with
     | false=>rfl
     | true=>
      have:=(L.hole k q3).2
      have:=(L.shf (k+1)).mp (a4 (k+1) (by lia) (by lia))
      lia
   ·exact L.sh_ne (a4 k (by lia) k2)
  have hHa:H a=a:=by
   have:=L.le a
   cases Int.lt_or_eq_of_le this with
   | inl z=>rw [(L.shf a).mpr z] at a3;cases a3
   | inr z=>exact z
  have hHa1:=L.le (a - 1)
  have hc:1+CN (O V) a Q=1+CN (O V) (H (a - 1)+1) Q:=by
   rw [rB (O V) (a:=H (a - 1)+1) (b:=a) (by lia) a2 fun i i1 i2=>L.between (j:=a) (by lia) (by lia)]
  rw [hc] at g1
  obtain ⟨J,c',l2,w2,b1,b2,b3,g2⟩:=gsi_loop2 (σ:=σ) h L Q a a2 hne (Q+V.m - a).toNat 100 a _ l1 (Int.le_refl _) (by lia) rfl rfl (by have:=h.mc;lia) g1
  exact ⟨J,fRet rfl (seqN (ifF (lN (cE (aB rfl) qf_i rfl (lst1 (aB rfl)) hemp)) rfl) (seqN (aT (aB rfl)) (seqN (aT rfl) (seqN w1 (seqN w2 (eX (aB g2.j))))))),b1,b2⟩
end
section
variable {σ:Sto} {V:View} {H:Int->Int}
theorem idx_f (h:Good V) {j:Int} (hj:In V j):(0<=j/\j<4611686018427387904):=⟨hj.1,by have:=hj.2;have:=h.m100;lia⟩
noncomputable def cT:TF:=cmpT .Is (aF 467 "_is_empty_element" aI (varF "self") (aA (varF "start_idx") nilL)) (kF (.bool false))
noncomputable def cb1:SF:=ifS (cmpT .Eq (subF 183 aD (aC 467 "_is_continuation" (varF "self")) (varF "start_idx")) (kF (.int 0))) (augN .Add "starts" (kF (.int 1))) nilB
noncomputable def cb2:SF:=(seqB (ifS (orT [(cmpT .Eq (varF "starts") (kF (.int 2))),(cmpT .Gt (idxF (aC 467 "_filter" (varF "self")) (varF "start_idx")) (varF "r"))]) brkS nilB)
 (seqB (ifS (cmpT .Eq (idxF (aC 467 "_filter" (varF "self")) (varF "start_idx")) (varF "r")) (retS (varF "start_idx")) nilB)
 (setF "start_idx" (binF .BitAnd (binF .Add (varF "start_idx") (kF (.int 1))) (aC 467 "_QuotientFilter__mod_size" (varF "self"))))))
noncomputable def cb:SF:=seqB cb1 cb2
theorem seq_next {f g:SF} {l l':Loc} {σ σ':Sto} (h:f l σ=some (.next,l',σ')):seqB f g l σ=g l' σ':=by unfold seqB;rw [h];rfl
structure CL (V:View) (j s r:Int) (l:Loc):Prop where
 self:l "self"=some (.ref V.i)
 r:l "r"=some (.int r)
 j:l "start_idx"=some (.int (j%V.m))
 s:l "starts"=some (.int s)
theorem cT_step (h:Good V) {j s r:Int} {l:Loc} (c:CL V j s r l):cT l (qf σ V)=some (!E V j,qf σ V):=
 bD (qQ h c.self c.j (bE h j)) rfl (by show cmpB .Is (E V j) false=_;cases E V j<;>rfl)
theorem cb1_step (h:Good V) {j s r:Int} {l:Loc} (c:CL V j s r l):∃ l1,CL V j (if Cn V j=true then s else s+1) r l1/\cb1 l (qf σ V)=some (.next,l1,qf σ V):=by
 have t:=bD (evC (σ:=σ) h c.self (aB c.j) (bE h j)) (g:=kF (.int 0)) rfl qU
 cases q:Cn V j with
 | true=>exact ⟨l,c,ifF (t.trans (by rw [show V.con (j%V.m)=true from q];rfl)) rfl⟩
 | false=>exact ⟨l.put "starts" (.int (s+1)),⟨c.self,c.r,c.j,rfl⟩,ifT (t.trans (by rw [show V.con (j%V.m)=false from q];rfl)) (stAug c.s rfl rfl)⟩
theorem cb2_step (h:Good V) {j s r:Int} {l:Loc} (c:CL V j s r l) :
  ((s=2\/r<Fl' V j)->cb2 l (qf σ V)=some (.brk,l,qf σ V))/\(s≠2->Fl' V j=r->cb2 l (qf σ V)=some (.ret (.int (j%V.m)),l,qf σ V))/\
  (s≠2->Fl' V j<r->∃ l1,CL V (j+1) s r l1/\cb2 l (qf σ V)=some (.next,l1,qf σ V)):=by
 have t1:∀ {b},(s == 2)=b->cmpT .Eq (varF "starts") (kF (.int 2)) l (qf σ V)=some (b,qf σ V):=fun q=>bD (aB c.s) rfl (congrArg some q)
 have f:=evF (σ:=σ) h c.self (aB c.j) (bE h j)
 have t2:∀ {b},decide (r<Fl' V j)=b->cmpT .Gt (idxF (aC 467 "_filter" (varF "self")) (varF "start_idx")) (varF "r") l (qf σ V)=some (b,qf σ V):=fun q=>bD f (aB c.r) (congrArg some q)
 have t3:∀ {b},(Fl' V j == r)=b->cmpT .Eq (idxF (aC 467 "_filter" (varF "self")) (varF "start_idx")) (varF "r") l (qf σ V)=some (b,qf σ V):=fun q=>bD f (aB c.r) (congrArg some q)
 refine ⟨fun z=>?_,fun z1 z2=>?_,fun z1 z2=>?_⟩
 ·refine kN (ifT ((qP (t1 rfl) (t2 rfl)).trans ?_) rfl)
  rw [show (s == 2 || decide (r<Fl' V j))=true by rw [Bool.or_eq_true,beq_iff_eq,decide_eq_true_iff];exact z]
 ·exact seqN (ifF (qP (t1 (beq_eq_false_iff_ne.mpr z1)) (t2 (decide_eq_false (by lia)))) rfl) (iX (ifT (t3 (beq_iff_eq.mpr z2)) (eX (aB c.j))))
 ·exact ⟨l.put "start_idx" (.int ((j+1)%V.m)),⟨c.self,c.r,rfl,c.s⟩,seqN (ifF (qP (t1 (beq_eq_false_iff_ne.mpr z1)) (t2 (decide_eq_false (by lia)))) rfl)
   (seqN (ifF (t3 (beq_eq_false_iff_ne.mpr (Int.ne_of_lt z2))) rfl) (aT (evUp h c.self c.j)))⟩
theorem iB {t:TF} {b:SF} {n:Nat} {l:Loc} {σ:Sto} {c:Bool} (h:t l σ=some (c,σ)):bG t b (n+1) l σ=if c=true then (b l σ).bind fun r=>match r.1 with
   | .next | .cont=>bG t b n r.2.1 r.2.2
   | .brk=>some (.next,r.2.1,r.2.2)
   | .ret v=>some (.ret v,r.2.1,r.2.2) else some (.next,l,σ):=by
 show (t l σ).bind _=_
 rw [h];rfl
inductive Con (V:View) (H:Int->Int) (Q r:Int) (f:Loc->Fl->Prop):Prop
 | no (l':Loc) (h:∀ i,E V i=false->H i=Q->Fl' V i≠r) (e:f l' .next)
 | yes (i:Int) (l':Loc) (h1:E V i=false) (h2:H i=Q) (h3:Fl' V i=r) (e:f l' (.ret (.int (i%V.m))))
theorem con_loop (h:Good V) (L:LayW V H) (Q r J:Int) (hJ1:H (J - 1)<Q) (hJ:H J=Q):∀ (n fuel:Nat) (j:Int) (l:Loc),J<=j->(∀ k,J<=k->k<j->H k=Q/\Fl' V k<r/\E V k=false)->(J+V.m - j).toNat=n->n<fuel->
  CL V j (if j=J then 0 else 1) r l->Con V H Q r fun l' fl=>bG cT cb fuel l (qf σ V)=some (fl,l',qf σ V):=by
 refine meas fun n ih fuel j l h1 h2 hn hf hl=>?_
 obtain ⟨f,rfl⟩:∃ f,fuel=f+1:=⟨fuel - 1,by lia⟩
 have ht:=cT_step (σ:=σ) h hl
 have before:∀ i,E V i=false->H i=Q->i<j->Fl' V i<r:=fun i i1 i2 i3=>by
  refine (h2 i (Int.not_lt.mp fun z=>?_) i3).2.1
  have:=L.mono (Int.le_sub_one_of_lt z)
  lia
 have none:r<Fl' V j\/Q<H j\/E V j=true->∀ i,E V i=false->H i=Q->Fl' V i≠r:=fun z i i1 i2=>by
  rcases Int.lt_trichotomy i j with z2 | rfl | z2
  ·exact Int.ne_of_lt (before i i1 i2 z2)
  ·rcases z with z | z | z
   ·exact Int.ne_of_gt z
   ·lia
   ·rw [z] at i1;cases i1
  ·have m:=L.mono (Int.le_of_lt z2)
   rcases z with z | z | z
   ·have:=L.mono h1
    exact Int.ne_of_gt (Int.lt_trans z (L.run_lt z2 (by lia)))
   ·lia
   ·have:=L.mono (Int.add_one_le_of_lt z2)
    have:=L.hole j z
    have:=L.le J
    lia
 cases hE:E V j with
 | true=>
  rw [hE] at ht
  exact .no l (none (.inr (.inr hE))) (whF ht)
 | false=>
  rw [hE] at ht
  obtain ⟨l1,hl1,hb1⟩:=cb1_step (σ:=σ) h hl
  have s123:=cb2_step (σ:=σ) h hl1
  have hjm:=L.mono h1
  by_cases hjQ:H j=Q
  ·have hs:(if Cn V j=true then (if j=J then (0:Int) else 1) else (if j=J then (0:Int) else 1)+1)=1:=by
    by_cases z:j=J
    ·subst z
     have:¬ Cn V j=true:=fun q=>by have:=(L.con j).mp q;lia
     rw [if_neg this,if_pos rfl];rfl
    ·have h3:=(h2 (j - 1) (by lia) (by lia)).1
     rw [(L.con j).mpr (by rw [h3];exact hjQ),if_pos rfl,if_neg z]
   rw [hs] at hl1 s123
   rcases Int.lt_trichotomy (Fl' V j) r with z | z | z
   ·obtain ⟨l2,hl2,hb2⟩:=s123.2.2 (by decide) z
    have hlt:j<J+V.m:=Int.not_le.mp fun z2=>by
     have:=L.mono z2;have:=L.per J;have:=h.mpos;lia
    obtain ⟨n,rfl⟩:∃ m,n=m+1:=⟨n - 1,by lia⟩
    have:=ih n rfl f (j+1) l2 (by lia) (fun k k1 k2=>?_) (by lia) (by lia) (by rw [if_neg (by lia)];exact hl2)
    ·cases this with
     | no l' a e=>exact .no l' a (whN ht (seqN hb1 hb2) e)
     | yes i l' a b c e=>exact .yes i l' a b c (whN ht (seqN hb1 hb2) e)
    ·by_cases z3:k=j
     ·rw [z3];exact ⟨hjQ,z,hE⟩
     ·exact h2 k k1 (by lia)
   ·exact .yes j l1 hE hjQ z (whR ht (seqN hb1 (s123.2.1 (by decide) z)))
   ·exact .no l1 (none (.inl z)) (whB ht (seqN hb1 (s123.1 (.inr z))))
  ·have z:¬ j=J:=fun z=>hjQ (z▸hJ)
   have hC:¬ Cn V j=true:=fun q=>hjQ (((L.con j).mp q).trans (h2 (j - 1) (by lia) (by lia)).1)
   rw [if_neg hC,if_neg z] at s123
   exact .no l1 (none (.inr (.inl (by lia)))) (whB ht (seqN hb1 (s123.1 (.inl rfl))))
theorem dJ (h:Good V) (L:LayW V H) {Q r:Int} (hQ:In V Q) :
  (∃ i,E V i=false/\H i=Q/\Fl' V i=r/\aG [.ref V.i,.int Q,.int r] (qf σ V)=some (.int (i%V.m),qf σ V))\/
  ((∀ i,E V i=false->H i=Q->Fl' V i≠r)/\aG [.ref V.i,.int Q,.int r] (qf σ V)=some (.int (-1),qf σ V)):=by
 have hmod:Q%V.m=Q:=Int.emod_eq_of_lt hQ.1 hQ.2
 have ho:V.occ Q=O V Q:=by unfold O;rw [hmod]
 have ht:=bD (evO (σ:=σ) (l:=aJ ["self","q","r"] [.ref V.i,.int Q,.int r]) (ge:=varF "q") h rfl (aB rfl) hQ) (g:=kF (.int 0)) rfl qU
 rw [ho] at ht
 cases q:O V Q with
 | false=>
  refine .inr ⟨fun i i1 i2=>?_,?_⟩
  ·rw [(L.occ Q).mpr ⟨i,i1,i2⟩] at q;cases q
  ·rw [q] at ht;exact fRet rfl (iX (ifT ht (eX rfl)))
 | true=>
  obtain ⟨J,hg,J1,J2⟩:=sC (σ:=σ) h L hQ
  have hJ:H J=Q:=by
   obtain ⟨i,i1,i2⟩:=(L.occ Q).mp q
   by_cases z:i<=J - 1
   ·have:=L.mono z;lia
   ·have:=L.mono (show J<=i by lia);lia
  rw [q] at ht
  have hl0:CL V J (if J=J then 0 else 1) r (((aJ ["self","q","r"] [.ref V.i,.int Q,.int r]).put "start_idx" (.int (J%V.m))).put "starts" (.int 0)):=⟨rfl,rfl,rfl,by rw [if_pos rfl];rfl⟩
  have run:∀ {w l'},seqB (bG cT cb 100) (retS (unF .USub (kF (.int 1)))) _ (qf σ V)=some (.ret w,l',qf σ V)->aG [.ref V.i,.int Q,.int r] (qf σ V)=some (w,qf σ V):=fun e=>
   fRet rfl (seqN (ifF ht rfl) (seqN (aT (cE (aB rfl) qf_i rfl (lst1 (aB rfl)) hg)) (seqN (aT rfl) e)))
  cases con_loop (σ:=σ) h L Q r J J1 hJ (J+V.m - J).toNat 100 J _ (Int.le_refl _) (fun k k1 k2=>absurd k1 (by lia)) rfl (by have:=h.mc;lia) hl0 with
  | no l' w1 w2=>exact .inr ⟨w1,run (seqN w2 (eX rfl))⟩
  | yes i l' w1 w2 w3 w4=>exact .inl ⟨i,w1,w2,w3,run (iX w4)⟩
end
section
variable {V:View} {H:Int->Int}
theorem O_k (V:View) (i t:Int):O V (i+V.m*t)=O V i:=by unfold O;rw [Int.add_mul_emod_self_left]
theorem Cn_k (V:View) (i t:Int):Cn V (i+V.m*t)=Cn V i:=by unfold Cn;rw [Int.add_mul_emod_self_left]
theorem Sh_k (V:View) (i t:Int):Sh V (i+V.m*t)=Sh V i:=by unfold Sh;rw [Int.add_mul_emod_self_left]
theorem Fl_k (V:View) (i t:Int):Fl' V (i+V.m*t)=Fl' V i:=by unfold Fl';rw [Int.add_mul_emod_self_left]
theorem win (h:Good V) (p i:Int):∃ w t,p<=w/\w<p+V.m/\i=w+V.m*t:=by
 have hp:=h.mpos
 refine ⟨p+(i - p)%V.m,(i - p) / V.m,?_,?_,?_⟩
 ·have:=Int.emod_nonneg (i - p) (show (V.m:Int)≠0 by lia);lia
 ·have:=Int.emod_lt_of_pos (i - p) hp;lia
 ·have:=Int.emod_add_mul_ediv (i - p) V.m;lia
theorem Lay.gt_ne (L:Lay V H) (g:Good V) {i:Int} (hi:E V i=false):i - V.m+1<H i:=by
 obtain ⟨e,he,h1,h2⟩:=L.hole_below g i
 have hne:e≠i:=fun q=>by rw [q,hi] at he;cases he
 have:=L.mono (show e+1<=i by lia)
 have:=(L.hole e he).2
 lia
theorem LayW.of_window (h:Good V) (p:Int) (per:∀ i,H (i+V.m)=H i+V.m) (le:∀ i,p<=i->i<p+V.m->H i<=i) (mono1:∀ i,p<=i->i<p+V.m->H i<=H (i+1))
  (hole:∀ i,p<=i->i<p+V.m->E V i=true->H i=i/\H (i+1)=i+1) (shf:∀ i,p<=i->i<p+V.m->(Sh V i=true ↔ H i<i)) (con:∀ i,p<=i->i<p+V.m->(Cn V i=true ↔ H i=H (i - 1)))
  (occ1:∀ k,p<=k->k<p+V.m->O V k=true->∃ j,E V j=false/\H j=k) (occ2:∀ j,p<=j->j<p+V.m->E V j=false->O V (H j)=true)
  (sorted:∀ i,p<=i->i<p+V.m->Cn V i=true->Fl' V (i - 1)<Fl' V i) (start:∃ e,H e=e):LayW V H:=by
 have pk:=fW per
 refine ⟨per,fun i=>?_,fun i=>?_,fun i hi=>?_,fun i=>?_,fun i=>?_,fun k=>⟨fun hk=>?_,fun ⟨j,j1,j2⟩=>?_⟩,fun i hi=>?_,start⟩
 ·obtain ⟨w,t,w1,w2,rfl⟩:=win h p i
  rw [pk];have:=le w w1 w2;lia
 ·obtain ⟨w,t,w1,w2,rfl⟩:=win h p i
  have e:w+V.m*t+1=(w+1)+V.m*t:=by lia
  rw [e,pk,pk];have:=mono1 w w1 w2;lia
 ·obtain ⟨w,t,w1,w2,rfl⟩:=win h p i
  rw [cU] at hi
  have e:w+V.m*t+1=(w+1)+V.m*t:=by lia
  rw [e,pk,pk];have:=hole w w1 w2 hi;lia
 ·obtain ⟨w,t,w1,w2,rfl⟩:=win h p i
  rw [Sh_k,pk,shf w w1 w2];lia
 ·obtain ⟨w,t,w1,w2,rfl⟩:=win h p i
  have e:w+V.m*t - 1=(w - 1)+V.m*t:=by lia
  rw [Cn_k,e,pk,pk,con w w1 w2];lia
 ·obtain ⟨w,t,w1,w2,rfl⟩:=win h p k
  rw [O_k] at hk
  obtain ⟨j,j1,j2⟩:=occ1 w w1 w2 hk
  exact ⟨j+V.m*t,by rw [cU];exact j1,by rw [pk,j2]⟩
 ·obtain ⟨w,t,w1,w2,rfl⟩:=win h p j
  rw [cU] at j1
  rw [<- j2,pk,O_k]
  exact occ2 w w1 w2 j1
 ·obtain ⟨w,t,w1,w2,rfl⟩:=win h p i
  rw [Cn_k] at hi
  have e:w+V.m*t - 1=(w - 1)+V.m*t:=by lia
  rw [e,Fl_k,Fl_k]
  exact sorted w w1 w2 hi
theorem Lay.of_window (h:Good V) (p:Int) (per:∀ i,H (i+V.m)=H i+V.m) (le:∀ i,p<=i->i<p+V.m->H i<=i) (mono1:∀ i,p<=i->i<p+V.m->H i<=H (i+1))
  (hole:∀ i,p<=i->i<p+V.m->E V i=true->H i=i/\H (i+1)=i+1) (shf:∀ i,p<=i->i<p+V.m->(Sh V i=true ↔ H i<i)) (con:∀ i,p<=i->i<p+V.m->(Cn V i=true ↔ H i=H (i - 1)))
  (occ1:∀ k,p<=k->k<p+V.m->O V k=true->∃ j,E V j=false/\H j=k) (occ2:∀ j,p<=j->j<p+V.m->E V j=false->O V (H j)=true)
  (sorted:∀ i,p<=i->i<p+V.m->Cn V i=true->Fl' V (i - 1)<Fl' V i) (ex:∃ e,E V e=true):Lay V H:=by
 refine (LayW.of_window h p per le mono1 hole shf con occ1 occ2 sorted ?_).strong ex
 obtain ⟨e,he⟩:=ex
 obtain ⟨w,t,w1,w2,rfl⟩:=win h p e
 rw [cU] at he
 exact ⟨w,(hole w w1 w2 he).1⟩
noncomputable def wrap (m p:Int) (G:Int->Int) (i:Int):Int:=G (p+(i - p)%m)+(i - (p+(i - p)%m))
theorem cW {m p:Int} {G:Int->Int} (i:Int):wrap m p G (i+m)=wrap m p G i+m:=by
 unfold wrap
 have e:(i+m - p)%m=(i - p)%m:=by rw [show i+m - p=i - p+m by lia,Int.add_emod_right]
 rw [e];lia
theorem eK {m p:Int} {G:Int->Int} {i:Int} (h1:p<=i) (h2:i<p+m):wrap m p G i=G i:=by
 unfold wrap
 have e:(i - p)%m=i - p:=Int.emod_eq_of_lt (by lia) (by lia)
 rw [e]
 have e2:p+(i - p)=i:=by lia
 rw [e2];lia
theorem mR {m p:Int} {G:Int->Int} (hm:0<m):wrap m p G (p+m)=G p+m:=by
 rw [cW,eK (Int.le_refl _) (by lia)]
theorem sV {m p:Int} {G:Int->Int} (hm:0<m):wrap m p G (p - 1)=G (p+m - 1) - m:=by
 have:=cW (m:=m) (p:=p) (G:=G) (p - 1)
 rw [show p - 1+m=p+m - 1 by lia,eK (by lia) (by lia)] at this
 lia
structure Ins (V V':View) (H:Int->Int) (Q r p z J:Int):Prop where
 m:V'.m=V.m
 j1:H (J - 1)<Q
 j2:Q<=H J
 jp:J<=p
 run:∀ k,J<=k->k<p->H k=Q/\E V k=false/\Fl' V k<r
 above:E V p=false->H p=Q->r<Fl' V p
 hne:E V Q=false\/p=Q
 pz:p<=z
 zm:z<p+V.m
 full:∀ k,p<=k->k<z->E V k=false
 hz:E V z=true
 C:∀ i,p<=i->i<p+V.m->Cn V' i=(if i=p then decide (p≠J) else if i<=z then (if i=p+1/\H p=Q then true else Cn V (i - 1)) else Cn V i)
 S:∀ i,p<=i->i<p+V.m->Sh V' i=(if i=p then decide (p≠Q) else if i<=z then true else Sh V i)
 F:∀ i,p<=i->i<p+V.m->Fl' V' i=(if i=p then r else if i<=z then Fl' V (i - 1) else Fl' V i)
 O:∀ k,O V' k=(Mine.O V k || decide (k%V.m=Q%V.m))
noncomputable def insG (H:Int->Int) (Q p z:Int) (i:Int):Int:=if i=p then Q else if i<=z then H (i - 1) else H i
noncomputable def insH (V:View) (H:Int->Int) (Q p z:Int):Int->Int:=wrap V.m p (insG H Q p z)
theorem rY {Q p z:Int} (hm:(0:Int)<V.m):insH V H Q p z (p+V.m)=Q+V.m:=(mR hm).trans (congrArg (·+(V.m:Int)) (if_pos rfl))
theorem insH_beg {Q p z:Int}:insH V H Q p z (p - 1)=insH V H Q p z (p+V.m - 1) - V.m:=by
 have:=cW (m:=V.m) (p:=p) (G:=insG H Q p z) (p - 1)
 rw [show p - 1+V.m=p+V.m - 1 by lia] at this
 unfold insH;lia
theorem Ins.lay {V':View} {Q r p z J:Int} (h:Good V) (h':Good V') (L:Lay V H) (I:Ins V V' H Q r p z J):LayW V' (insH V H Q p z):=by
 have hm:=h.mpos
 have hpz:=I.pz
 have hzm:=I.zm
 have Wp:insH V H Q p z p=Q:=(eK (Int.le_refl _) (by lia)).trans (if_pos rfl)
 have Ww:∀ {i},p<i->i<=z->insH V H Q p z i=H (i - 1):=fun h1 h2=>(eK (Int.le_of_lt h1) (by lia)).trans ((if_neg (Int.ne_of_gt h1)).trans (if_pos h2))
 have Wz:∀ {i},z<i->i<p+V.m->insH V H Q p z i=H i:=fun h1 h2=>(eK (by lia) h2).trans ((if_neg (by lia)).trans (if_neg (Int.not_le.mpr h1)))
 have Sp:Sh V' p=decide (p≠Q):=(I.S p (Int.le_refl _) (by lia)).trans (if_pos rfl)
 have Sw:∀ {i},p<i->i<=z->Sh V' i=true:=fun h1 h2=>(I.S _ (Int.le_of_lt h1) (by lia)).trans ((if_neg (Int.ne_of_gt h1)).trans (if_pos h2))
 have Sz:∀ {i},z<i->i<p+V.m->Sh V' i=Sh V i:=fun h1 h2=>(I.S _ (by lia) h2).trans ((if_neg (by lia)).trans (if_neg (Int.not_le.mpr h1)))
 have Cp:Cn V' p=decide (p≠J):=(I.C p (Int.le_refl _) (by lia)).trans (if_pos rfl)
 have C1:p+1<=z->H p=Q->Cn V' (p+1)=true:=fun h2 q=>(I.C _ (by lia) (by lia)).trans ((if_neg (by lia)).trans ((if_pos h2).trans (if_pos ⟨rfl,q⟩)))
 have Cw:∀ {i},p<i->i<=z->¬ (i=p+1/\H p=Q)->Cn V' i=Cn V (i - 1):=fun h1 h2 q=>(I.C _ (Int.le_of_lt h1) (by lia)).trans ((if_neg (Int.ne_of_gt h1)).trans ((if_pos h2).trans (if_neg q)))
 have Cz:∀ {i},z<i->i<p+V.m->Cn V' i=Cn V i:=fun h1 h2=>(I.C _ (by lia) h2).trans ((if_neg (by lia)).trans (if_neg (Int.not_le.mpr h1)))
 have Fp:Fl' V' p=r:=(I.F p (Int.le_refl _) (by lia)).trans (if_pos rfl)
 have Fw:∀ {i},p<i->i<=z->Fl' V' i=Fl' V (i - 1):=fun h1 h2=>(I.F _ (Int.le_of_lt h1) (by lia)).trans ((if_neg (Int.ne_of_gt h1)).trans (if_pos h2))
 have Fz:∀ {i},z<i->i<p+V.m->Fl' V' i=Fl' V i:=fun h1 h2=>(I.F _ (by lia) h2).trans ((if_neg (by lia)).trans (if_neg (Int.not_le.mpr h1)))
 have tri:∀ {P:Int->Prop},P p->(∀ i,p<i->i<=z->P i)->(∀ i,z<i->i<p+V.m->P i)->∀ i,p<=i->i<p+V.m->P i:=fun a b c i i1 i2=>by
  by_cases e:i=p
  ·exact e▸a
  ·by_cases e2:i<=z
   ·exact b i (by lia) e2
   ·exact c i (Int.not_le.mp e2) i2
 have hQp:Q<=p:=Int.le_trans (Int.le_trans I.j2 (L.le J)) I.jp
 have hQH:Q<=H p:=Int.le_trans I.j2 (L.mono I.jp)
 have low:(p=J/\H (p - 1)<Q)\/(p≠J/\H (p - 1)=Q/\E V (p - 1)=false/\Fl' V (p - 1)<r):=by
  by_cases e:p=J
  ·exact .inl ⟨e,e▸I.j1⟩
  ·exact .inr ⟨e,I.run (p - 1) (by have:=I.jp;lia) (by lia)⟩
 have hp1:H (p - 1)<=Q:=low.elim (fun q=>Int.le_of_lt q.2) fun q=>Int.le_of_eq q.2.1
 have hhole:E V (p - 1)=true->p=J/\Q=p:=fun he=>by
  rcases low with q | q
  ·have:=(L.hole _ he).1
   exact ⟨q.1,by lia⟩
  ·rw [q.2.2.1] at he;cases he
 have hzp:z=p+V.m - 1->p=J/\Q=p:=fun e=>hhole (by rw [<- nW,show p - 1+V.m=z by lia];exact I.hz)
 have hQlow:p - V.m<Q:=by
  rcases low with q | q
  ·have:=L.gt h (p - 1);lia
  ·have:=L.gt_ne h q.2.2.1;lia
 have hOQ:∀ {k},k%V.m=Q%V.m->Mine.O V' k=true:=fun e=>by rw [I.O,decide_eq_true e,Bool.or_true]
 have hOn:∀ {k},k%V.m≠Q%V.m->Mine.O V' k=Mine.O V k:=fun e=>by rw [I.O,decide_eq_false e,Bool.or_false]
 have hEp:E V' p=false:=by
  rw [dK,Sp]
  by_cases e:p=Q
  ·rw [hOQ (by rw [<- e])];rfl
  ·rw [decide_eq_true e,Bool.not_true,Bool.and_false]
 have hEw:∀ {i},p<i->i<=z->E V' i=false:=fun i1 i2=>by rw [dK,Sw i1 i2,Bool.not_true,Bool.and_false]
 have hEz:∀ {i},z<i->i<p+V.m->E V' i=E V i:=fun {i} i1 i2=>by
  by_cases e:i%V.m=Q%V.m
  ·have e2:i=Q+V.m:=bP h (by rw [mY];exact e) (by lia) (by lia)
   have e3:E V i=false:=by
    rcases I.hne with e3 | e3
    ·rw [e2,nW];exact e3
    ·lia
   rw [e3,dK,hOQ e];rfl
  ·rw [dK,Sz i1 i2,Cz i1 i2,hOn e,<- dK]
 have pk:=fW L.per
 have pk':=fW (H:=insH V H Q p z) (fun i=>cW i)
 have pm:∀ i,H (i+V.m)=H i+V.m:=L.per
 have hz2:=(L.hole z I.hz).2
 refine LayW.of_window h' p (fun i=>by rw [I.m];exact cW i) ?_ ?_ ?_ ?_ ?_ ?_ ?_ ?_ ?_
 rotate_right
 ·by_cases e:z=p+V.m - 1
  ·exact ⟨p,Wp.trans (hzp e).2⟩
  ·exact ⟨z+1,(Wz (by lia) (by lia)).trans hz2⟩
 all_goals rw [I.m]
 ·refine tri ?_ (fun i i1 i2=>?_) fun i i1 i2=>?_
  ·rw [Wp];exact hQp
  ·rw [Ww i1 i2];have:=L.le (i - 1);lia
  ·rw [Wz i1 i2];exact L.le i
 ·intro i i1 i2
  by_cases e:i+1=p+V.m
  ·rw [e,rY hm]
   revert e
   refine tri (P:=fun i=>i+1=p+V.m->insH V H Q p z i<=Q+V.m) (fun e=>?_) (fun i i1 i2 e=>?_) (fun i i1 i2 e=>?_) i i1 i2
   ·rw [Wp];lia
   ·rw [Ww i1 i2];have:=hzp (by lia);have:=L.le (i - 1);lia
   ·have:=pm (p - 1)
    rw [Wz i1 i2,show i=p - 1+V.m by lia,this];lia
  ·revert e
   refine tri (P:=fun i=>¬ i+1=p+V.m->insH V H Q p z i<=insH V H Q p z (i+1)) (fun e=>?_) (fun i i1 i2 e=>?_) (fun i i1 i2 e=>?_) i i1 i2
   ·rw [Wp]
    by_cases q:p+1<=z
    ·rw [Ww (by lia) q,show p+1 - 1=p by lia];exact hQH
    ·rw [Wz (by lia) (by lia)];exact Int.le_trans hQH (L.mono1 p)
   ·rw [Ww i1 i2]
    by_cases q:i+1<=z
    ·rw [Ww (by lia) q];exact L.mono (by lia)
    ·rw [Wz (by lia) (by lia)];exact L.mono (by lia)
   ·rw [Wz i1 i2,Wz (by lia) (by lia)];exact L.mono1 i
 ·refine tri (fun he=>?_) (fun i i1 i2 he=>?_) (fun i i1 i2 he=>?_)
  ·rw [hEp] at he;cases he
  ·rw [hEw i1 i2] at he;cases he
  ·rw [hEz i1 i2] at he
   have hh:=L.hole i he
   refine ⟨(Wz i1 i2).trans hh.1,?_⟩
   by_cases e:i+1=p+V.m
   ·have:=hhole (by rw [<- nW,show p - 1+V.m=i by lia];exact he)
    rw [e,rY hm];lia
   ·exact (Wz (by lia) (by lia)).trans hh.2
 ·refine tri ?_ (fun i i1 i2=>?_) (fun i i1 i2=>?_)
  ·rw [Sp,Wp,decide_eq_true_iff];lia
  ·rw [Sw i1 i2,Ww i1 i2]
   have:=L.le (i - 1)
   exact ⟨fun _=>by lia,fun _=>rfl⟩
  ·rw [Sz i1 i2,Wz i1 i2];exact L.shf i
 ·refine tri ?_ (fun i i1 i2=>?_) (fun i i1 i2=>?_)
  ·rw [Cp,Wp,decide_eq_true_iff,insH_beg]
   by_cases q2:p+V.m - 1<=z
   ·have:=hzp (by lia)
    by_cases q3:p=p+V.m - 1
    ·rw [<- q3,Wp];lia
    ·have:=L.le (p+V.m - 1 - 1)
     rw [Ww (by lia) q2];lia
   ·have:=pm (p - 1)
    rw [Wz (by lia) (by lia),show p+V.m - 1=p - 1+V.m by lia,this]
    rcases low with q | q<;>lia
  ·by_cases q3:i=p+1
   ·subst q3
    rw [Ww i1 i2,show p+1 - 1=p by lia,Wp]
    by_cases q4:H p=Q
    ·exact ⟨fun _=>q4,fun _=>C1 i2 q4⟩
    ·rw [Cw i1 i2 (fun q=>q4 q.2),show p+1 - 1=p by lia,L.con p];lia
   ·rw [Cw i1 i2 (fun q=>q3 q.1),Ww i1 i2,Ww (by lia) (by lia)];exact L.con (i - 1)
  ·rw [Cz i1 i2,Wz i1 i2,L.con i]
   by_cases q4:i - 1<=z
   ·rw [show z+1=i by lia] at hz2
    by_cases q3:i - 1=p
    ·rw [q3,Wp];have:=L.le p;lia
    ·rw [Ww (by lia) q4];have:=L.le (i - 1 - 1);have:=L.le (i - 1);lia
   ·rw [Wz (by lia) (by lia)]
 ·intro k k1 k2 hk
  by_cases q:k%V.m=Q%V.m
  ·-- the new one
   refine ⟨p+V.m*(k / V.m - Q / V.m),?_,?_⟩
   ·rw [<- I.m,cU];exact hEp
   ·have e1:=Int.emod_add_mul_ediv k V.m
    have e2:=Int.emod_add_mul_ediv Q V.m
    rw [pk',Wp,Int.mul_sub];lia
  ·rw [hOn q] at hk
   obtain ⟨j,j1,j2⟩:=(L.occ k).mp hk
   obtain ⟨w,t,w1,w2,rfl⟩:=win h p j
   rw [cU] at j1
   rw [pk] at j2
   have hwz:w≠z:=fun e=>by rw [e,I.hz] at j1;cases j1
   by_cases q2:w<z
   ·refine ⟨w+1+V.m*t,?_,?_⟩
    ·rw [<- I.m,cU];exact hEw (by lia) (by lia)
    ·rw [pk',Ww (by lia) (by lia),show w+1 - 1=w by lia];exact j2
   ·refine ⟨w+V.m*t,?_,?_⟩
    ·rw [<- I.m,cU,hEz (by lia) w2];exact j1
    ·rw [pk',Wz (by lia) w2];exact j2
 ·refine tri (fun _=>?_) (fun i i1 i2 _=>?_) (fun i i1 i2 he=>?_)
  ·rw [Wp];exact hOQ rfl
  ·rw [Ww i1 i2,I.O,L.ne_occ (I.full (i - 1) (by lia) (by lia))];rfl
  ·rw [hEz i1 i2] at he
   rw [Wz i1 i2,I.O,L.ne_occ he];rfl
 ·refine tri (fun hc=>?_) (fun i i1 i2 hc=>?_) (fun i i1 i2 hc=>?_)
  ·rw [Cp,decide_eq_true_iff] at hc
   have e2:=Fl_k V' (p - 1) 1
   have e3:=Fl_k V (p - 1) 1
   rw [I.m,show p - 1+V.m*1=p+V.m - 1 by lia] at e2
   rw [show p - 1+V.m*1=p+V.m - 1 by lia] at e3
   rw [Fp,<- e2,Fz (Int.not_le.mp fun q=>hc (hzp (by lia)).1) (by lia),e3]
   exact low.elim (fun q=>absurd q.1 hc) fun q=>q.2.2.2
  ·by_cases q3:i=p+1
   ·subst q3
    rw [Fw i1 i2,show p+1 - 1=p by lia,Fp]
    have hfp:=I.full p (Int.le_refl _) (by lia)
    by_cases q4:H p=Q
    ·exact I.above hfp q4
    ·rw [Cw i1 i2 (fun q=>q4 q.2),show p+1 - 1=p by lia] at hc
     have:=(L.con p).mp hc
     lia
   ·rw [Cw i1 i2 (fun q=>q3 q.1)] at hc
    rw [Fw i1 i2,Fw (by lia) (by lia)]
    exact L.sorted _ hc
  ·rw [Cz i1 i2] at hc
   by_cases q4:i - 1<=z
   ·have:=(L.con i).mp hc
    have:=L.le (i - 1)
    rw [show z+1=i by lia] at hz2
    lia
   ·rw [Fz i1 i2,Fz (by lia) (by lia)];exact L.sorted i hc
end
section
variable {σ:Sto} {V:View} {l:Loc} {fe ge:EF} {j:Int}
theorem stO (h:Good V) {v:Bool} (hs:l "self"=some (.ref V.i)) (hf:fe l (qf σ V)=some (.int (b2i v),qf σ V)) (hg:ge l (qf σ V)=some (.int j,qf σ V)) (hj:In V j) :
  aQ 183 aH fe (aC 467 "_is_occupied" (varF "self")) ge l (qf σ V)=some (.next,l,qf σ { V with occ:=upd V.occ j v }):=stSub hf (evA (aB hs) qf_i rfl) hg (qf_o h) (set_o h hj v)
theorem stC (h:Good V) {v:Bool} (hs:l "self"=some (.ref V.i)) (hf:fe l (qf σ V)=some (.int (b2i v),qf σ V)) (hg:ge l (qf σ V)=some (.int j,qf σ V)) (hj:In V j) :
  aQ 183 aH fe (aC 467 "_is_continuation" (varF "self")) ge l (qf σ V)=some (.next,l,qf σ { V with con:=upd V.con j v }):=stSub hf (evA (aB hs) qf_i rfl) hg (qf_c h) (set_c h hj v)
theorem stS (h:Good V) {v:Bool} (hs:l "self"=some (.ref V.i)) (hf:fe l (qf σ V)=some (.int (b2i v),qf σ V)) (hg:ge l (qf σ V)=some (.int j,qf σ V)) (hj:In V j) :
  aQ 183 aH fe (aC 467 "_is_shifted" (varF "self")) ge l (qf σ V)=some (.next,l,qf σ { V with shf:=upd V.shf j v }):=stSub hf (evA (aB hs) qf_i rfl) hg (qf_s h) (set_s h hj v)
theorem stF (h:Good V) {v:Int} (hs:l "self"=some (.ref V.i)) (hf:fe l (qf σ V)=some (.int v,qf σ V)) (hg:ge l (qf σ V)=some (.int j,qf σ V)) (hj:In V j) :
  bF fe (aC 467 "_filter" (varF "self")) ge l (qf σ V)=some (.next,l,qf σ { V with flt:=upd V.flt j v }):=
 (stIdx hf (evA (aB hs) qf_i rfl) hg (qf_f h) ⟨hj.1,(idx_f h hj).2,by rw [flL_len];exact hj.2⟩).trans (by rw [flt_set hj v,put_f h])
theorem k0 {σ:Sto}:kF (.int 0) l σ=some (.int (b2i false),σ):=rfl
theorem k1 {σ:Sto}:kF (.int 1) l σ=some (.int (b2i true),σ):=rfl
theorem ifBrk {σ:Sto} {x:String} {b:Bool} (hx:l x=some (.bool b)):ifS (valT (varF x)) brkS nilB l σ=some (if b=true then .brk else .next,l,σ):=by
 cases b
 ·exact ifF (lN (aB hx)) rfl
 ·exact ifT (lN (aB hx)) rfl
end
theorem Good.con {V:View} (h:Good V) (c:Int->Bool):Good { V with con:=c }:=⟨h.lt,h.q⟩
theorem Good.occ {V:View} (h:Good V) (c:Int->Bool):Good { V with occ:=c }:=⟨h.lt,h.q⟩
theorem Good.shf {V:View} (h:Good V) (c:Int->Bool):Good { V with shf:=c }:=⟨h.lt,h.q⟩
theorem Good.flt {V:View} (h:Good V) (c:Int->Int):Good { V with flt:=c }:=⟨h.lt,h.q⟩
theorem Good.n {V:View} (h:Good V) (c:Int):Good { V with n:=c }:=⟨h.lt,h.q⟩
section
variable {σ:Sto} {V:View}
noncomputable def sb:SF:=seqB (setF "was_empty" (aF 467 "_is_empty_element" aI (varF "self") (aA (varF "next_idx") nilL)))
 (seqB (setF "temp" (subF 183 aD (aC 467 "_is_continuation" (varF "self")) (varF "next_idx")))
 (seqB (aQ 183 aH (subF 183 aD (aC 467 "_is_continuation" (varF "self")) (varF "insert_idx")) (aC 467 "_is_continuation" (varF "self")) (varF "next_idx"))
 (seqB (aQ 183 aH (varF "temp") (aC 467 "_is_continuation" (varF "self")) (varF "insert_idx"))
 (seqB (aQ 183 aH (kF (.int 1)) (aC 467 "_is_shifted" (varF "self")) (varF "next_idx"))
 (seqB (setF "temp" (idxF (aC 467 "_filter" (varF "self")) (varF "next_idx")))
 (seqB (bF (idxF (aC 467 "_filter" (varF "self")) (varF "insert_idx")) (aC 467 "_filter" (varF "self")) (varF "next_idx"))
 (seqB (bF (varF "temp") (aC 467 "_filter" (varF "self")) (varF "insert_idx"))
 (seqB (ifS (valT (varF "was_empty")) brkS nilB)
 (setF "next_idx" (binF .BitAnd (binF .Add (varF "next_idx") (kF (.int 1))) (aC 467 "_QuotientFilter__mod_size" (varF "self"))))))))))))
structure SL' (V:View) (p x q r o:Int) (fl:Int) (l:Loc):Prop where
 self:l "self"=some (.ref V.i)
 ins:l "insert_idx"=some (.int p)
 nxt:l "next_idx"=some (.int (x%V.m))
 q:l "q"=some (.int q)
 r:l "r"=some (.int r)
 o:l "orig_idx"=some (.int o)
 f:l "flag"=some (.int fl)
noncomputable def sX (V:View) (p nx:Int):View:={ V with con:=upd (upd V.con nx (V.con p)) p (V.con nx),shf:=upd V.shf nx true,flt:=upd (upd V.flt nx (V.flt p)) p (V.flt nx) }
theorem sb_step (h:Good V) {p x q r o fl:Int} {l:Loc} (hl:SL' V p x q r o fl l) (hp:In V p) (hne:x%V.m≠p):∃ l1,SL' V p (if emp V (x%V.m)=true then x else x+1) q r o fl l1/\
  sb l (qf σ V)=some (if emp V (x%V.m)=true then .brk else .next,l1,qf σ (sX V p (x%V.m))):=by
 have hx:=bE h x
 let m1:=(l.put "was_empty" (.bool (emp V (x%V.m)))).put "temp" (.int (b2i (V.con (x%V.m))))
 let m2:=m1.put "temp" (.int (V.flt (x%V.m)))
 have L1:m1 "self"=some (.ref V.i):=hl.self
 have L2:m1 "insert_idx"=some (.int p):=hl.ins
 have L3:m1 "next_idx"=some (.int (x%V.m)):=hl.nxt
 have N1:m2 "self"=some (.ref V.i):=hl.self
 have N2:m2 "insert_idx"=some (.int p):=hl.ins
 have N3:m2 "next_idx"=some (.int (x%V.m)):=hl.nxt
 have N5:m2 "was_empty"=some (.bool (emp V (x%V.m))):=rfl
 have G5:SL' V p x q r o fl m2:=⟨N1,N2,N3,hl.q,hl.r,hl.o,hl.f⟩
 have run:∀ {l' fl'},_=some (fl',l',qf σ (sX V p (x%V.m)))->sb l (qf σ V)=some (fl',l',qf σ (sX V p (x%V.m))):=fun e=>
  seqN (aT (qQ h hl.self hl.nxt hx)) (seqN (aT (evC h (l:=l.put "was_empty" _) hl.self (aB hl.nxt) hx)) (seqN (stC h L1 (evC h L1 (aB L2) hp) (aB L3) hx)
   (seqN (stC (h.con _) L1 (aB rfl) (aB L2) hp) (seqN (stS ((h.con _).con _) L1 k1 (aB L3) hx) (seqN (aT (evF (((h.con _).con _).shf _) L1 (aB L3) hx))
   (seqN (stF (((h.con _).con _).shf _) N1 (evF (((h.con _).con _).shf _) N1 (aB N2) hp) (aB N3) hx) (seqN (stF ((((h.con _).con _).shf _).flt _) N1 (aB rfl) (aB N2) hp) e)))))))
 have hb:=fun τ=>ifBrk (σ:=τ) N5
 by_cases z:emp V (x%V.m)=true
 ·rw [if_pos z,if_pos z]
  exact ⟨m2,G5,run (kN ((hb _).trans (by rw [if_pos z];rfl)))⟩
 ·rw [if_neg z,if_neg z]
  exact ⟨m2.put "next_idx" (.int ((x+1)%V.m)),⟨N1,N2,rfl,hl.q,hl.r,hl.o,hl.f⟩,run (seqN ((hb _).trans (by rw [if_neg z];rfl)) (aT (evUp (V:=sX V p (x%V.m)) ⟨h.lt,h.q⟩ (i:=x) N1 N3)))⟩
end
section
variable {σ:Sto} {V:View}
theorem cG {α:Type} (h:Good V) {F:Int->α} {i j:Int} {v:α} (h1:i - V.m<j) (h2:j<i+V.m):upd F (j%V.m) v (i%V.m)=if i=j then v else F (i%V.m):=by
 unfold upd
 by_cases e:i=j
 ·rw [e];simp
 ·rw [if_neg e,if_neg fun q=>e (bP h q h1 h2)]
structure WT (V Vt:View) (p t:Int):Prop where
 eq:Vt={ V with con:=Vt.con,shf:=Vt.shf,flt:=Vt.flt }
 C:∀ i,p<=i->i<p+V.m->Cn Vt i=(if i=p then Cn V (p+t) else if i<=p+t then Cn V (i - 1) else Cn V i)
 S:∀ i,p<=i->i<p+V.m->Sh Vt i=(if i=p then Sh V p else if i<=p+t then true else Sh V i)
 F:∀ i,p<=i->i<p+V.m->Fl' Vt i=(if i=p then Fl' V (p+t) else if i<=p+t then Fl' V (i - 1) else Fl' V i)
theorem WT.good {Vt:View} {p t:Int} (W:WT V Vt p t) (h:Good V):Good Vt:=by rw [W.eq];exact ⟨h.lt,h.q⟩
theorem WT.m {Vt:View} {p t:Int} (W:WT V Vt p t):Vt.m=V.m:=by rw [W.eq];rfl
theorem WT.i {Vt:View} {p t:Int} (W:WT V Vt p t):Vt.i=V.i:=by rw [W.eq]
theorem WT.emp {Vt:View} {p t:Int} (W:WT V Vt p t) {i:Int} (h1:p+t<i) (h2:i<p+V.m) (ht:0<=t):E Vt i=E V i:=by
 have e:O Vt i=O V i:=by rw [W.eq];rfl
 rw [dK,dK,W.C i (by lia) h2,W.S i (by lia) h2,e,if_neg (by lia),if_neg (by lia),if_neg (by lia),if_neg (by lia)]
theorem WT.zero (p:Int):WT V V p 0:=by
 refine ⟨rfl,fun i h1 h2=>?_,fun i h1 h2=>?_,fun i h1 h2=>?_⟩ <;>
 ·by_cases e:i=p
  ·rw [if_pos e,e];try simp
  ·rw [if_neg e,if_neg (by lia)]
theorem WT.step {Vt:View} {p t:Int} (h:Good V) (W:WT V Vt p t) (ht:0<=t) (ht2:p+t+1<p+V.m):WT V (sX Vt (p%V.m) ((p+t+1)%V.m)) p (t+1):=by
 have hm:=W.m
 have n1:¬ p+t+1=p:=by lia
 have Cp:=W.C p (Int.le_refl _) (by lia)
 have Fp:=W.F p (Int.le_refl _) (by lia)
 have Cx:=W.C (p+t+1) (by lia) ht2
 have Fx:=W.F (p+t+1) (by lia) ht2
 rw [if_pos rfl] at Cp Fp
 rw [if_neg n1,if_neg (by lia)] at Cx Fx
 refine ⟨by unfold sX;rw [W.eq],fun i h1 h2=>?_,fun i h1 h2=>?_,fun i h1 h2=>?_⟩
 ·have Ci:=W.C i h1 h2
  unfold Cn at *
  show upd (upd Vt.con _ _) _ _ (i%Vt.m)=_
  rw [hm] at *
  rw [cG h (by lia) (by lia),cG h (by lia) (by lia)]
  by_cases e:i=p
  ·rw [if_pos e,if_pos e,Cx];congr 2;lia
  ·rw [if_neg e,if_neg e]
   by_cases e2:i=p+t+1
   ·rw [if_pos e2,if_pos (by lia),Cp];congr 2;lia
   ·rw [if_neg e2,Ci,if_neg e]
    by_cases e3:i<=p+t
    ·rw [if_pos e3,if_pos (by lia)]
    ·rw [if_neg e3,if_neg (by lia)]
 ·have Si:=W.S i h1 h2
  unfold Sh at *
  show upd Vt.shf _ _ (i%Vt.m)=_
  rw [hm] at *
  rw [cG h (by lia) (by lia)]
  by_cases e:i=p
  ·rw [if_neg (by lia),Si,if_pos e,if_pos e]
  ·rw [if_neg e] at Si |-
   by_cases e2:i=p+t+1
   ·rw [if_pos e2,if_pos (by lia)]
   ·rw [if_neg e2,Si]
    by_cases e3:i<=p+t
    ·rw [if_pos e3,if_pos (by lia)]
    ·rw [if_neg e3,if_neg (by lia)]
 ·have Fi:=W.F i h1 h2
  unfold Fl' at *
  show upd (upd Vt.flt _ _) _ _ (i%Vt.m)=_
  rw [hm] at *
  rw [cG h (by lia) (by lia),cG h (by lia) (by lia)]
  by_cases e:i=p
  ·rw [if_pos e,if_pos e,Fx];congr 2;lia
  ·rw [if_neg e,if_neg e]
   by_cases e2:i=p+t+1
   ·rw [if_pos e2,if_pos (by lia),Fp];congr 2;lia
   ·rw [if_neg e2,Fi,if_neg e]
    by_cases e3:i<=p+t
    ·rw [if_pos e3,if_pos (by lia)]
    ·rw [if_neg e3,if_neg (by lia)]
theorem SL'.mono {V V':View} {p x q r o fl:Int} {l:Loc} (c:SL' V p x q r o fl l) (e1:V'.i=V.i) (e2:V'.m=V.m):SL' V' p x q r o fl l:=
 ⟨by rw [e1];exact c.self,c.ins,by rw [e2];exact c.nxt,c.q,c.r,c.o,c.f⟩
theorem tD (h:Good V) {p z q r o fl:Int} (hzm:z<p+V.m) (full:∀ k,p<=k->k<z->E V k=false) (hz:E V z=true):∀ (n fuel:Nat) (t:Int) (Vt:View) (l:Loc),0<=t->p+t<z->WT V Vt p t->(z - (p+t)).toNat=n->n<fuel->
  SL' V (p%V.m) (p+t+1) q r o fl l->∃ Vz l' x,WT V Vz p (z - p)/\SL' V (p%V.m) x q r o fl l'/\bG (valT (kF (.bool true))) sb fuel l (qf σ Vt)=some (.next,l',qf σ Vz):=by
 refine meas fun n ih=>?_
 all_goals
  intro fuel t Vt l ht hlt W hn hf hl
  obtain ⟨f,rfl⟩:∃ f,fuel=f+1:=⟨fuel - 1,by lia⟩
  have hg:=W.good h
  have hp:In Vt (p%V.m):=by rw [<- W.m];exact bE hg p
  have hne:(p+t+1)%Vt.m≠p%V.m:=by
   rw [W.m];intro q
   have:=bP h q (by lia) (by lia);lia
  obtain ⟨l1,hl1,hb⟩:=sb_step (σ:=σ) hg (hl.mono W.i W.m) hp hne
  have he:emp Vt ((p+t+1)%Vt.m)=E V (p+t+1):=W.emp (by lia) (by lia) ht
  have W2:=W.step h ht (by lia)
  have hl2:=hl1.mono W.i.symm W.m.symm
  rw [he] at hl2 hb
  rw [W.m] at hb
  rw [iA,hb]
  by_cases e:p+t+1=z
  ·rw [e,hz,if_pos rfl] at hl2
   rw [e,hz]
   refine ⟨_,l1,z,?_,hl2,rfl⟩
   rw [e] at W2
   have:z - p=t+1:=by lia
   rw [this];exact W2
  ·rw [full (p+t+1) (by lia) (by lia),if_neg (by decide)] at hl2
   rw [full (p+t+1) (by lia) (by lia)]
   obtain ⟨n,rfl⟩:∃ m,n=m+1:=⟨n - 1,by lia⟩
   replace ih:=ih n rfl
   all_goals
    exact ih f (t+1) _ l1 (by lia) (by lia) W2 (by lia) (by lia) (by rw [show p+(t+1)+1=p+t+1+1 by lia];exact hl2)
theorem evIf {σ:Sto} {l:Loc} {a b:Int} {x y:String} (h1:l x=some (.int a)) (h2:l y=some (.int b)):iteF (cmpT .NotEq (varF x) (varF y)) (kF (.int 1)) (kF (.int 0)) l σ=some (.int (b2i (decide (a≠b))),σ):=by
 by_cases e:a=b
 ·rw [decide_eq_false fun z=>z e];exact iteE (bD (aB h1) (aB h2) (congrArg some (bne_eq_false_iff_eq.mpr e))) rfl
 ·rw [decide_eq_true e];exact iteT (bD (aB h1) (aB h2) (congrArg some (bne_iff_ne.mpr e))) rfl
end
theorem bC {ps:List String} {b:SF} {vs:List Val} {σ σ':Sto} {l':Loc} (hl:vs.length=ps.length) (h:b (aJ ps vs) σ=some (.next,l',σ')):bQ ps b vs σ=some (.none,σ'):=by
 unfold bQ;rw [if_pos hl,h];rfl
theorem eC {ps:List String} {b:SF} {vs:List Val} {σ σ':Sto} {l':Loc} {v:Val} (hl:vs.length=ps.length) (h:b (aJ ps vs) σ=some (.ret v,l',σ')):bQ ps b vs σ=some (v,σ'):=by
 unfold bQ;rw [if_pos hl,h];rfl
section
variable {σ:Sto} {V:View} {H:Int->Int}
noncomputable def finV (Vz:View) (p Q r:Int) (c s b:Bool) (p1:Int):View:={ Vz with flt:=upd Vz.flt p r,occ:=upd Vz.occ Q true,con:=if b=true then upd (upd Vz.con p c) p1 true else upd Vz.con p c,shf:=upd Vz.shf p s }
noncomputable def sFin:SF:=(seqB (bF (varF "r") (aC 467 "_filter" (varF "self")) (varF "insert_idx"))
 (seqB (aQ 183 aH (kF (.int 1)) (aC 467 "_is_occupied" (varF "self")) (varF "q"))
 (seqB (aQ 183 aH (iteF (cmpT .NotEq (varF "insert_idx") (varF "orig_idx")) (kF (.int 1)) (kF (.int 0))) (aC 467 "_is_continuation" (varF "self")) (varF "insert_idx"))
 (seqB (aQ 183 aH (iteF (cmpT .NotEq (varF "insert_idx") (varF "q")) (kF (.int 1)) (kF (.int 0))) (aC 467 "_is_shifted" (varF "self")) (varF "insert_idx"))
 (ifS (cmpT .Eq (varF "flag") (kF (.int 1))) (aQ 183 aH (kF (.int 1)) (aC 467 "_is_continuation" (varF "self")) (binF .BitAnd (binF .Add (varF "insert_idx") (kF (.int 1))) (aC 467 "_QuotientFilter__mod_size" (varF "self")))) nilB)))))
noncomputable def sFin0:SF:=(seqB (bF (varF "r") (aC 467 "_filter" (varF "self")) (varF "insert_idx"))
 (seqB (aQ 183 aH (kF (.int 1)) (aC 467 "_is_occupied" (varF "self")) (varF "q"))
 (seqB (aQ 183 aH (iteF (cmpT .NotEq (varF "insert_idx") (varF "orig_idx")) (kF (.int 1)) (kF (.int 0))) (aC 467 "_is_continuation" (varF "self")) (varF "insert_idx"))
 (aQ 183 aH (iteF (cmpT .NotEq (varF "insert_idx") (varF "q")) (kF (.int 1)) (kF (.int 0))) (aC 467 "_is_shifted" (varF "self")) (varF "insert_idx")))))
structure FLoc (V:View) (p q r o fl:Int) (l:Loc):Prop where
 self:l "self"=some (.ref V.i)
 ins:l "insert_idx"=some (.int p)
 q:l "q"=some (.int q)
 r:l "r"=some (.int r)
 o:l "orig_idx"=some (.int o)
 f:l "flag"=some (.int fl)
theorem tE (h:Good V) {p Q r o fl:Int} {l:Loc} (c:FLoc V p Q r o fl l) (hp:In V p) (hQ:In V Q):sFin0 l (qf σ V)=some (.next,l,qf σ (finV V p Q r (decide (p≠o)) (decide (p≠Q)) false 0)):=by
 obtain ⟨l1,l2,l3,l4,l5,l6⟩:=c
 unfold sFin0
 refine seqN (stF h l1 (aB l4) (aB l2) hp) ?_
 refine seqN (stO (h.flt _) l1 k1 (aB l3) hQ) ?_
 refine seqN (stC ((h.flt _).occ _) l1 (evIf l2 l5) (aB l2) hp) ?_
 exact stS (((h.flt _).occ _).con _) l1 (evIf l2 l3) (aB l2) hp
theorem sFin_step (h:Good V) {p Q r o fl:Int} {l:Loc} (c:FLoc V (p%V.m) Q r o fl l) (hQ:In V Q):sFin l (qf σ V)=some (.next,l,qf σ (finV V (p%V.m) Q r (decide (p%V.m≠o)) (decide (p%V.m≠Q)) (decide (fl=1)) ((p+1)%V.m))):=by
 have hp:=bE h p
 obtain ⟨l1,l2,l3,l4,l5,l6⟩:=c
 unfold sFin
 refine seqN (stF h l1 (aB l4) (aB l2) hp) ?_
 refine seqN (stO (h.flt _) l1 k1 (aB l3) hQ) ?_
 refine seqN (stC ((h.flt _).occ _) l1 (evIf l2 l5) (aB l2) hp) ?_
 refine seqN (stS (((h.flt _).occ _).con _) l1 (evIf l2 l3) (aB l2) hp) ?_
 have g4:=(((h.flt (upd V.flt (p%V.m) r)).occ (upd V.occ Q true)).con (upd V.con (p%V.m) (decide (p%V.m≠o)))).shf (upd V.shf (p%V.m) (decide (p%V.m≠Q)))
 by_cases e:fl=1
 ·rw [decide_eq_true e]
  exact ifT (bD (aB l6) rfl (congrArg some (beq_iff_eq.mpr e))) (stC (v:=true) g4 l1 k1 (evUp g4 (x:="insert_idx") (i:=p) l1 l2) (bE h (p+1)))
 ·rw [decide_eq_false e]
  exact ifF (bD (aB l6) rfl (congrArg some (beq_eq_false_iff_ne.mpr e))) rfl
structure Ins0 (V V':View) (H:Int->Int) (Q r p z J:Int):Prop where
 eq:V'={ V with occ:=upd V.occ Q true,con:=V'.con,shf:=V'.shf,flt:=V'.flt }
 C:∀ i,p<=i->i<p+V.m->Cn V' i=(if i=p then decide (p≠J) else if i<=z then (if i=p+1/\H p=Q then true else Cn V (i - 1)) else Cn V i)
 S:∀ i,p<=i->i<p+V.m->Sh V' i=(if i=p then decide (p≠Q) else if i<=z then true else Sh V i)
 F:∀ i,p<=i->i<p+V.m->Fl' V' i=(if i=p then r else if i<=z then Fl' V (i - 1) else Fl' V i)
theorem fin_ins {Vz:View} (h:Good V) {p z Q r J:Int} {b:Bool} (hQ:In V Q) (hJ1:J<=p) (hJ2:p<J+V.m) (hQ1:Q<=p) (hQ2:p<Q+V.m) (hpz:p<=z) (hzm:z<p+V.m) (W:WT V Vz p (z - p))
  (hb:b=true ↔ (p<z/\H p=Q)):Ins0 V (finV Vz (p%V.m) Q r (decide (p%V.m≠J%V.m)) (decide (p%V.m≠Q)) b ((p+1)%V.m)) H Q r p z J:=by
 have hmod:Q%V.m=Q:=Int.emod_eq_of_lt hQ.1 hQ.2
 have eJ:decide (p%V.m≠J%V.m)=decide (p≠J):=by
  by_cases e:p=J
  ·simp [e]
  ·have:p%V.m≠J%V.m:=fun q=>e (bP h q (by lia) (by lia))
   simp [e,this]
 have eQ:decide (p%V.m≠Q)=decide (p≠Q):=by
  by_cases e:p=Q
  ·rw [e,hmod]
  ·have:p%V.m≠Q:=fun q=>e (bP h (by rw [q,hmod]) (by lia) (by lia))
   simp [e,this]
 have hm:(finV Vz (p%V.m) Q r (decide (p%V.m≠J%V.m)) (decide (p%V.m≠Q)) b ((p+1)%V.m)).m=V.m:=W.m
 refine ⟨by unfold finV;rw [W.eq],fun i h1 h2=>?_,fun i h1 h2=>?_,fun i h1 h2=>?_⟩
 ·have Ci:=W.C i h1 h2
  unfold Cn at Ci |-
  rw [hm]
  rw [W.m] at Ci
  rw [show p+(z - p)=z by lia] at Ci
  unfold finV
  dsimp only
  rw [eJ]
  cases hbb:b with
  | false=>
   have hnb:¬ (p<z/\H p=Q):=fun q=>by rw [hb.mpr q] at hbb;cases hbb
   rw [if_neg (by decide),cG h (by lia) (by lia)]
   by_cases e:i=p
   ·rw [if_pos e,if_pos e]
   ·rw [if_neg e,if_neg e,Ci,if_neg e]
    by_cases e2:i<=z
    ·rw [if_pos e2,if_pos e2,if_neg (by rintro ⟨q1,q2⟩;exact hnb ⟨by lia,q2⟩)]
    ·rw [if_neg e2,if_neg e2]
  | true=>
   have hbp:=hb.mp hbb
   rw [if_pos rfl,cG h (by lia) (by lia),cG h (by lia) (by lia)]
   by_cases e:i=p
   ·rw [if_neg (by lia),if_pos e,if_pos e]
   ·rw [if_neg e]
    by_cases e3:i=p+1
    ·rw [if_pos e3,if_neg e,if_pos (by lia),if_pos ⟨e3,hbp.2⟩]
    ·rw [if_neg e3,if_neg e,Ci,if_neg e]
     by_cases e2:i<=z
     ·rw [if_pos e2,if_pos e2,if_neg (by simp [e3])]
     ·rw [if_neg e2,if_neg e2]
 ·have Si:=W.S i h1 h2
  unfold Sh at Si |-
  rw [hm]
  rw [W.m,show p+(z - p)=z by lia] at Si
  unfold finV
  dsimp only
  rw [eQ,cG h (by lia) (by lia)]
  by_cases e:i=p
  ·rw [if_pos e,if_pos e]
  ·rw [if_neg e,if_neg e,Si,if_neg e]
 ·have Fi:=W.F i h1 h2
  unfold Fl' at Fi |-
  rw [hm]
  rw [W.m,show p+(z - p)=z by lia] at Fi
  unfold finV
  dsimp only
  rw [cG h (by lia) (by lia)]
  by_cases e:i=p
  ·rw [if_pos e,if_pos e]
  ·rw [if_neg e,if_neg e,Fi,if_neg e]
theorem jL (h:Good V) {p z Q r J fl:Int} (hQ:In V Q) (hJ1:J<=p) (hJ2:p<J+V.m) (hQ1:Q<=p) (hQ2:p<Q+V.m) (hpz:p<=z) (hzm:z<p+V.m) (full:∀ k,p<=k->k<z->E V k=false) (hz:E V z=true)
  (hfl:p<z->(fl=1 ↔ H p=Q)):∃ V',Ins0 V V' H Q r p z J/\bV [.ref V.i,.int Q,.int r,.int (J%V.m),.int (p%V.m),.int fl] (qf σ V)=some (.none,qf σ V'):=by
 have hp:=bE h p
 let l:=aJ ["self","q","r","orig_idx","insert_idx","flag"] [.ref V.i,.int Q,.int r,.int (J%V.m),.int (p%V.m),.int fl]
 have c:FLoc V (p%V.m) Q r (J%V.m) fl l:=by constructor<;>simp [l,aJ]
 have hs:dT=ifS (valT (aF 467 "_is_empty_element" aI (varF "self") (aA (varF "insert_idx") nilL))) sFin0 (seqB (setF "next_idx" (binF .BitAnd (binF .Add (varF "insert_idx") (kF (.int 1))) (aC 467 "_QuotientFilter__mod_size" (varF "self"))))
  (seqB (bG (valT (kF (.bool true))) sb 100) sFin)):=rfl
 have he:=qQ (σ:=σ) h c.self c.ins hp
 have hee:emp V (p%V.m)=E V p:=rfl
 rw [hee] at he
 by_cases e:p=z
 ·subst e
  rw [hz] at he
  refine ⟨_,fin_ins (b:=false) h hQ hJ1 hJ2 hQ1 hQ2 hpz hzm (by rw [Int.sub_self];exact WT.zero p) (by simp),?_⟩
  have hf:sFin0 l (qf σ V)=some (.next,l,qf σ (finV V (p%V.m) Q r (decide (p%V.m≠J%V.m)) (decide (p%V.m≠Q)) false ((p+1)%V.m))):=tE (σ:=σ) h c hp hQ
  have:dT l (qf σ V)=some (.next,l,qf σ (finV V (p%V.m) Q r (decide (p%V.m≠J%V.m)) (decide (p%V.m≠Q)) false ((p+1)%V.m))):=by rw [hs];unfold ifS valT;rw [he];exact hf
  exact bC rfl this
 ·have hlt:p<z:=by lia
  rw [full p (Int.le_refl _) hlt] at he
  have hup:=evUp (σ:=σ) h (x:="insert_idx") (i:=p) c.self c.ins
  obtain ⟨Vz,l',x,W,c2,hw⟩:=tD (σ:=σ) h (p:=p) (z:=z) (q:=Q) (r:=r) (o:=J%V.m) (fl:=fl) hzm full hz (z - (p+0)).toNat 100 0 V (l.put "next_idx" (.int ((p+1)%V.m))) (Int.le_refl _) (by lia) (WT.zero p) rfl (by have:=h.mc;lia)
   (by rw [Int.add_zero];constructor<;>simp [Loc.put,c.self,c.ins,c.q,c.r,c.o,c.f])
  have gz:=W.good h
  have c3:FLoc Vz (p%Vz.m) Q r (J%V.m) fl l':=⟨by rw [W.i];exact c2.self,by rw [W.m];exact c2.ins,c2.q,c2.r,c2.o,c2.f⟩
  have hf:=sFin_step (σ:=σ) gz c3 (by unfold In;rw [W.m];exact hQ)
  rw [W.m] at hf
  refine ⟨_,fin_ins (b:=decide (fl=1)) h hQ hJ1 hJ2 hQ1 hQ2 hpz hzm W (by simp [hfl hlt,hlt]),?_⟩
  have:dT l (qf σ V)=some (.next,l',qf σ (finV Vz (p%V.m) Q r (decide (p%V.m≠J%V.m)) (decide (p%V.m≠Q)) (decide (fl=1)) ((p+1)%V.m))):=by
   rw [hs];unfold ifS valT;rw [he]
   exact seqN (aT hup) (seqN hw hf)
  exact bC rfl this
end
section
variable {σ:Sto} {V:View} {H:Int->Int}
noncomputable def Has (V:View) (H:Int->Int) (k r:Int):Prop:=∃ i,E V i=false/\H i%V.m=k/\Fl' V i=r
theorem lK (h:Good V) (L:LayW V H) {Q r:Int} (hQ:In V Q):Has V H Q r ↔ ∃ i,E V i=false/\H i=Q/\Fl' V i=r:=by
 have hmod:Q%V.m=Q:=Int.emod_eq_of_lt hQ.1 hQ.2
 constructor
 ·rintro ⟨i,h1,h2,h3⟩
  refine ⟨i+V.m*(Q / V.m - H i / V.m),by rw [cU];exact h1,?_,by rw [Fl_k];exact h3⟩
  rw [fW L.per,Int.mul_sub]
  have e1:=Int.emod_add_mul_ediv (H i) V.m
  have e2:=Int.emod_add_mul_ediv Q V.m
  lia
 ·rintro ⟨i,h1,h2,h3⟩
  exact ⟨i,h1,by rw [h2,hmod],h3⟩
theorem Ins0.ins {V':View} {Q r p z J:Int} (h:Good V) (L:Lay V H) (hQ:In V Q) (I:Ins0 V V' H Q r p z J) (j1:H (J - 1)<Q) (j2:Q<=H J) (jp:J<=p) (run:∀ k,J<=k->k<p->H k=Q/\E V k=false/\Fl' V k<r)
  (above:E V p=false->H p=Q->r<Fl' V p) (hne:E V Q=false\/p=Q) (pz:p<=z) (zm:z<p+V.m) (full:∀ k,p<=k->k<z->E V k=false) (hz:E V z=true) :
  Ins V V' H Q r p z J:=by
 have hm:V'.m=V.m:=by rw [I.eq];rfl
 have hmod:Q%V.m=Q:=Int.emod_eq_of_lt hQ.1 hQ.2
 have hO:∀ k,O V' k=(Mine.O V k || decide (k%V.m=Q%V.m)):=by
  intro k
  unfold Mine.O
  rw [hm,I.eq]
  show upd V.occ Q true (k%V.m)=_
  unfold upd
  rw [hmod]
  by_cases e:k%V.m=Q<;>simp [e]
 exact ⟨hm,j1,j2,jp,run,above,hne,pz,zm,full,hz,I.C,I.S,I.F,hO⟩
theorem Ins.ex {V':View} {Q r p z J:Int} (h:Good V) (L:Lay V H) (I:Ins V V' H Q r p z J) (hole2:∃ e,E V e=true/\e%V.m≠z%V.m):∃ e,E V' e=true:=by
 obtain ⟨hm,j1,j2,jp,run,above,hne,pz,zm,full,hz,C,S,F,hO⟩:=I
 obtain ⟨e,e1,e2⟩:=hole2
 obtain ⟨w,t,w1,w2,rfl⟩:=win h p e
 rw [cU] at e1
 rw [Int.add_mul_emod_self_left] at e2
 have hwz:w≠z:=fun q=>e2 (by rw [q])
 have hzw:z<w:=by
  by_cases q:w<z
  ·rw [full w w1 q] at e1;cases e1
  ·lia
 have hQp:Q<=p:=by have:=L.le J;lia
 have hQH:Q<=H p:=Int.le_trans j2 (L.mono jp)
 refine ⟨w,?_⟩
 have hnq:w%V.m≠Q%V.m:=by
  intro q
  have hQlow:p - V.m<Q:=by
   by_cases e:p=J
   ·have:=L.gt h (J - 1);lia
   ·have:=L.gt_ne h (run (p - 1) (by lia) (by lia)).2.1
    have:=(run (p - 1) (by lia) (by lia)).1
    lia
  have:w=Q+V.m:=bP h (by rw [mY];exact q) (by lia) (by lia)
  rcases hne with z1 | z1
  ·rw [this,nW,z1] at e1;cases e1
  ·lia
 rw [dK] at e1 |-
 rw [S w w1 w2,C w w1 w2,hO,if_neg (by lia),if_neg (by lia),if_neg (by lia),if_neg (by lia)]
 simpa [hnq] using e1
theorem Ins.has {V':View} {Q r p z J:Int} (h:Good V) (h':Good V') (L:Lay V H) (hQ:In V Q) (I:Ins V V' H Q r p z J) (k r':Int):Has V' (insH V H Q p z) k r' ↔ Has V H k r'\/(k=Q/\r'=r):=by
 have hm:=h.mpos
 have hmod:Q%V.m=Q:=Int.emod_eq_of_lt hQ.1 hQ.2
 have L':=I.lay h h' L
 have hW:∀ {i},p<=i->i<p+V.m->insH V H Q p z i=(if i=p then Q else if i<=z then H (i - 1) else H i):=fun h1 h2=>eK h1 h2
 have pk':=fW (m:=V.m) (H:=insH V H Q p z) (fun i=>cW i)
 have pk:=fW L.per
 have hpz:=I.pz
 have hzm:=I.zm
 have hE':∀ i,p<=i->i<=z->E V' i=false:=by
  intro i i1 i2
  have i3:i<p+V.m:=by lia
  rw [dK,I.S i i1 i3,I.O i]
  by_cases e:i=p
  ·rw [if_pos e]
   by_cases e2:p=Q
   ·have:i%V.m=Q%V.m:=by rw [e,e2]
    simp [this]
   ·simp [e2]
  ·rw [if_neg e,if_pos i2];simp
 have hEz:∀ i,z<i->i<p+V.m->E V i=false->E V' i=false:=by
  intro i i1 i2 he
  rw [dK] at he |-
  rw [I.S i (by lia) i2,I.C i (by lia) i2,I.O i,if_neg (by lia),if_neg (by lia),if_neg (by lia),if_neg (by lia)]
  cases q:Mine.O V i<;>simp [q] at he |-
  intro _
  exact he
 have hEz':∀ i,z<i->i<p+V.m->E V' i=false->E V i=false:=by
  intro i i1 i2 he
  cases q:E V i with
  | false=>rfl
  | true=>
   exfalso
   rw [dK] at he q
   rw [I.S i (by lia) i2,I.C i (by lia) i2,I.O i,if_neg (by lia),if_neg (by lia),if_neg (by lia),if_neg (by lia)] at he
   have hiq:i%V.m=Q%V.m:=by
    by_cases e:i%V.m=Q%V.m
    ·exact e
    ·simp [e] at he q;simp [q] at he
   have hQp:Q<=p:=by have:=L.le J;have:=I.j2;have:=I.jp;lia
   have hQlow:p - V.m<Q:=by
    by_cases e:p=J
    ·have:=L.gt h (J - 1);have:=I.j1;lia
    ·have:=L.gt_ne h (I.run (p - 1) (by have:=I.jp;lia) (by lia)).2.1
     have:=(I.run (p - 1) (by have:=I.jp;lia) (by lia)).1
     lia
   have e2:i=Q+V.m:=bP h (by rw [mY];exact hiq) (by lia) (by lia)
   rcases I.hne with z1 | z1
   ·rw [<- dK,e2,nW,z1] at q;cases q
   ·lia
 constructor
 ·rintro ⟨i,h1,h2,h3⟩
  obtain ⟨w,t,w1,w2,rfl⟩:=win h p i
  rw [<- I.m,cU] at h1
  rw [I.m,pk',Int.add_mul_emod_self_left,hW w1 w2] at h2
  rw [<- I.m,Fl_k,I.F w w1 w2] at h3
  by_cases q:w=p
  ·rw [if_pos q] at h2 h3
   exact .inr ⟨by rw [<- h2,hmod],h3.symm⟩
  ·rw [if_neg q] at h2 h3
   by_cases q2:w<=z
   ·rw [if_pos q2] at h2 h3
    exact .inl ⟨w - 1,I.full _ (by lia) (by lia),h2,h3⟩
   ·rw [if_neg q2] at h2 h3
    exact .inl ⟨w,hEz' w (by lia) w2 h1,h2,h3⟩
 ·rintro (⟨i,h1,h2,h3⟩ | ⟨rfl,rfl⟩)
  ·obtain ⟨w,t,w1,w2,rfl⟩:=win h p i
   rw [cU] at h1
   rw [pk,Int.add_mul_emod_self_left] at h2
   rw [Fl_k] at h3
   have hwz:w≠z:=fun e=>by rw [e,I.hz] at h1;cases h1
   by_cases q2:w<z
   ·refine ⟨w+1,hE' _ (by lia) (by lia),?_,?_⟩
    ·rw [I.m,hW (by lia) (by lia),if_neg (by lia),if_pos (by lia),show w+1 - 1=w by lia];exact h2
    ·rw [I.F _ (by lia) (by lia),if_neg (by lia),if_pos (by lia),show w+1 - 1=w by lia];exact h3
   ·refine ⟨w,hEz w (by lia) w2 h1,?_,?_⟩
    ·rw [I.m,hW w1 w2,if_neg (by lia),if_neg (by lia)];exact h2
    ·rw [I.F w w1 w2,if_neg (by lia),if_neg (by lia)];exact h3
  ·refine ⟨p,hE' p (Int.le_refl _) hpz,?_,?_⟩
   ·rw [I.m,hW (Int.le_refl _) (by lia),if_pos rfl,hmod]
   ·rw [I.F p (Int.le_refl _) (by lia),if_pos rfl]
theorem Lay.next_hole (h:Good V) (L:Lay V H) (p:Int):∃ z,p<=z/\z<p+V.m/\E V z=true/\∀ k,p<=k->k<z->E V k=false:=by
 obtain ⟨e,he,h1,h2⟩:=L.hole_below h (p+V.m - 1)
 have key:∀ (n:Nat) (q:Int),p<=q->(∀ k,p<=k->k<q->E V k=false)->(e - q).toNat=n->q<=e->∃ z,p<=z/\z<=e/\E V z=true/\∀ k,p<=k->k<z->E V k=false:=by
  intro n
  induction n with
  | zero=>
   intro q q1 q2 q3 q4
   have:q=e:=by lia
   subst this
   exact ⟨q,q1,Int.le_refl _,he,q2⟩
  | succ n ih=>
   intro q q1 q2 q3 q4
   cases hq:E V q with
   | true=>exact ⟨q,q1,q4,hq,q2⟩
   | false=>
    refine ih (q+1) (by lia) (fun k k1 k2=>?_) (by lia) (by lia)
    by_cases z:k=q
    ·rw [z];exact hq
    ·exact q2 k k1 (by lia)
 obtain ⟨z,z1,z2,z3,z4⟩:=key _ p (Int.le_refl _) (fun k k1 k2=>absurd k1 (by lia)) rfl (by lia)
 exact ⟨z,z1,by lia,z3,z4⟩
end
section
variable {σ:Sto} {V:View} {H:Int->Int}
theorem fK {t:TF} {f g:SF} {l:Loc} {σ σ':Sto} (h:t l σ=some (true,σ')):ifS t f g l σ=f l σ':=by unfold ifS;rw [h];rfl
theorem cC {t:TF} {f g:SF} {l:Loc} {σ σ':Sto} (h:t l σ=some (false,σ')):ifS t f g l σ=g l σ':=by unfold ifS;rw [h];rfl
theorem cmpK {x:String} {a b:Int} {l:Loc} {σ:Sto} (h:l x=some (.int a)):cmpT .Eq (varF x) (kF (.int b)) l σ=some (decide (a=b),σ):=bD (aB h) rfl rfl
theorem dH {e:EF} {l:Loc} {σ σ':Sto} {b:Bool} (h:e l σ=some (.bool b,σ')):valT e l σ=some (b,σ'):=by unfold valT;rw [h];rfl
noncomputable def fE:EF:=(binF .Add (binF .Add (aF 183 "check_bit" aK (aC 467 "_is_occupied" (varF "self")) (aA (varF "start_idx") nilL)) (aF 183 "check_bit" aK (aC 467 "_is_continuation" (varF "self")) (aA (varF "start_idx") nilL))) (aF 183 "check_bit" aK (aC 467 "_is_shifted" (varF "self")) (aA (varF "start_idx") nilL)))
noncomputable def iT:TF:=andT [(cmpT .Eq (varF "starts") (kF (.int 0))),(cmpT .NotEq (varF "f") (kF (.int 0))),(cmpT .Gt (varF "r") (idxF (aC 467 "_filter" (varF "self")) (varF "start_idx")))]
noncomputable def ib:SF:=seqB (setF "start_idx" (binF .BitAnd (binF .Add (varF "start_idx") (kF (.int 1))) (aC 467 "_QuotientFilter__mod_size" (varF "self"))))
 (seqB (ifS (cmpT .Eq (subF 183 aD (aC 467 "_is_continuation" (varF "self")) (varF "start_idx")) (kF (.int 0))) (augN .Add "starts" (kF (.int 1))) nilB)
 (setF "f" fE))
noncomputable def fA (o s:String) (fl:Int):SF:=aU (aF 467 "_shift_insert" bV (varF "self") (aA (varF "q") (aA (varF "r") (aA (varF o) (aA (varF s) (aA (kF (.int fl)) nilL))))))
noncomputable def insB:SF:=(seqB (setF "orig_start_idx" (varF "start_idx"))
 (seqB (setF "starts" (kF (.int 0)))
 (seqB (setF "f" fE)
 (seqB (bG iT ib 100)
 (ifS (cmpT .Eq (varF "starts") (kF (.int 1))) (fA "orig_start_idx" "start_idx" 0) (fA "orig_start_idx" "start_idx" 1))))))
noncomputable def insA:SF:=(ifS (valT (aF 467 "_is_empty_element" aI (varF "self") (aA (varF "q") nilL))) (seqB (bF (varF "r") (aC 467 "_filter" (varF "self")) (varF "q"))
 (aQ 183 aH (kF (.int 1)) (aC 467 "_is_occupied" (varF "self")) (varF "q"))) (seqB (setF "start_idx" (aF 467 "_get_start_index" bY (varF "self") (aA (varF "q") nilL)))
 (ifS (cmpT .Eq (subF 183 aD (aC 467 "_is_occupied" (varF "self")) (varF "q")) (kF (.int 0))) (fA "start_idx" "start_idx" 0) insB)))
theorem pB:pC=(seqB (ifS (cmpT .Eq (aC 467 "_size" (varF "self")) (aC 467 "_elements_added" (varF "self"))) (fun _ _=>none) nilB)
 (seqB insA (iH 467 "_elements_added" .Add (varF "self") (kF (.int 1))))):=rfl
theorem fE_ev (h:Good V) {l:Loc} {j:Int} (hs:l "self"=some (.ref V.i)) (hx:l "start_idx"=some (.int (j%V.m))):fE l (qf σ V)=some (.int (b2i (O V j)+b2i (Cn V j)+b2i (Sh V j)),qf σ V):=
 have hj:=bE h j
 bU (bU (cE (evA (aB hs) qf_i rfl) (qf_o h) rfl (lst1 (aB hx)) (chk_o h hj)) (cE (evA (aB hs) qf_i rfl) (qf_c h) rfl (lst1 (aB hx)) (chk_c h hj)) rfl) (cE (evA (aB hs) qf_i rfl) (qf_s h) rfl (lst1 (aB hx)) (chk_s h hj)) rfl
theorem bits0 (j:Int):b2i (O V j)+b2i (Cn V j)+b2i (Sh V j)=0 ↔ E V j=true:=by
 rw [dK];cases O V j<;>cases Cn V j<;>cases Sh V j<;>simp [b2i]
structure IL (V:View) (Q r o j s f:Int) (l:Loc):Prop where
 self:l "self"=some (.ref V.i)
 q:l "q"=some (.int Q)
 r:l "r"=some (.int r)
 o:l "orig_start_idx"=some (.int o)
 j:l "start_idx"=some (.int (j%V.m))
 s:l "starts"=some (.int s)
 f:l "f"=some (.int f)
theorem iT_step (h:Good V) {Q r o j s f:Int} {l:Loc} (c:IL V Q r o j s f l):iT l (qf σ V)=some (decide (s=0) && decide (f≠0) && decide (Fl' V j<r),qf σ V):=
 (nK (bD (aB c.s) rfl rfl) (nK (bD (aB c.f) rfl rfl) (nK (c:=true) (bD (aB c.r) (evF h c.self (aB c.j) (bE h j)) rfl) rfl))).trans (by rw [Bool.and_true,Bool.and_assoc,decide_not];rfl)
theorem ib_step (h:Good V) {Q r o j s f:Int} {l:Loc} (c:IL V Q r o j s f l):∃ l1,IL V Q r o (j+1) (if Cn V (j+1)=true then s else s+1) (b2i (O V (j+1))+b2i (Cn V (j+1))+b2i (Sh V (j+1))) l1/\ib l (qf σ V)=some (.next,l1,qf σ V):=by
 let m1:=l.put "start_idx" (.int ((j+1)%V.m))
 have M1:m1 "self"=some (.ref V.i):=c.self
 have t:=bD (evC (σ:=σ) (l:=m1) (ge:=varF "start_idx") h M1 (aB rfl) (bE h (j+1))) (g:=kF (.int 0)) rfl qU
 cases q:Cn V (j+1) with
 | true=>exact ⟨m1.put "f" _,⟨c.self,c.q,c.r,c.o,rfl,c.s,rfl⟩,seqN (aT (evUp h c.self c.j)) (seqN (ifF (t.trans (by rw [show V.con ((j+1)%V.m)=true from q];rfl)) rfl) (aT ((fE_ev h M1 rfl).trans (by rw [q]))))⟩
 | false=>exact ⟨(m1.put "starts" (.int (s+1))).put "f" _,⟨c.self,c.q,c.r,c.o,rfl,rfl,rfl⟩,seqN (aT (evUp h c.self c.j)) (seqN (ifT (t.trans (by rw [show V.con ((j+1)%V.m)=false from q];rfl)) (stAug c.s rfl rfl)) (aT ((fE_ev (l:=m1.put "starts" (.int (s+1))) h c.self rfl).trans (by rw [q]))))⟩
inductive InsP (σ:Sto) (V:View) (H:Int->Int) (Q r J:Int) (fuel:Nat) (l:Loc):Prop
 | mk (p s f:Int) (l':Loc) (e:bG iT ib fuel l (qf σ V)=some (.next,l',qf σ V)) (I:IL V Q r (J%V.m) p s f l') (h1:J<=p) (h2:∀ k,J<=k->k<p->H k=Q/\E V k=false/\Fl' V k<r)
  (h3:(s=0/\H p=Q/\E V p=false/\r<Fl' V p)\/(s=1/\Q<H p))
theorem ins_loop (h:Good V) (L:Lay V H) {Q r J:Int} (hJ:H J=Q) (hJ1:H (J - 1)<Q) (hnot:∀ i,E V i=false->H i=Q->Fl' V i≠r):∀ (n fuel:Nat) (j:Int) (l:Loc),J<=j->(∀ k,J<=k->k<j->H k=Q/\E V k=false/\Fl' V k<r)->H j=Q->E V j=false->(J+V.m - j).toNat=n->n<fuel->
  (∃ f,f≠0/\IL V Q r (J%V.m) j 0 f l)->InsP σ V H Q r J fuel l:=by
 refine meas fun n ih fuel j l h1 h2 h3 h4 hn hf hl=>?_
 obtain ⟨f0,hf0,c⟩:=hl
 obtain ⟨f,rfl⟩:∃ f,fuel=f+1:=⟨fuel - 1,by lia⟩
 have hne:=hnot j h4 h3
 have ht:=iT_step (σ:=σ) h c
 rw [decide_eq_true hf0] at ht
 by_cases z:Fl' V j<r
 ·rw [decide_eq_true z] at ht
  obtain ⟨l1,c1,hb⟩:=ib_step (σ:=σ) h c
  have hlt:j<J+V.m:=Int.not_le.mp fun z2=>by
   have:=L.mono z2;have:=L.per J;have:=h.mpos;lia
  have run':∀ k,J<=k->k<j+1->H k=Q/\E V k=false/\Fl' V k<r:=fun k k1 k2=>by
   by_cases z3:k=j
   ·rw [z3];exact ⟨h3,h4,z⟩
   ·exact h2 k k1 (by lia)
  cases q:Cn V (j+1) with
  | false=>
   rw [q] at c1
   obtain ⟨f',rfl⟩:∃ f',f=f'+1:=⟨f - 1,by lia⟩
   refine ⟨j+1,1,_,l1,whN ht hb (whF (iT_step h c1)),c1,by lia,run',.inr ⟨rfl,?_⟩⟩
   have:=L.mono1 j
   have hne:H (j+1)≠H j:=fun e=>by rw [(L.con _).mpr (by rw [show j+1 - 1=j by lia];exact e)] at q;cases q
   lia
  | true=>
   rw [q] at c1
   have e1:=(L.con _).mp q
   rw [show j+1 - 1=j by lia] at e1
   have e2:E V (j+1)=false:=by rw [dK,q,Bool.not_true,Bool.and_false];rfl
   obtain ⟨n,rfl⟩:∃ m,n=m+1:=⟨n - 1,by lia⟩
   obtain ⟨p,s,f,l',e,o⟩:=ih n rfl f (j+1) l1 (by lia) run' (e1.trans h3) e2 (by lia) (by lia) ⟨_,fun z3=>(by rw [<- q] at z3;rw [(bits0 _).mp z3] at e2;cases e2),c1⟩
   exact ⟨p,s,f,l',whN ht hb e,‹_›,‹_›,‹_›,‹_›⟩
 ·rw [decide_eq_false z] at ht
  exact ⟨j,0,f0,l,whF ht,c,h1,h2,.inl ⟨rfl,h3,h4,by lia⟩⟩
theorem lR (h:Good V) {l:Loc} {Q r a b fl:Int} {o s:String} {V':View} (hs:l "self"=some (.ref V.i)) (hq:l "q"=some (.int Q)) (hr:l "r"=some (.int r)) (ho:l o=some (.int a)) (hx:l s=some (.int b))
  (hc:bV [.ref V.i,.int Q,.int r,.int a,.int b,.int fl] (qf σ V)=some (.none,qf σ V')):fA o s fl l (qf σ V)=some (.next,l,qf σ V'):=by
 exact cM (cE (aB hs) qf_i rfl (lstC (aB hq) (lstC (aB hr) (lstC (aB ho) (lstC (aB hx) (lstC rfl rfl))))) hc)
structure Ins1 (V V':View) (Q:Int):Prop where
 eq:V'={ V with occ:=V'.occ,con:=V'.con,shf:=V'.shf,flt:=V'.flt }
structure Inserted (V V':View) (H H':Int->Int) (Q r:Int):Prop where
 eq:V'={ V with occ:=V'.occ,con:=V'.con,shf:=V'.shf,flt:=V'.flt }
 lay:LayW V' H'
 hole:(∀ z,∃ e,E V e=true/\e%V.m≠z%V.m)->Lay V' H'
 has:∀ k r',Has V' H' k r' ↔ Has V H k r'\/(k=Q/\r'=r)
inductive InsO (σ:Sto) (V:View) (H:Int->Int) (Q r:Int) (l:Loc):Prop
 | mk (V':View) (H':Int->Int) (l':Loc) (I:Inserted V V' H H' Q r) (e:insA l (qf σ V)=some (.next,l',qf σ V')) (self:l' "self"=some (.ref V.i))
theorem Ins.out (h:Good V) (L:Lay V H) {Q r:Int} (hQ:In V Q) {V':View} {p z J:Int} (I0:Ins0 V V' H Q r p z J) (I:Ins V V' H Q r p z J):∃ H',Inserted V V' H H' Q r:=
 have g':Good V':=by rw [I0.eq];exact ⟨h.lt,h.q⟩
 ⟨_,by rw [I0.eq],I.lay h g' L,fun hole2=>(I.lay h g' L).strong (I.ex h L (hole2 z)),I.has h g' L hQ⟩
theorem insA_spec (h:Good V) (L:Lay V H) {Q r:Int} (hQ:In V Q) (hnot:¬ Has V H Q r) {l:Loc} (l1:l "self"=some (.ref V.i)) (l2:l "q"=some (.int Q)) (l3:l "r"=some (.int r)):InsO σ V H Q r l:=by
 refine byC fun hN=>?_
 replace hN:∀ {V' p z J l'},Ins0 V V' H Q r p z J->Ins V V' H Q r p z J->l' "self"=some (.ref V.i)->insA l (qf σ V)=some (.next,l',qf σ V')->False:=fun I0 I ls e=>
  (I.out h L hQ I0).elim fun H' o=>hN ⟨_,H',_,o,e,ls⟩
 have hmod:Q%V.m=Q:=Int.emod_eq_of_lt hQ.1 hQ.2
 have hnot':∀ i,E V i=false->H i=Q->Fl' V i≠r:=fun i i1 i2 i3=>hnot ((lK h L.toLayW hQ).mpr ⟨i,i1,i2,i3⟩)
 have hemp:=qQ (σ:=σ) h l1 l2 hQ
 have eE:emp V Q=E V Q:=by unfold E;rw [hmod]
 rw [eE] at hemp
 cases q:E V Q with
 | true=>
  rw [q] at hemp
  have hh:=L.hole Q q
  have hl:=L.le (Q - 1)
  let V':View:={ V with occ:=upd V.occ Q true,flt:=upd V.flt Q r }
  have hst:insA l (qf σ V)=some (.next,l,qf σ V'):=by
   unfold insA ifS valT
   rw [hemp]
   exact seqN (stF h l1 (aB l3) (aB l2) hQ) (stO (h.flt _) l1 k1 (aB l2) hQ)
  rw [dK] at q
  have qc:Cn V Q=false:=by cases z:Cn V Q<;>simp [z] at q |-
  have qs:Sh V Q=false:=by cases z:Sh V Q<;>simp [z] at q |-
  rw [<- dK] at q
  have I0:Ins0 V V' H Q r Q Q Q:=by
   refine ⟨rfl,fun i h1 h2=>?_,fun i h1 h2=>?_,fun i h1 h2=>?_⟩
   ·show Cn V i=_
    by_cases e:i=Q
    ·rw [if_pos e,e,qc];simp
    ·rw [if_neg e,if_neg (by lia)]
   ·show Sh V i=_
    by_cases e:i=Q
    ·rw [if_pos e,e,qs];simp
    ·rw [if_neg e,if_neg (by lia)]
   ·show upd V.flt Q r (i%V.m)=_
    have:=cG (F:=V.flt) (v:=r) h (i:=i) (j:=Q) (by lia) (by lia)
    rw [hmod] at this
    rw [this]
    by_cases e:i=Q
    ·rw [if_pos e,if_pos e]
    ·rw [if_neg e,if_neg e,if_neg (by lia)];rfl
  have I:=I0.ins h L hQ (by lia) (by lia) (Int.le_refl _) (fun k k1 k2=>absurd k1 (by lia)) (fun z=>by rw [q] at z;cases z) (.inr rfl) (Int.le_refl _) (by have:=h.mpos;lia) (fun k k1 k2=>absurd k1 (by lia)) q
  exact hN I0 I l1 hst
 | false=>
  rw [q] at hemp
  obtain ⟨J,hg,J1,J2⟩:=sC (σ:=σ) h L.toLayW hQ
  have hJQ:Q<=J:=by have:=L.le J;lia
  have hJm:J<Q+V.m:=by have:=L.gt h (J - 1);lia
  let m0:=l.put "start_idx" (.int (J%V.m))
  have A1:m0 "self"=some (.ref V.i):=l1
  have A2:m0 "q"=some (.int Q):=l2
  have A3:m0 "r"=some (.int r):=l3
  have A4:m0 "start_idx"=some (.int (J%V.m)):=rfl
  have hgc:=cE (x:="_get_start_index") (aB l1) qf_i rfl (lst1 (aB l2)) hg
  have hocc:=evO (σ:=σ) h A1 (aB A2) hQ
  have eO:V.occ Q=O V Q:=by unfold O;rw [hmod]
  rw [eO] at hocc
  have start:insA l (qf σ V)=ifS (cmpT .Eq (subF 183 aD (aC 467 "_is_occupied" (varF "self")) (varF "q")) (kF (.int 0))) (fA "start_idx" "start_idx" 0) insB m0 (qf σ V):=by
   unfold insA
   rw [cC (dH hemp)]
   exact seqN (aT hgc) rfl
  have occT:∀ b,O V Q=b->cmpT .Eq (subF 183 aD (aC 467 "_is_occupied" (varF "self")) (varF "q")) (kF (.int 0)) m0 (qf σ V)=some (!b,qf σ V):=by
   intro b hb
   rw [hb] at hocc
   unfold cmpT
   rw [hocc]
   cases b<;>rfl
  obtain ⟨zJ,_,_,_,_⟩:=L.next_hole h J
  cases qo:O V Q with
  | false=>
   have hJn:H J≠Q:=by
    intro z
    by_cases zz:E V J=true
    ·have:=(L.hole J zz).1
     rw [show J=Q by lia,q] at zz;cases zz
    ·have:E V J=false:=by simpa using zz
     rw [(L.occ Q).mpr ⟨J,this,z⟩] at qo;cases qo
   obtain ⟨z,z1,z2,z3,z4⟩:=L.next_hole h J
   obtain ⟨V',I0,hsp⟩:=jL (σ:=σ) (H:=H) (r:=r) (fl:=0) h hQ (Int.le_refl J) (by have:=h.mpos;lia) hJQ hJm z1 z2 z4 z3 (fun _=>⟨fun e=>absurd e (by decide),fun e=>absurd e hJn⟩)
   have I:=I0.ins h L hQ J1 J2 (Int.le_refl _) (fun k k1 k2=>absurd k1 (by lia)) (fun _ e=>absurd e hJn) (.inl q) z1 z2 z4 z3
   refine hN I0 I A1 ?_
   rw [start,fK (occT _ qo)]
   exact lR h A1 A2 A3 A4 A4 hsp
  | true=>
   have hJQ':H J=Q:=by
    obtain ⟨i,i1,i2⟩:=(L.occ Q).mp qo
    by_cases z:i<=J - 1
    ·have:=L.mono z;lia
    ·have:=L.mono (show J<=i by lia);lia
   have hEJ:E V J=false:=by
    cases zz:E V J with
    | false=>rfl
    | true=>have:=(L.hole J zz).1;rw [show J=Q by lia,q] at zz;cases zz
   let m1:=((m0.put "orig_start_idx" (.int (J%V.m))).put "starts" (.int 0)).put "f" (.int (b2i (O V J)+b2i (Cn V J)+b2i (Sh V J)))
   have c1:IL V Q r (J%V.m) J 0 (b2i (O V J)+b2i (Cn V J)+b2i (Sh V J)) m1:=⟨l1,l2,l3,rfl,rfl,rfl,rfl⟩
   have hf0:b2i (O V J)+b2i (Cn V J)+b2i (Sh V J)≠0:=fun e=>by rw [(bits0 J).mp e] at hEJ;cases hEJ
   obtain ⟨p,s,f,l',hw,c2,p1,p2,p3⟩:=ins_loop (σ:=σ) h L hJQ' J1 hnot' (J+V.m - J).toNat 100 J m1 (Int.le_refl _) (fun k k1 k2=>absurd k1 (by lia)) hJQ' hEJ rfl (by have:=h.mc;lia) ⟨_,hf0,c1⟩
   have hpJ:p<J+V.m:=by
    by_cases e:p=J
    ·have:=h.mpos;lia
    ·have:=p2 (p - 1) (by lia) (by lia)
     have:=L.gt_ne h this.2.1
     lia
   have hpQ:p<Q+V.m:=by
    by_cases e:p=J
    ·lia
    ·have:=p2 (p - 1) (by lia) (by lia)
     have:=L.gt_ne h this.2.1
     lia
   obtain ⟨z,z1,z2,z3,z4⟩:=L.next_hole h p
   have runs:insA l (qf σ V)=ifS (cmpT .Eq (varF "starts") (kF (.int 1))) (fA "orig_start_idx" "start_idx" 0) (fA "orig_start_idx" "start_idx" 1) l' (qf σ V):=by
    rw [start,cC (occT _ qo)]
    unfold insB
    refine seqN (aT (aB A4)) (seqN (aT rfl) (seqN (aT (fE_ev (j:=J) h A1 A4)) ?_))
    exact seqN hw rfl
   rcases p3 with ⟨rfl,p4,p5,p6⟩ | ⟨rfl,p4⟩
   ·obtain ⟨V',I0,hsp⟩:=jL (σ:=σ) (H:=H) (r:=r) (fl:=1) h hQ p1 hpJ (by lia) hpQ z1 z2 z4 z3 (fun _=>⟨fun _=>p4,fun _=>rfl⟩)
    have I:=I0.ins h L hQ J1 J2 p1 p2 (fun _ _=>p6) (.inl q) z1 z2 z4 z3
    refine hN I0 I c2.self ?_
    rw [runs,cC (cmpK c2.s)]
    exact lR h c2.self c2.q c2.r c2.o c2.j hsp
   ·obtain ⟨V',I0,hsp⟩:=jL (σ:=σ) (H:=H) (r:=r) (fl:=0) h hQ p1 hpJ (by lia) hpQ z1 z2 z4 z3 (fun _=>⟨fun e=>absurd e (by decide),fun e=>by lia⟩)
    have I:=I0.ins h L hQ J1 J2 p1 p2 (fun _ e=>by lia) (.inl q) z1 z2 z4 z3
    refine hN I0 I c2.self ?_
    rw [runs,fK (cmpK c2.s)]
    exact lR h c2.self c2.q c2.r c2.o c2.j hsp
end
theorem oN {α:Type} [DecidableEq α] (l:List α):∀ S:List α,l.Pairwise (·≠·)->(∀ x∈l,x∈S)->l.length<=S.length:=by
 induction l with
 | nil=>exact fun S _ _=>Nat.zero_le _
 | cons a l ih=>
  intro S h1 h2
  have ha:a∈S:=h2 a (.head _)
  have hp:=List.pairwise_cons.mp h1
  have:=ih (S.erase a) hp.2 fun x hx=>(List.mem_erase_of_ne (fun e=>hp.1 x hx e.symm)).mpr (h2 x (.tail _ hx))
  rw [List.length_erase_of_mem ha] at this
  have:0<S.length:=List.length_pos_of_mem ha
  simp only [List.length_cons];lia
section
variable {σ:Sto} {V:View} {H:Int->Int} {S:List Int}
theorem gK (m:Nat) (hm:m=8\/m=16) (x y:Int) (h1:x%m=y%m) (h2:x<=y) (h3:y<x+2*m):y=x\/y=x+m:=by rcases hm with rfl | rfl<;>lia
noncomputable def View.R (V:View):Int:=2 ^ (32 - V.q)
noncomputable def cd (V:View) (H:Int->Int) (i:Int):Int:=H i%V.m*V.R+Fl' V i
structure Rep (V:View) (H:Int->Int) (S:List Int):Prop where
 nodup:S.Pairwise (·≠·)
 has:∀ k r,Has V H k r ↔ ∃ c∈S,k=c / V.R/\r=c%V.R
theorem Rep.cd_mem (R:Rep V H S) {i:Int} (hi:E V i=false):cd V H i∈S:=by
 obtain ⟨c,c1,c2,c3⟩:=(R.has _ _).mp ⟨i,hi,rfl,rfl⟩
 have:cd V H i=c:=by
  unfold cd
  rw [c2,c3]
  have:=Int.emod_add_mul_ediv c V.R
  rw [Int.mul_comm];lia
 rw [this];exact c1
theorem Rep.flt_range (h:Good V) (R:Rep V H S) {i:Int} (hi:E V i=false):0<=Fl' V i/\Fl' V i<V.R:=by
 obtain ⟨c,c1,c2,c3⟩:=(R.has _ _).mp ⟨i,hi,rfl,rfl⟩
 have hR:0<V.R:=Int.pow_pos (by decide)
 rw [c3]
 exact ⟨Int.emod_nonneg _ (by lia),Int.emod_lt_of_pos _ hR⟩
theorem mT (h:Good V) (L:Lay V H) {i j:Int} (hij:i<j) (hjm:j<i+V.m) (hi:E V i=false) (hj:E V j=false) (h1:H i%V.m=H j%V.m):Fl' V i≠Fl' V j:=by
 have a1:=L.mono (Int.le_of_lt hij)
 have a2:=L.le j
 have a3:=L.gt_ne h hi
 have hm:=h.mpos
 have key:=gK V.m h.mc (H i) (H j) h1 a1 (by lia)
 rcases key with k | k
 ·have:=L.run_lt hij k.symm;lia
 ·rw [<- L.per] at k
  have:=L.run_lt hjm k
  have e:=Fl_k V i 1
  rw [Int.mul_one] at e
  lia
theorem cd_inj (h:Good V) (L:Lay V H) (R:Rep V H S) {i j:Int} (hij:i<j) (hjm:j<i+V.m) (hi:E V i=false) (hj:E V j=false):cd V H i≠cd V H j:=by
 intro e
 unfold cd at e
 have f1:=R.flt_range h hi
 have f2:=R.flt_range h hj
 have hR:0<V.R:=Int.pow_pos (by decide)
 have g1:(H i%V.m*V.R+Fl' V i) / V.R=H i%V.m:=by
  rw [Int.add_comm,Int.add_mul_ediv_right _ _ (by lia),Int.ediv_eq_zero_of_lt f1.1 f1.2];lia
 have g2:(H j%V.m*V.R+Fl' V j) / V.R=H j%V.m:=by
  rw [Int.add_comm,Int.add_mul_ediv_right _ _ (by lia),Int.ediv_eq_zero_of_lt f2.1 f2.2];lia
 have e1:H i%V.m=H j%V.m:=by rw [<- g1,<- g2,e]
 rw [e1] at e
 exact mT h L hij hjm hi hj e1 (by lia)
theorem tN (h:Good V) (L:Lay V H) (R:Rep V H S) (hS:S.length+1<V.m) (z:Int):∃ e,E V e=true/\e%V.m≠z%V.m:=by
 have hm:=h.mpos
 refine Classical.byContradiction fun hno=>?_
 have hne:∀ i,z<i->i<z+V.m->E V i=false:=by
  intro i h1 h2
  cases q:E V i with
  | false=>rfl
  | true=>exact absurd ⟨i,q,fun e=>by have:=bP h e (by lia) (by lia);lia⟩ hno
 let l:List Int:=(List.range (V.m - 1)).map fun a:Nat=>cd V H (z+1+a)
 have hl:l.Pairwise (·≠·):=by
  refine List.pairwise_map.mpr ((List.pairwise_lt_range (n:=V.m - 1)).imp_of_mem ?_)
  intro a b ha hb hab
  have ha:=List.mem_range.mp ha
  have hb:=List.mem_range.mp hb
  exact cd_inj h L R (by lia) (by lia) (hne _ (by lia) (by lia)) (hne _ (by lia) (by lia))
 have hsub:∀ x∈l,x∈S:=by
  intro x hx
  obtain ⟨a,ha,rfl⟩:=List.mem_map.mp hx
  have ha:=List.mem_range.mp ha
  exact R.cd_mem (hne _ (by lia) (by lia))
 have:=oN l S hl hsub
 simp only [l,List.length_map,List.length_range] at this
 lia
theorem Lay.n (L:Lay V H) (n:Int):Lay { V with n:=n } H:=⟨⟨L.per,L.le,L.mono1,L.hole,L.shf,L.con,L.occ,L.sorted,L.start⟩,L.ex⟩
theorem LayW.n (L:LayW V H) (n:Int):LayW { V with n:=n } H:=⟨L.per,L.le,L.mono1,L.hole,L.shf,L.con,L.occ,L.sorted,L.start⟩
theorem aug_n (h:Good V) {l:Loc} (hs:l "self"=some (.ref V.i)):iH 467 "_elements_added" .Add (varF "self") (kF (.int 1)) l (qf σ V)=some (.next,l,qf σ { V with n:=V.n+1 }):=by
 exact (stAugA (aB hs) qf_i rfl rfl qf_i (Nat.le_of_ble_eq_true rfl) rfl).trans (congrArg (fun τ=>some (Fl.next,l,τ)) (put_n (σ:=σ) (V:=V) (n:=V.n+1)))
theorem qK (h:Good V) (L:Lay V H) {Q r:Int} (hQ:In V Q) (hnot:¬ Has V H Q r) (hn:V.n≠V.m) :
  ∃ V' H',V'={ V with n:=V.n+1,occ:=V'.occ,con:=V'.con,shf:=V'.shf,flt:=V'.flt }/\LayW V' H'/\((∀ z,∃ e,E V e=true/\e%V.m≠z%V.m)->Lay V' H')/\(∀ k r',Has V' H' k r' ↔ Has V H k r'\/(k=Q/\r'=r))/\eF [.ref V.i,.int Q,.int r] (qf σ V)=some (.none,qf σ V'):=by
 let l:=aJ ["self","q","r"] [.ref V.i,.int Q,.int r]
 have l1:l "self"=some (.ref V.i):=rfl
 obtain ⟨V',H',l',⟨a1,a2,a2',a3⟩,a4,a5⟩:=insA_spec (σ:=σ) h L hQ hnot (l:=l) l1 rfl rfl
 have g':Good V':=by rw [a1];exact ⟨h.lt,h.q⟩
 have hi:V'.i=V.i:=by rw [a1]
 refine ⟨{ V' with n:=V'.n+1 },H',by rw [a1],a2.n _,fun z=>(a2' z).n _,a3,?_⟩
 have hs:ifS (cmpT .Eq (aC 467 "_size" (varF "self")) (aC 467 "_elements_added" (varF "self"))) (fun _ _=>none) nilB l (qf σ V)=some (.next,l,qf σ V):=by
  exact ifF (bD (evA (aB l1) qf_i rfl) (evA (aB l1) qf_i rfl) (congrArg some (beq_eq_false_iff_ne.mpr fun e=>hn e.symm))) rfl
 unfold eF
 refine bC (l':=l') rfl ?_
 rw [pB]
 exact seqN hs (seqN a4 (aug_n g' (by rw [hi];exact a5)))
end
section
variable {σ:Sto} {V:View} {H:Int->Int}
theorem Lay.fresh_iff (h:Good V) (L:Lay V H) (i:Int):(E V i=true\/(O V i && !Cn V i && !Sh V i)=true) ↔ H i=i:=by
 constructor
 ·rintro (q | q)
  ·exact (L.hole i q).1
  ·have hs:Sh V i=false:=by cases z:Sh V i<;>simp [z] at q |-
   have:=L.le i
   cases Int.lt_or_eq_of_le this with
   | inl z=>rw [(L.shf i).mpr z] at hs;cases hs
   | inr z=>exact z
 ·intro q
  cases hE:E V i with
  | true=>exact .inl rfl
  | false=>
   right
   have h1:O V i=true:=by have:=L.ne_occ hE;rw [q] at this;exact this
   have h2:Sh V i=false:=by
    cases z:Sh V i with
    | false=>rfl
    | true=>have:=(L.shf i).mp z;lia
   have h3:Cn V i=false:=by
    cases z:Cn V i with
    | false=>rfl
    | true=>have:=(L.con i).mp z;have:=L.le (i - 1);lia
   simp [h1,h2,h3]
theorem Lay.ne_prev (L:Lay V H) {i:Int} (h:H i<i):E V (i - 1)=false:=by
 cases q:E V (i - 1) with
 | false=>rfl
 | true=>have:=(L.hole _ q).2;rw [show i - 1+1=i by lia] at this;lia
structure DelA (V V':View) (H:Int->Int) (x:Int):Prop where
 m:V'.m=V.m
 ne:E V x=false
 last:H (x+1)=x+1
 C:∀ i,x<=i->i<x+V.m->Cn V' i=(if i=x then false else Cn V i)
 S:∀ i,x<=i->i<x+V.m->Sh V' i=(if i=x then false else Sh V i)
 F:∀ i,x<=i->i<x+V.m->Fl' V' i=(if i=x then 0 else Fl' V i)
 O:∀ k,O V' k=(Mine.O V k && !decide (k%V.m=x%V.m) && !(!Cn V x && decide (k%V.m=H x%V.m)))
noncomputable def kL (V:View) (H:Int->Int) (x:Int):Int->Int:=wrap V.m x (fun i=>if i=x then x else H i)
theorem DelA.facts {V':View} {x:Int} (h:Good V) (h':Good V') (L:Lay V H) (D:DelA V V' H x) :
  (∀ i,x<=i->i<x+V.m->E V' i=(if i=x then true else E V i))/\Lay V' (kL V H x):=by
 have hm:=h.mpos
 have hmc:=h.mc
 have hW:∀ {i},x<=i->i<x+V.m->kL V H x i=(if i=x then x else H i):=fun h1 h2=>eK h1 h2
 have hend:kL V H x (x+V.m)=x+V.m:=by unfold kL;rw [mR hm,if_pos rfl]
 have hstart:kL V H x (x - 1)=H (x - 1):=by
  unfold kL;rw [sV hm,if_neg (by lia)]
  have:=fW L.per (x - 1) 1
  rw [Int.mul_one,show x - 1+V.m=x+V.m - 1 by lia] at this
  lia
 have pk:=fW L.per
 have pk':=fW (m:=V.m) (H:=kL V H x) (fun i=>cW i)
 have hlx:=L.le x
 have hlx1:=L.le (x - 1)
 have hmx:=L.mono1 (x - 1)
 rw [show x - 1+1=x by lia] at hmx
 have hE:∀ i,x<=i->i<x+V.m->E V' i=(if i=x then true else E V i):=by
  intro i i1 i2
  rw [dK,D.C i i1 i2,D.S i i1 i2,D.O i]
  by_cases e:i=x
  ·rw [if_pos e,if_pos e,if_pos e,e];simp
  ·rw [if_neg e,if_neg e,if_neg e]
   have e1:¬ i%V.m=x%V.m:=fun q=>e (bP h q (by lia) (by lia))
   by_cases e2:Cn V x=false/\i%V.m=H x%V.m
   ·-- the slot that is its home: another stands there,shifted
    have hne:i=H x\/i=H x+V.m:=by
     have:=gK V.m h.mc (H x) i e2.2.symm (by lia) (by have:=L.gt h x;lia)
     exact this
    have hgt:=L.gt_ne h D.ne
    have hxx:H x≠x:=by
     intro q
     rcases hne with z | z
     ·lia
     ·lia
    have hi:i=H x+V.m:=by rcases hne with z | z;lia;exact z
    have hlt:H x<x:=by lia
    have hsh:Sh V (H x)=true:=by
     refine (L.shf _).mpr ?_
     have a1:=L.mono (Int.le_of_lt hlt)
     have a2:=L.le (H x)
     cases Int.lt_or_eq_of_le a2 with
     | inl z=>exact z
     | inr z=>
      exfalso
      have b1:=L.mono (show H x<=x - 1 by lia)
      have:H x=H (x - 1):=by lia
      rw [(L.con x).mpr this] at e2;cases e2.1
    have:Sh V i=true:=by
     have:=Sh_k V (H x) 1
     rw [Int.mul_one] at this
     rw [hi,this];exact hsh
    rw [dK,this];simp
   ·rw [dK]
    have:(!(!Cn V x && decide (i%V.m=H x%V.m)))=true:=by
     cases q:Cn V x
     ·have:¬ i%V.m=H x%V.m:=fun z=>e2 ⟨q,z⟩
      simp [this]
     ·simp
    rw [this];simp [e1]
 refine ⟨hE,?_⟩
 have hEz:∀ j,E V' j=false->E V j=false/\kL V H x j=H j:=by
  intro j hj
  obtain ⟨w,t,w1,w2,rfl⟩:=win h x j
  rw [<- D.m,cU,hE w w1 w2] at hj
  by_cases e:w=x
  ·rw [if_pos e] at hj;cases hj
  ·rw [if_neg e] at hj
   refine ⟨by rw [cU];exact hj,by rw [pk',pk,hW w1 w2,if_neg e]⟩
 have hEk:∀ j,E V j=false->j%V.m≠x%V.m->E V' j=false/\kL V H x j=H j:=by
  intro j hj hjx
  obtain ⟨w,t,w1,w2,rfl⟩:=win h x j
  rw [cU] at hj
  rw [Int.add_mul_emod_self_left] at hjx
  have e:w≠x:=fun q=>hjx (by rw [q])
  refine ⟨by rw [<- D.m,cU,hE w w1 w2,if_neg e];exact hj,by rw [pk',pk,hW w1 w2,if_neg e]⟩
 refine Lay.of_window h' x (fun i=>by rw [D.m];exact cW i) ?_ ?_ ?_ ?_ ?_ ?_ ?_ ?_ ⟨x,by rw [hE x (Int.le_refl _) (by lia),if_pos rfl]⟩
 all_goals rw [D.m]
 ·intro i i1 i2
  rw [hW i1 i2];split
  ·lia
  ·exact L.le i
 ·intro i i1 i2
  by_cases e:i+1=x+V.m
  ·rw [e,hend,hW i1 i2]
   split
   ·lia
   ·have:=L.le i;lia
  ·rw [hW i1 i2,hW (i:=i+1) (by lia) (by lia),if_neg (show ¬ i+1=x by lia)]
   by_cases q:i=x
   ·rw [if_pos q,q,D.last];lia
   ·rw [if_neg q];exact L.mono1 i
 ·intro i i1 i2 he
  rw [hE i i1 i2] at he
  by_cases q:i=x
  ·rw [q,hW (Int.le_refl _) (by lia),if_pos rfl,hW (i:=x+1) (by lia) (by lia),if_neg (by lia),D.last]
   exact ⟨rfl,rfl⟩
  ·rw [if_neg q] at he
   have hh:=L.hole i he
   rw [hW i1 i2,if_neg q]
   refine ⟨hh.1,?_⟩
   by_cases e:i+1=x+V.m
   ·rw [e,hend]
   ·rw [hW (i:=i+1) (by lia) (by lia),if_neg (by lia)];exact hh.2
 ·intro i i1 i2
  rw [D.S i i1 i2,hW i1 i2]
  by_cases q:i=x
  ·rw [if_pos q,if_pos q];simp;lia
  ·rw [if_neg q,if_neg q];exact L.shf i
 ·intro i i1 i2
  rw [D.C i i1 i2,hW i1 i2]
  by_cases q:i=x
  ·rw [if_pos q,if_pos q,q,hstart];simp;lia
  ·rw [if_neg q,if_neg q,hW (i:=i - 1) (by lia) (by lia)]
   by_cases q2:i - 1=x
   ·rw [if_pos q2,L.con i,q2]
    have:i=x+1:=by lia
    rw [this,D.last];lia
   ·rw [if_neg q2];exact L.con i
 ·intro k k1 k2 hk
  rw [D.O] at hk
  have hO:Mine.O V k=true:=by cases q:Mine.O V k<;>simp [q] at hk |-
  have hkx:¬ k%V.m=x%V.m:=by intro q;simp [q] at hk
  obtain ⟨j,j1,j2⟩:=(L.occ k).mp hO
  by_cases q:j%V.m=x%V.m
  ·obtain ⟨w,t,w1,w2,rfl⟩:=win h x j
   have hw:w=x:=by
    rw [Int.add_mul_emod_self_left] at q
    exact bP h q (by lia) (by lia)
   subst hw
   rw [pk] at j2
   have hkq:k%V.m=H w%V.m:=by rw [<- j2,Int.add_mul_emod_self_left]
   have hC:Cn V w=true:=by
    cases z:Cn V w with
    | true=>rfl
    | false=>rw [z,hkq] at hk;simp at hk
   have hcon:=(L.con w).mp hC
   have hne:E V (w - 1)=false:=L.ne_prev (by lia)
   have hmod:(w - 1)%V.m≠w%V.m:=fun z=>by have:=bP h z (by lia) (by lia);lia
   obtain ⟨a1,a2⟩:=hEk (w - 1) hne hmod
   refine ⟨w - 1+V.m*t,by rw [<- D.m,cU];exact a1,?_⟩
   rw [pk',a2,<- hcon];exact j2
  ·obtain ⟨a1,a2⟩:=hEk j j1 q
   exact ⟨j,a1,by rw [a2];exact j2⟩
 ·intro j j1 j2 he
  have hh:=hEz j he
  have hjx:j≠x:=fun q=>by rw [hE j j1 j2,if_pos q] at he;cases he
  rw [hh.2,D.O,L.ne_occ hh.1]
  have hmj:=L.mono (show x+1<=j by lia)
  rw [D.last] at hmj
  have hlj:=L.le j
  have n1:¬ H j%V.m=x%V.m:=fun q=>by have:=bP h q (by lia) (by lia);lia
  have n2:Cn V x=false->¬ H j%V.m=H x%V.m:=by
   intro hC q
   have hgx:=L.gt_ne h D.ne
   have:=gK V.m h.mc (H x) (H j) q.symm (by lia) (by lia)
   rcases this with z | z
   ·lia
   ·rw [<- L.per] at z
    have b1:=L.mono (show j<=x+V.m - 1 by lia)
    have b2:=L.mono1 (x+V.m - 1)
    rw [show x+V.m - 1+1=x+V.m by lia] at b2
    have b3:H (x+V.m)=H (x+V.m - 1):=by lia
    have b4:=fW L.per (x - 1) 1
    rw [Int.mul_one,show x - 1+V.m=x+V.m - 1 by lia] at b4
    have b5:=L.per x
    have:H x=H (x - 1):=by lia
    rw [(L.con x).mpr this] at hC;cases hC
  cases q:Cn V x
  ·simp [n1,n2 q]
  ·simp [n1]
 ·intro i i1 i2 hc
  rw [D.C i i1 i2] at hc
  by_cases q:i=x
  ·rw [if_pos q] at hc;cases hc
  ·rw [if_neg q] at hc
   rw [D.F i i1 i2,if_neg q,D.F (i - 1) (by lia) (by lia)]
   by_cases q2:i - 1=x
   ·have:=(L.con i).mp hc
    rw [q2] at this
    rw [show i=x+1 by lia,D.last] at this
    lia
   ·rw [if_neg q2];exact L.sorted i hc
end
section
variable {σ:Sto} {V:View} {H:Int->Int}
theorem DelA.has {V':View} {x:Int} (h:Good V) (h':Good V') (L:Lay V H) (D:DelA V V' H x) (k r:Int):Has V' (kL V H x) k r ↔ Has V H k r/\¬ (k=H x%V.m/\r=Fl' V x):=by
 have hm:=h.mpos
 obtain ⟨hE,L'⟩:=D.facts h h' L
 have hW:∀ {i},x<=i->i<x+V.m->kL V H x i=(if i=x then x else H i):=fun h1 h2=>eK h1 h2
 have pk:=fW L.per
 have pk':=fW (m:=V.m) (H:=kL V H x) (fun i=>cW i)
 constructor
 ·rintro ⟨j,j1,j2,j3⟩
  obtain ⟨w,t,w1,w2,rfl⟩:=win h x j
  rw [<- D.m,cU,hE w w1 w2] at j1
  have e:w≠x:=fun q=>by rw [if_pos q] at j1;cases j1
  rw [if_neg e] at j1
  rw [D.m,pk',Int.add_mul_emod_self_left,hW w1 w2,if_neg e] at j2
  rw [<- D.m,Fl_k,D.F w w1 w2,if_neg e] at j3
  refine ⟨⟨w,j1,j2,j3⟩,fun ⟨a1,a2⟩=>?_⟩
  exact mT h L (show x<w by lia) w2 D.ne j1 (by rw [<- a1,j2]) (by rw [<- a2,j3])
 ·rintro ⟨⟨j,j1,j2,j3⟩,hno⟩
  obtain ⟨w,t,w1,w2,rfl⟩:=win h x j
  rw [cU] at j1
  rw [pk,Int.add_mul_emod_self_left] at j2
  rw [Fl_k] at j3
  have e:w≠x:=fun q=>hno ⟨by rw [<- j2,q],by rw [<- j3,q]⟩
  exact ⟨w,by rw [hE w w1 w2,if_neg e];exact j1,by rw [D.m,hW w1 w2,if_neg e];exact j2,by rw [D.F w w1 w2,if_neg e];exact j3⟩
structure DelB (V V':View) (H:Int->Int) (x Z:Int):Prop where
 m:V'.m=V.m
 ne:E V x=false
 xZ:x<Z
 Zm:Z+1<x+V.m
 sh:∀ i,x<i->i<=Z->H i<i
 last:H (Z+1)=Z+1
 C:∀ i,x<=i->i<x+V.m->Cn V' i=(if i<Z then (if i=x then (Cn V x && Cn V (x+1)) else Cn V (i+1)) else if i=Z then false else Cn V i)
 S:∀ i,x<=i->i<x+V.m->Sh V' i=(if i<Z then decide (H (i+1)<i) else if i=Z then false else Sh V i)
 F:∀ i,x<=i->i<x+V.m->Fl' V' i=(if i<Z then Fl' V (i+1) else if i=Z then 0 else Fl' V i)
 O:∀ k,O V' k=(Mine.O V k && !(!Cn V x && !Cn V (x+1) && decide (k%V.m=H x%V.m)))
noncomputable def iQ (V:View) (H:Int->Int) (x Z:Int):Int->Int:=wrap V.m x (fun i=>if i<Z then H (i+1) else if i=Z then Z else H i)
theorem noO (L:Lay V H) {Z:Int} (h1:H Z<Z) (h2:H (Z+1)=Z+1):Mine.O V Z=false:=L.between (j:=Z+1) (by rw [show Z+1 - 1=Z by lia];exact h1) (by lia)
theorem tri3 {x Z m:Int} {P:Int->Prop} (a:∀ i,x<=i->i<Z->P i) (b:P Z) (c:∀ i,Z<i->i<x+m->P i) (i:Int) (i1:x<=i) (i2:i<x+m):P i:=by
 by_cases e:i<Z
 ·exact a i i1 e
 ·by_cases e1:i=Z
  ·exact e1▸b
  ·exact c i (by lia) i2
section
variable {V':View} {x Z:Int} (D:DelB V V' H x Z)
include D
theorem DelB.lo {i:Int} (i2:i<=Z):i<x+V.m:=Int.lt_of_le_of_lt i2 (Int.lt_trans (Int.lt_succ Z) D.Zm)
theorem DelB.hi {i:Int} (i2:Z<i):x<=i:=Int.le_of_lt (Int.lt_trans D.xZ i2)
theorem DelB.nx {i:Int} (i2:Z<i):¬ i<Z:=Int.not_lt.mpr (Int.le_of_lt i2)
theorem DelB.Ww {i:Int} (i1:x<=i) (i2:i<Z):iQ V H x Z i=H (i+1):=(eK i1 (D.lo (Int.le_of_lt i2))).trans (if_pos i2)
theorem DelB.WZ:iQ V H x Z Z=Z:=(eK (Int.le_of_lt D.xZ) (D.lo (Int.le_refl _))).trans ((if_neg (Int.lt_irrefl _)).trans (if_pos rfl))
theorem DelB.Wz {i:Int} (i1:Z<i) (i2:i<x+V.m):iQ V H x Z i=H i:=(eK (D.hi i1) i2).trans ((if_neg (D.nx i1)).trans (if_neg (Int.ne_of_gt i1)))
theorem DelB.Wend (hm:(0:Int)<V.m):iQ V H x Z (x+V.m)=H (x+1)+V.m:=(mR hm).trans (congrArg (·+(V.m:Int)) (if_pos D.xZ))
theorem DelB.Cx:Cn V' x=(Cn V x && Cn V (x+1)):=(D.C x (Int.le_refl _) (D.lo (Int.le_of_lt D.xZ))).trans ((if_pos D.xZ).trans (if_pos rfl))
theorem DelB.Cw {i:Int} (i1:x<i) (i2:i<Z):Cn V' i=Cn V (i+1):=(D.C i (Int.le_of_lt i1) (D.lo (Int.le_of_lt i2))).trans ((if_pos i2).trans (if_neg (Int.ne_of_gt i1)))
theorem DelB.CZ:Cn V' Z=false:=(D.C Z (Int.le_of_lt D.xZ) (D.lo (Int.le_refl _))).trans ((if_neg (Int.lt_irrefl _)).trans (if_pos rfl))
theorem DelB.Cz {i:Int} (i1:Z<i) (i2:i<x+V.m):Cn V' i=Cn V i:=(D.C i (D.hi i1) i2).trans ((if_neg (D.nx i1)).trans (if_neg (Int.ne_of_gt i1)))
theorem DelB.Sw {i:Int} (i1:x<=i) (i2:i<Z):Sh V' i=decide (H (i+1)<i):=(D.S i i1 (D.lo (Int.le_of_lt i2))).trans (if_pos i2)
theorem DelB.SZ:Sh V' Z=false:=(D.S Z (Int.le_of_lt D.xZ) (D.lo (Int.le_refl _))).trans ((if_neg (Int.lt_irrefl _)).trans (if_pos rfl))
theorem DelB.Sz {i:Int} (i1:Z<i) (i2:i<x+V.m):Sh V' i=Sh V i:=(D.S i (D.hi i1) i2).trans ((if_neg (D.nx i1)).trans (if_neg (Int.ne_of_gt i1)))
theorem DelB.Fw {i:Int} (i1:x<=i) (i2:i<Z):Fl' V' i=Fl' V (i+1):=(D.F i i1 (D.lo (Int.le_of_lt i2))).trans (if_pos i2)
theorem DelB.Fz {i:Int} (i1:Z<i) (i2:i<x+V.m):Fl' V' i=Fl' V i:=(D.F i (D.hi i1) i2).trans ((if_neg (D.nx i1)).trans (if_neg (Int.ne_of_gt i1)))
theorem DelB.Wbeg (L:Lay V H):iQ V H x Z (x - 1)=H (x - 1):=by
 have e:=cW (m:=V.m) (p:=x) (G:=fun i=>if i<Z then H (i+1) else if i=Z then Z else H i) (x - 1)
 have:=D.Zm
 have e2:=D.Wz (i:=x - 1+V.m) (by lia) (by lia)
 have e3:=L.per (x - 1)
 unfold iQ at e2 |-
 lia
theorem DelB.sh1 {i:Int} (i1:x<=i) (i2:i<Z):H (i+1)<=i:=Int.le_of_lt_add_one (D.sh (i+1) (Int.lt_add_one_of_le i1) i2)
theorem DelB.shZ:H Z<Z:=D.sh Z D.xZ (Int.le_refl _)
theorem DelB.E1 (L:Lay V H) {i:Int} (i1:x<=i) (i2:i<Z):E V (i+1)=false:=by
 cases q:E V (i+1) with
 | false=>rfl
 | true=>have:=(L.hole _ q).1;have:=D.sh1 i1 i2;lia
theorem DelB.On {k:Int} (e:(Cn V x=false/\Cn V (x+1)=false)->k%V.m≠H x%V.m):Mine.O V' k=Mine.O V k:=by
 rw [D.O]
 cases c1:Cn V x with
 | true=>exact Bool.and_true _
 | false=>cases c2:Cn V (x+1) with
  | true=>exact Bool.and_true _
  | false=>rw [decide_eq_false (e ⟨c1,c2⟩)];exact Bool.and_true _
theorem DelB.gone (h:Good V) (L:Lay V H) {w:Int} (w1:x<w) (w2:w<x+V.m) (w3:E V w=false):Mine.O V' (H w)=true:=by
 refine (D.On fun c q=>?_).trans (L.ne_occ w3)
 have a1:=L.mono (show x+1<=w from w1)
 have a2:=L.mono (show w<=x+V.m - 1 by lia)
 have a3:=L.mono1 (x - 1)
 have a4:=L.mono1 x
 have a5:=L.per (x - 1)
 rw [show x - 1+V.m=x+V.m - 1 by lia] at a5
 rw [show x - 1+1=x by lia] at a3
 have a6:=L.gt_ne h D.ne
 have a7:=L.le w
 rcases gK V.m h.mc (H x) (H w) q.symm (by lia) (by have:=L.le (x - 1);lia) with z | z
 ·have:H (x+1)=H (x+1 - 1):=by rw [show x+1 - 1=x by lia];lia
  rw [(L.con _).mpr this] at c;cases c.2
 ·have:H x=H (x - 1):=by lia
  rw [(L.con _).mpr this] at c;cases c.1
theorem DelB.Ew (h:Good V) (L:Lay V H) {i:Int} (i1:x<=i) (i2:i<Z):E V' i=false:=by
 rw [dK,D.Sw i1 i2]
 by_cases e2:H (i+1)<i
 ·rw [decide_eq_true e2];exact Bool.and_false _
 ·have e3:H (i+1)=i:=by have:=D.sh1 i1 i2;lia
  have:=D.gone h L (Int.lt_add_one_of_le i1) (D.lo i2) (D.E1 L i1 i2)
  rw [e3] at this
  rw [this];rfl
theorem DelB.EZ (L:Lay V H):E V' Z=true:=by rw [dK,D.SZ,D.CZ,D.O,noO L D.shZ D.last];rfl
theorem DelB.Ez (h:Good V) (L:Lay V H) {i:Int} (i1:Z<i) (i2:i<x+V.m):E V' i=E V i:=by
 by_cases e2:(Cn V x=false/\Cn V (x+1)=false)/\i%V.m=H x%V.m
 ·have hlx:=L.le x
  have hgx:=L.gt_ne h D.ne
  have hi:i=H x+V.m:=by
   have:=D.xZ
   rcases gK V.m h.mc (H x) i e2.2.symm (by lia) (by lia) with z | z
   ·lia
   ·exact z
  have hlt:H x<x:=by lia
  have hsh:Sh V i=true:=by
   rw [hi,<- Int.mul_one (V.m:Int),Sh_k]
   refine (L.shf _).mpr ((Int.lt_or_eq_of_le (L.le (H x))).elim id fun z=>?_)
   have b1:=L.mono (show H x<=x - 1 by lia)
   have b2:=L.mono1 (x - 1)
   rw [show x - 1+1=x by lia] at b2
   rw [(L.con x).mpr (by lia)] at e2
   cases e2.1.1
  rw [dK,D.Sz i1 i2,hsh,dK,hsh,Bool.not_true,Bool.and_false,Bool.and_false]
 ·rw [dK,D.Sz i1 i2,D.Cz i1 i2,D.On fun c q=>e2 ⟨c,q⟩,<- dK]
end
theorem DelB.facts {V':View} {x Z:Int} (h:Good V) (h':Good V') (L:Lay V H) (D:DelB V V' H x Z):Lay V' (iQ V H x Z):=by
 have hm:=h.mpos
 have hxZ:=D.xZ
 have hZm:=D.Zm
 have pk:=fW L.per
 have pk':=fW (m:=V.m) (H:=iQ V H x Z) (fun i=>cW i)
 refine Lay.of_window h' x (fun i=>by rw [D.m];exact cW i) ?_ ?_ ?_ ?_ ?_ ?_ ?_ ?_ ⟨Z,D.EZ L⟩
 all_goals rw [D.m]
 ·exact tri3 (Z:=Z) (fun i i1 i2=>by rw [D.Ww i1 i2];exact D.sh1 i1 i2) (Int.le_of_eq D.WZ) fun i i1 i2=>by rw [D.Wz i1 i2];exact L.le i
 ·refine tri3 (Z:=Z) (fun i i1 i2=>?_) ?_ fun i i1 i2=>?_
  ·rw [D.Ww i1 i2]
   by_cases e2:i+1<Z
   ·rw [D.Ww (by lia) e2];exact L.mono1 _
   ·rw [show i+1=Z by lia,D.WZ];exact L.le Z
  ·rw [D.WZ,D.Wz (Int.lt_succ Z) hZm,D.last];exact Int.le_of_lt (Int.lt_succ Z)
  ·rw [D.Wz i1 i2]
   by_cases q:i+1=x+V.m
   ·rw [q,D.Wend hm]
    have a:=L.mono1 i
    rw [q,L.per x] at a
    have:=L.mono1 x
    lia
   ·rw [D.Wz (by lia) (by lia)];exact L.mono1 i
 ·refine tri3 (Z:=Z) (fun i i1 i2 he=>?_) (fun _=>?_) fun i i1 i2 he=>?_
  ·rw [D.Ew h L i1 i2] at he;cases he
  ·exact ⟨D.WZ,(D.Wz (Int.lt_succ Z) hZm).trans D.last⟩
  ·rw [D.Ez h L i1 i2] at he
   have hh:=L.hole i he
   refine ⟨(D.Wz i1 i2).trans hh.1,?_⟩
   by_cases q:i+1=x+V.m
   ·have:=L.per x
    have:=L.mono1 x
    have:=D.sh1 (Int.le_refl x) hxZ
    have:=hh.2
    rw [q] at this
    rw [q,D.Wend hm]
    lia
   ·exact (D.Wz (by lia) (by lia)).trans hh.2
 ·refine tri3 (Z:=Z) (fun i i1 i2=>?_) ?_ fun i i1 i2=>?_
  ·rw [D.Sw i1 i2,D.Ww i1 i2];exact decide_eq_true_iff
  ·rw [D.SZ,D.WZ];exact ⟨(fun q=>nomatch q),fun q=>absurd q (Int.lt_irrefl _)⟩
  ·rw [D.Sz i1 i2,D.Wz i1 i2];exact L.shf i
 ·refine tri3 (Z:=Z) (fun i i1 i2=>?_) ?_ fun i i1 i2=>?_
  ·by_cases e2:i=x
   ·subst e2
    have c2:=L.con (i+1)
    rw [show i+1 - 1=i by lia] at c2
    rw [D.Cx,D.Ww i1 i2,D.Wbeg L,Bool.and_eq_true,L.con i,c2]
    have:=L.mono1 i
    have:=L.mono1 (i - 1)
    rw [show i - 1+1=i by lia] at this
    exact ⟨fun q=>q.2.trans q.1,fun q=>⟨by lia,by lia⟩⟩
   ·rw [D.Cw (by lia) i2,D.Ww i1 i2,D.Ww (by lia) (by lia),L.con (i+1),show i+1 - 1=i by lia,show i - 1+1=i by lia]
  ·rw [D.CZ,D.WZ,D.Ww (by lia) (by lia),show Z - 1+1=Z by lia]
   exact ⟨(fun q=>nomatch q),fun q=>absurd q (Int.ne_of_gt D.shZ)⟩
  ·rw [D.Cz i1 i2,D.Wz i1 i2,L.con i]
   by_cases e2:i - 1=Z
   ·have:=D.shZ
    have:=D.last
    rw [e2,D.WZ,show i=Z+1 by lia];lia
   ·rw [D.Wz (by lia) (by lia)]
 ·intro k k1 k2 hk
  rw [D.O,Bool.and_eq_true] at hk
  obtain ⟨j,j1,j2⟩:=(L.occ k).mp hk.1
  obtain ⟨w,t,w1,w2,rfl⟩:=win h x j
  rw [cU] at j1
  rw [pk] at j2
  have use:∀ u,E V' u=false->iQ V H x Z u+V.m*t=k->∃ j,E V' j=false/\iQ V H x Z j=k:=fun u a b=>⟨u+V.m*t,by rw [<- D.m,cU];exact a,by rw [pk'];exact b⟩
  by_cases e0:w=x
  ·subst e0
   cases c2:Cn V (w+1) with
   | true=>
    have:=(L.con _).mp c2
    rw [show w+1 - 1=w by lia] at this
    exact use w (D.Ew h L w1 hxZ) (by rw [D.Ww w1 hxZ,this];exact j2)
   | false=>
    have hC:Cn V w=true:=by
     cases z:Cn V w with
     | true=>rfl
     | false=>rw [z,c2,<- j2,Int.add_mul_emod_self_left,decide_eq_true rfl] at hk;cases hk.2
    have hcon:=(L.con w).mp hC
    refine use (w - 1) ?_ (by rw [D.Wbeg L,<- hcon];exact j2)
    rw [<- nW,D.m,D.Ez h L (i:=w - 1+V.m) (by lia) (by lia),nW]
    exact L.ne_prev (by have:=L.le (w - 1);lia)
  ·by_cases e1:w<=Z
   ·exact use (w - 1) (D.Ew h L (by lia) (by lia)) (by rw [D.Ww (by lia) (by lia),show w - 1+1=w by lia];exact j2)
   ·exact use w ((D.Ez h L (Int.not_le.mp e1) w2).trans j1) (by rw [D.Wz (Int.not_le.mp e1) w2];exact j2)
 ·refine tri3 (Z:=Z) (fun i i1 i2 _=>?_) (fun he=>?_) fun i i1 i2 he=>?_
  ·rw [D.Ww i1 i2];exact D.gone h L (Int.lt_add_one_of_le i1) (D.lo i2) (D.E1 L i1 i2)
  ·rw [D.EZ L] at he;cases he
  ·rw [D.Ez h L i1 i2] at he
   rw [D.Wz i1 i2];exact D.gone h L (Int.lt_trans hxZ i1) i2 he
 ·refine tri3 (Z:=Z) (fun i i1 i2 hc=>?_) (fun hc=>?_) fun i i1 i2 hc=>?_
  ·by_cases e2:i=x
   ·subst e2
    rw [D.Cx,Bool.and_eq_true] at hc
    have e3:=Fl_k V' (i - 1) 1
    have e4:=Fl_k V (i - 1) 1
    rw [D.m,Int.mul_one,D.Fz (i:=i - 1+V.m) (by lia) (by lia)] at e3
    rw [Int.mul_one] at e4
    have s2:=L.sorted (i+1) hc.2
    rw [show i+1 - 1=i by lia] at s2
    rw [D.Fw i1 i2,<- e3,e4]
    exact Int.lt_trans (L.sorted i hc.1) s2
   ·rw [D.Cw (by lia) i2] at hc
    have:=L.sorted _ hc
    rw [show i+1 - 1=i by lia] at this
    rw [D.Fw i1 i2,D.Fw (by lia) (by lia),show i - 1+1=i by lia]
    exact this
  ·rw [D.CZ] at hc;cases hc
  ·rw [D.Cz i1 i2] at hc
   rw [D.Fz i1 i2]
   by_cases e2:i - 1=Z
   ·have q:=(L.con i).mp hc
    rw [e2,show i=Z+1 by lia,D.last] at q
    have:=D.shZ
    lia
   ·rw [D.Fz (by lia) (by lia)];exact L.sorted i hc
theorem DelB.has {V':View} {x Z:Int} (h:Good V) (h':Good V') (L:Lay V H) (D:DelB V V' H x Z) (k r:Int):Has V' (iQ V H x Z) k r ↔ Has V H k r/\¬ (k=H x%V.m/\r=Fl' V x):=by
 have pk:=fW L.per
 have pk':=fW (m:=V.m) (H:=iQ V H x Z) (fun i=>cW i)
 constructor
 ·rintro ⟨j,j1,j2,j3⟩
  obtain ⟨w,t,w1,w2,rfl⟩:=win h x j
  rw [<- D.m,cU] at j1
  rw [D.m,pk',Int.add_mul_emod_self_left] at j2
  rw [<- D.m,Fl_k] at j3
  have put:∀ u,x<u->u<x+V.m->E V u=false->H u%V.m=k->Fl' V u=r->Has V H k r/\¬ (k=H x%V.m/\r=Fl' V x):=fun u u1 u2 a b c=>
   ⟨⟨u,a,b,c⟩,fun q=>mT h L u1 u2 D.ne a (by rw [<- q.1,b]) (by rw [<- q.2,c])⟩
  revert j1 j2 j3
  refine tri3 (Z:=Z) (P:=fun w=>E V' w=false->iQ V H x Z w%V.m=k->Fl' V' w=r->_) (fun w w1 w2 j1 j2 j3=>?_) (fun j1=>?_) (fun w w1 w2 j1 j2 j3=>?_) w w1 w2
  ·rw [D.Ww w1 w2] at j2
   rw [D.Fw w1 w2] at j3
   exact put (w+1) (Int.lt_add_one_of_le w1) (D.lo w2) (D.E1 L w1 w2) j2 j3
  ·rw [D.EZ L] at j1;cases j1
  ·rw [D.Ez h L w1 w2] at j1
   rw [D.Wz w1 w2] at j2
   rw [D.Fz w1 w2] at j3
   exact put w (Int.lt_trans D.xZ w1) w2 j1 j2 j3
 ·rintro ⟨⟨j,j1,j2,j3⟩,hno⟩
  obtain ⟨w,t,w1,w2,rfl⟩:=win h x j
  rw [cU] at j1
  rw [pk,Int.add_mul_emod_self_left] at j2
  rw [Fl_k] at j3
  have e:w≠x:=fun q=>hno ⟨by rw [<- j2,q],by rw [<- j3,q]⟩
  by_cases e1:w<=Z
  ·refine ⟨w - 1,D.Ew h L (by lia) (by lia),?_,?_⟩
   ·rw [D.m,D.Ww (by lia) (by lia),show w - 1+1=w by lia];exact j2
   ·rw [D.Fw (by lia) (by lia),show w - 1+1=w by lia];exact j3
  ·have e1:=Int.not_le.mp e1
   exact ⟨w,(D.Ez h L e1 w2).trans j1,by rw [D.m,D.Wz e1 w2];exact j2,by rw [D.Fz e1 w2];exact j3⟩
end
noncomputable def ql (P:Int->Bool):Nat->Int->List Int
 | 0,_=>[]
 | n+1,a=>if P a=true then a :: ql P n (a+1) else ql P n (a+1)
noncomputable def QU (P:Int->Bool) (a b:Int):List Int:=ql P (b - a).toNat a
theorem kB (P:Int->Bool) {a b:Int} (h:a<b):QU P a b=if P a=true then a :: QU P (a+1) b else QU P (a+1) b:=by
 unfold QU
 have e:(b - a).toNat=(b - (a+1)).toNat+1:=by lia
 rw [e];rfl
theorem mQ (P:Int->Bool) {a b:Int} (h:b<=a):QU P a b=[]:=by
 unfold QU
 have e:(b - a).toNat=0:=by lia
 rw [e];rfl
theorem lY (P:Int->Bool) {a b c:Int} (hab:a<=b) (hbc:b<=c) (h:∀ i,a<=i->i<b->P i=false):QU P a c=QU P b c:=by
 have key:∀ (n:Nat) (a:Int),(b - a).toNat=n->a<=b->(∀ i,a<=i->i<b->P i=false)->QU P a c=QU P b c:=by
  intro n
  induction n with
  | zero=>
   intro a h1 h2 _
   have:a=b:=by lia
   rw [this]
  | succ n ih=>
   intro a h1 h2 h3
   rw [kB P (show a<c by lia),h3 a (Int.le_refl _) (by lia),if_neg (by decide)]
   exact ih (a+1) (by lia) (by lia) fun i i1 i2=>h3 i (by lia) i2
 exact key _ a rfl hab h
theorem QU_snoc (P:Int->Bool) {b:Int}:∀ (n:Nat) (a:Int),(b - a).toNat=n->a<=b->QU P a (b+1)=QU P a b ++ (if P b=true then [b] else []):=by
 intro n
 induction n with
 | zero=>
  intro a h1 h2
  have:a=b:=by lia
  subst this
  rw [kB P (show a<a+1 by lia),mQ P (Int.le_refl (a+1)),mQ P (Int.le_refl a)]
  simp
 | succ n ih=>
  intro a h1 h2
  rw [kB P (show a<b+1 by lia),kB P (show a<b by lia),ih (a+1) (by lia) (by lia)]
  split<;>simp
theorem QU_len (P:Int->Bool) (n:Nat):∀ (a:Int),(ql P n a).length<=n:=by
 induction n with
 | zero=>exact fun _=>Nat.le_refl _
 | succ n ih=>
  intro a
  have:=ih (a+1)
  show (if P a=true then a :: ql P n (a+1) else ql P n (a+1)).length<=n+1
  by_cases q:P a=true
  ·rw [if_pos q];exact Nat.succ_le_succ this
  ·rw [if_neg q];exact Nat.le_succ_of_le this
section
variable {σ:Sto} {V:View} {H:Int->Int} {l:Loc}
noncomputable def qvals (V:View) (xs:List Int):List Val:=xs.map fun k=>.int (k%V.m)
theorem stApp {g:Nat} {xs:List Val} {v:Val} {ge:EF} {x:String} (hq:l x=some (.ref g)) (ho:¬ own V g) (hx:σ.get g=.list xs) (hl:xs.length<=100000) (hg:ge l (qf σ V)=some (v,qf σ V)) :
  aU (appF (varF x) ge) l (qf σ V)=some (.next,l,qf (σ.put g (.list (xs ++ [v]))) V):=by
 have e:=(cY (σ:=σ) ho).trans hx
 exact (cM (evApp (aB hq) (by rw [e];rfl) hg e hl)).trans (by rw [rN ho])
theorem evPop {g:Nat} {xs:List Val} {v:Val} {x:String} (hq:l x=some (.ref g)) (ho:¬ own V g) (hx:σ.get g=.list (v :: xs)) (hl:xs.length<=100000):oE (varF x) l (qf σ V)=some (v,qf (σ.put g (.list xs)) V):=by
 exact (evPop0 (aB hq) ((cY ho).trans hx) hl).trans (by rw [rN ho])
structure MV (V Vt:View) (x y:Int):Prop where
 eq:Vt={ V with con:=Vt.con,shf:=Vt.shf,flt:=Vt.flt }
 C:∀ i,x<=i->i<x+V.m->Cn Vt i=(if i<y then (if i=x then (Cn V x && Cn V (x+1)) else Cn V (i+1)) else Cn V i)
 S:∀ i,x<=i->i<x+V.m->Sh Vt i=(if i<y then Sh V (i+1) else Sh V i)
 F:∀ i,x<=i->i<x+V.m->Fl' Vt i=(if i<y then Fl' V (i+1) else Fl' V i)
theorem MV.good {Vt:View} {x y:Int} (W:MV V Vt x y) (h:Good V):Good Vt:=by rw [W.eq];exact ⟨h.lt,h.q⟩
theorem MV.m {Vt:View} {x y:Int} (W:MV V Vt x y):Vt.m=V.m:=by rw [W.eq];rfl
theorem MV.i {Vt:View} {x y:Int} (W:MV V Vt x y):Vt.i=V.i:=by rw [W.eq]
theorem MV.b {Vt:View} {x y:Int} (W:MV V Vt x y):Vt.b=V.b:=by rw [W.eq]
theorem MV.O {Vt:View} {x y:Int} (W:MV V Vt x y) (k:Int):O Vt k=Mine.O V k:=by rw [W.eq];rfl
theorem MV.zero (x:Int):MV V V x x:=by
 refine ⟨rfl,fun i h1 h2=>?_,fun i h1 h2=>?_,fun i h1 h2=>?_⟩<;>rw [if_neg (by lia)]
noncomputable def mvV (Vt:View) (a b:Int) (c:Bool):View:={ Vt with flt:=upd Vt.flt a (Vt.flt b),con:=upd Vt.con a c,shf:=upd Vt.shf a (Vt.shf b) }
theorem MV.step {Vt:View} {x y:Int} (h:Good V) (W:MV V Vt x y) (hxy:x<=y) (hy:y+1<x+V.m) {c:Bool} (hc:c=(if y=x then (Cn V x && Cn V (x+1)) else Cn V (y+1))):MV V (mvV Vt (y%V.m) ((y+1)%V.m) c) x (y+1):=by
 have hm:=W.m
 have Sx:=W.S (y+1) (by lia) hy
 have Fx:=W.F (y+1) (by lia) hy
 rw [if_neg (by lia)] at Sx Fx
 refine ⟨by unfold mvV;rw [W.eq],fun i h1 h2=>?_,fun i h1 h2=>?_,fun i h1 h2=>?_⟩
 ·have Ci:=W.C i h1 h2
  unfold Cn at Ci |-
  show upd Vt.con _ _ (i%Vt.m)=_
  rw [hm] at Ci |-
  rw [cG h (by lia) (by lia)]
  by_cases e:i=y
  ·rw [if_pos e,if_pos (by lia),hc,e]
   by_cases e2:y=x
   ·rw [if_pos e2,if_pos e2];rfl
   ·rw [if_neg e2,if_neg e2];rfl
  ·rw [if_neg e,Ci]
   by_cases e2:i<y
   ·rw [if_pos e2,if_pos (show i<y+1 by lia)]
   ·rw [if_neg e2,if_neg (show ¬ i<y+1 by lia)]
 ·have Si:=W.S i h1 h2
  unfold Sh at Si Sx |-
  show upd Vt.shf _ _ (i%Vt.m)=_
  rw [hm] at Si Sx |-
  rw [cG h (by lia) (by lia)]
  by_cases e:i=y
  ·rw [if_pos e,if_pos (by lia),Sx,e]
  ·rw [if_neg e,Si]
   by_cases e2:i<y
   ·rw [if_pos e2,if_pos (show i<y+1 by lia)]
   ·rw [if_neg e2,if_neg (show ¬ i<y+1 by lia)]
 ·have Fi:=W.F i h1 h2
  unfold Fl' at Fi Fx |-
  show upd Vt.flt _ _ (i%Vt.m)=_
  rw [hm] at Fi Fx |-
  rw [cG h (by lia) (by lia)]
  by_cases e:i=y
  ·rw [if_pos e,if_pos (by lia),Fx,e]
  ·rw [if_neg e,Fi]
   by_cases e2:i<y
   ·rw [if_pos e2,if_pos (show i<y+1 by lia)]
   ·rw [if_neg e2,if_neg (show ¬ i<y+1 by lia)]
theorem MV.at_next {Vt:View} {x y:Int} (W:MV V Vt x y) (hxy:x<=y) (hy:y+1<x+V.m):Cn Vt (y+1)=Cn V (y+1)/\Sh Vt (y+1)=Sh V (y+1)/\E Vt (y+1)=E V (y+1):=by
 have c:=W.C (y+1) (by lia) hy
 have s:=W.S (y+1) (by lia) hy
 rw [if_neg (by lia)] at c s
 exact ⟨c,s,by rw [dK,dK,c,s,W.O]⟩
structure ML (V:View) (y:Int) (l:Loc):Prop where
 self:l "self"=some (.ref V.i)
 a:l "idx"=some (.int (y%V.m))
 b:l "next_idx"=some (.int ((y+1)%V.m))
noncomputable def mvB (ce:EF):SF:=(seqB (bF (idxF (aC 467 "_filter" (varF "self")) (varF "next_idx")) (aC 467 "_filter" (varF "self")) (varF "idx"))
 (seqB (aQ 183 aH ce (aC 467 "_is_continuation" (varF "self")) (varF "idx"))
 (seqB (aQ 183 aH (subF 183 aD (aC 467 "_is_shifted" (varF "self")) (varF "next_idx")) (aC 467 "_is_shifted" (varF "self")) (varF "idx"))
 (seqB (setF "idx" (varF "next_idx"))
 (setF "next_idx" (binF .BitAnd (binF .Add (varF "idx") (kF (.int 1))) (aC 467 "_QuotientFilter__mod_size" (varF "self"))))))))
theorem rT (h:Good V) {y:Int} (hl:ML V y l) {ce:EF} {c:Bool} (hce:∀ F,ce l (qf σ { V with flt:=F })=some (.int (b2i c),qf σ { V with flt:=F })) :
  ∃ l1,ML V (y+1) l1/\mvB ce l (qf σ V)=some (.next,l1,qf σ (mvV V (y%V.m) ((y+1)%V.m) c)):=by
 obtain ⟨l1,l2,l3⟩:=hl
 have ha:=bE h y
 have hb:=bE h (y+1)
 let m1:=l.put "idx" (.int ((y+1)%V.m))
 have M1:m1 "self"=some (.ref V.i):=by simp [m1,Loc.put,l1]
 have M2:m1 "idx"=some (.int ((y+1)%V.m)):=by simp [m1,Loc.put]
 refine ⟨m1.put "next_idx" (.int ((y+1+1)%V.m)),by constructor<;>simp [m1,Loc.put,l1],?_⟩
 unfold mvB
 refine seqN (stF h l1 (evF h l1 (aB l3) hb) (aB l2) ha) ?_
 refine seqN (stC (h.flt _) l1 (hce _) (aB l2) ha) ?_
 refine seqN (stS ((h.flt _).con _) l1 (evS ((h.flt _).con _) l1 (aB l3) hb) (aB l2) ha) ?_
 refine seqN (aT (aB l3)) ?_
 have g5:Good (mvV V (y%V.m) ((y+1)%V.m) c):=⟨h.lt,h.q⟩
 exact aT (evUp (σ:=σ) (V:=mvV V (y%V.m) ((y+1)%V.m) c) g5 (i:=y+1) M1 M2)
theorem evClu (h:Good V) {x:String} {j:Int} (hs:l "self"=some (.ref V.i)) (hx:l x=some (.int j)) (hj:In V j):aF 467 "_is_cluster_start" aL (varF "self") (aA (varF x) nilL) l (qf σ V)=some (.bool (V.occ j && !V.con j && !V.shf j),qf σ V):=by
 exact cE (aB hs) qf_i rfl (lst1 (aB hx)) (fR h hj)
theorem evRoc (h:Good V) {x:String} {j:Int} (hs:l "self"=some (.ref V.i)) (hx:l x=some (.int j)) (hj:In V j):aF 467 "_is_run_or_cluster_start" aR (varF "self") (aA (varF x) nilL) l (qf σ V)=some (.bool (!V.con j && (V.occ j || V.shf j)),qf σ V):=by
 exact cE (aB hs) qf_i rfl (lst1 (aB hx)) (iN h hj)
theorem evRun (h:Good V) {x:String} {j:Int} (hs:l "self"=some (.ref V.i)) (hx:l x=some (.int j)) (hj:In V j):aF 467 "_is_run_start" bK (varF "self") (aA (varF x) nilL) l (qf σ V)=some (.bool (!V.con j && (V.occ j || V.shf j)),qf σ V):=by
 exact cE (aB hs) qf_i rfl (lst1 (aB hx)) (iK h hj)
noncomputable def mvT:TF:=andT [(notT (valT (aF 467 "_is_cluster_start" aL (varF "self") (aA (varF "next_idx") nilL)))),(notT (valT (aF 467 "_is_empty_element" aI (varF "self") (aA (varF "next_idx") nilL))))]
theorem mvT_step (h:Good V) {y:Int} (hl:ML V y l):mvT l (qf σ V)=some (!(O V (y+1) && !Cn V (y+1) && !Sh V (y+1)) && !E V (y+1),qf σ V):=
 (nK (evNot (lN (evClu h hl.self hl.b (bE h (y+1))))) (nK (c:=true) (evNot (lN (qQ h hl.self hl.b (bE h (y+1))))) rfl)).trans (by rw [Bool.and_true];rfl)
theorem tup2 {x y:String} {a b:Int} (hi:V.i<σ.n) (hb:V.b+10<σ.n) (h1:l x=some (.int a)) (h2:l y=some (.int b)):retS (tupF (aA (varF x) (aA (varF y) nilL))) l (qf σ V)=some (.ret (.ref σ.n),l,qf (σ.push (.tup [.int a,.int b])) V):=by
 exact (eX (bnd (lst2 (aB h1) (aB h2)) rfl)).trans (by rw [mV hi hb];rfl)
theorem move_loop (h:Good V) (L:Lay V H) {x Z:Int} (hZm:Z+1<x+V.m) (hsh:∀ i,x<i->i<=Z->H i<i) (last:H (Z+1)=Z+1):∀ (n fuel:Nat) (y:Int) (Vt:View) (l:Loc),x<=y->y<=Z->MV V Vt x y->(y=x->Cn V x=true\/Cn V (x+1)=false)->(Z - y).toNat=n->n<fuel->ML V y l->
  ∃ Vz l',MV V Vz x Z/\ML V Z l'/\bG mvT (mvB (subF 183 aD (aC 467 "_is_continuation" (varF "self")) (varF "next_idx"))) fuel l (qf σ Vt)=some (.next,l',qf σ Vz):=by
 refine meas fun n ih=>?_
 all_goals
  intro fuel y Vt l h1 h2 W hfm hn hf hl
  obtain ⟨f,rfl⟩:∃ f,fuel=f+1:=⟨fuel - 1,by lia⟩
  have hg:=W.good h
  have hl':ML Vt y l:=⟨by rw [W.i];exact hl.self,by rw [W.m];exact hl.a,by rw [W.m];exact hl.b⟩
  obtain ⟨c1,c2,c3⟩:=W.at_next h1 (by lia)
  rw [iB (mvT_step (σ:=σ) hg hl'),W.O,c1,c2,c3]
  have fi:=L.fresh_iff h (y+1)
  by_cases e:y=Z
  ·subst e
   have:=fi.mpr last
   have hb:(!(O V (y+1) && !Cn V (y+1) && !Sh V (y+1)) && !E V (y+1))=false:=by
    rcases this with q | q<;>rw [q]<;>simp
   rw [hb,if_neg (by decide)]
   exact ⟨Vt,l,W,hl,rfl⟩
  ·have hne:¬ (E V (y+1)=true\/(O V (y+1) && !Cn V (y+1) && !Sh V (y+1))=true):=fun q=>by
    have:=fi.mp q;have:=hsh (y+1) (by lia) (by lia);lia
   have hb:(!(O V (y+1) && !Cn V (y+1) && !Sh V (y+1)) && !E V (y+1))=true:=by
    cases q1:E V (y+1)
    ·cases q2:(O V (y+1) && !Cn V (y+1) && !Sh V (y+1))
     ·rfl
     ·exact absurd (.inr q2) hne
    ·exact absurd (.inl q1) hne
   rw [hb,if_pos rfl]
   have hce:∀ F,subF 183 aD (aC 467 "_is_continuation" (varF "self")) (varF "next_idx") l (qf σ { Vt with flt:=F })=some (.int (b2i (Cn V (y+1))),qf σ { Vt with flt:=F }):=by
    intro F
    have:=evC (σ:=σ) (hg.flt F) hl'.self (aB hl'.b) (bE hg (y+1))
    have e2:Vt.con ((y+1)%Vt.m)=Cn Vt (y+1):=rfl
    have this:subF 183 aD (aC 467 "_is_continuation" (varF "self")) (varF "next_idx") l (qf σ { Vt with flt:=F })=some (.int (b2i (Vt.con ((y+1)%Vt.m))),qf σ { Vt with flt:=F }):=this
    rw [e2,c1] at this
    exact this
   obtain ⟨l1,hl1,hb1⟩:=rT (σ:=σ) hg hl' hce
   rw [hb1]
   have hl1':ML V (y+1) l1:=⟨by rw [<- W.i];exact hl1.self,by rw [<- W.m];exact hl1.a,by rw [<- W.m];exact hl1.b⟩
   have W2:=W.step h h1 (by lia) (c:=Cn V (y+1)) (by
    by_cases q:y=x
    ·rw [if_pos q,q]
     rcases hfm q with z | z<;>rw [z]<;>simp
    ·rw [if_neg q])
   rw [<- W.m] at W2
   obtain ⟨n,rfl⟩:∃ m,n=m+1:=⟨n - 1,by lia⟩
   replace ih:=ih n rfl
   all_goals
    exact ih f (y+1) _ l1 (by lia) (by lia) W2 (fun q=>by lia) (by lia) (by lia) hl1'
end
section
variable {σ:Sto} {V:View} {H:Int->Int} {l:Loc}
structure SG (g:Nat) (σ σ':Sto):Prop where
 n:σ'.n=σ.n
 same:∀ k,k≠g->σ'.get k=σ.get k
theorem SG.refl {g:Nat}:SG g σ σ:=⟨rfl,fun _ _=>rfl⟩
theorem SG.put {g:Nat} {o:Ob}:SG g σ (σ.put g o):=⟨rfl,fun k hk=>if_neg hk⟩
theorem SG.trans {g:Nat} {σ₁ σ₂ σ₃:Sto} (a:SG g σ₁ σ₂) (b:SG g σ₂ σ₃):SG g σ₁ σ₃:=⟨b.n.trans a.n,fun k hk=>(b.same k hk).trans (a.same k hk)⟩
theorem iO {g:Nat} {o:Ob}:(σ.put g o).get g=o:=if_pos rfl
noncomputable def fb1:SF:=ifS (cmpT .Eq (subF 183 aD (aC 467 "_is_occupied" (varF "self")) (varF "min_idx")) (kF (.int 1))) (aU (appF (varF "queue") (varF "min_idx"))) nilB
noncomputable def fb2:SF:=ifS (cmpT .Eq (aF 467 "_is_run_start" bK (varF "self") (aA (varF "min_idx") nilL)) (kF (.int 1))) (setF "cur_quot" (oE (varF "queue"))) nilB
noncomputable def fb3:SF:=ifS (cmpT .Eq (varF "cur_quot") (varF "min_idx")) (seqB (aQ 183 aH (kF (.int 0)) (aC 467 "_is_continuation" (varF "self")) (varF "min_idx"))
 (seqB (aQ 183 aH (kF (.int 0)) (aC 467 "_is_shifted" (varF "self")) (varF "min_idx"))
 (aQ 183 aH (kF (.int 1)) (aC 467 "_is_occupied" (varF "self")) (varF "min_idx")))) nilB
noncomputable def fb:SF:=seqB fb1 (seqB fb2 (seqB fb3 (setF "min_idx" (binF .BitAnd (binF .Add (varF "min_idx") (kF (.int 1))) (aC 467 "_QuotientFilter__mod_size" (varF "self"))))))
structure XL (V:View) (g:Nat) (i nx c:Int) (l:Loc):Prop where
 self:l "self"=some (.ref V.i)
 queue:l "queue"=some (.ref g)
 mn:l "min_idx"=some (.int (i%V.m))
 nx:l "next_idx"=some (.int (nx%V.m))
 c:l "cur_quot"=some (.int c)
theorem oC (V:View) (xs:List Int) (i:Int):qvals V (xs ++ [i])=qvals V xs ++ [.int (i%V.m)]:=by simp [qvals]
theorem iY (V:View) (xs:List Int):(qvals V xs).length=xs.length:=by simp [qvals]
theorem fb1_step (h:Good V) {g:Nat} {i nx c:Int} {xs:List Int} (hl:XL V g i nx c l) (ho:¬ own V g) (hx:σ.get g=.list (qvals V xs)) (hn:xs.length<=100000) :
  ∃ σ',SG g σ σ'/\σ'.get g=.list (qvals V (xs ++ (if O V i=true then [i] else [])))/\fb1 l (qf σ V)=some (.next,l,qf σ' V):=by
 have gi:=bE h i
 have e:=evO (σ:=σ) h hl.self (aB hl.mn) gi
 have eO:V.occ (i%V.m)=O V i:=rfl
 rw [eO] at e
 unfold fb1
 cases q:O V i with
 | false=>
  rw [q] at e
  refine ⟨σ,.refl,by simpa using hx,?_⟩
  rw [cC (by unfold cmpT;rw [e];rfl)];rfl
 | true=>
  rw [q] at e
  refine ⟨σ.put g (.list (qvals V xs ++ [.int (i%V.m)])),.put,?_,?_⟩
  ·rw [iO,if_pos rfl,oC]
  ·rw [fK (by unfold cmpT;rw [e];rfl)]
   exact stApp hl.queue ho hx (by rw [iY];exact hn) (aB hl.mn)
theorem fb2_step (h:Good V) {g:Nat} {i nx c:Int} {xs:List Int} (hl:XL V g i nx c l) (ho:¬ own V g) (hx:σ.get g=.list (qvals V xs)) (hn:xs.length<=100000) :
  ((!Cn V i && (O V i || Sh V i))=false->fb2 l (qf σ V)=some (.next,l,qf σ V))/\
  ((!Cn V i && (O V i || Sh V i))=true->∀ y ys,xs=y :: ys->∃ σ' l',SG g σ σ'/\σ'.get g=.list (qvals V ys)/\XL V g i nx (y%V.m) l'/\fb2 l (qf σ V)=some (.next,l',qf σ' V)):=by
 have gi:=bE h i
 have e:=evRun (σ:=σ) h hl.self hl.mn gi
 have eO:(!V.con (i%V.m) && (V.occ (i%V.m) || V.shf (i%V.m)))=(!Cn V i && (O V i || Sh V i)):=rfl
 rw [eO] at e
 unfold fb2
 refine ⟨fun q=>?_,fun q y ys hxs=>?_⟩
 ·rw [q] at e
  rw [cC (by unfold cmpT;rw [e];rfl)];rfl
 ·rw [q] at e
  subst hxs
  refine ⟨σ.put g (.list (qvals V ys)),l.put "cur_quot" (.int (y%V.m)),.put,iO,?_,?_⟩
  ·constructor<;>simp [Loc.put,hl.self,hl.queue,hl.mn,hl.nx]
  ·rw [fK (by unfold cmpT;rw [e];rfl)]
   exact aT (evPop hl.queue ho (xs:=qvals V ys) (by rw [hx];rfl) (by rw [iY];simp at hn;lia))
noncomputable def mZ (V:View) (i:Int):View:={ V with con:=upd V.con (i%V.m) false,shf:=upd V.shf (i%V.m) false,occ:=upd V.occ (i%V.m) true }
theorem fb3_step (h:Good V) {g:Nat} {i nx c:Int} (hl:XL V g i nx c l):fb3 l (qf σ V)=some (.next,l,qf σ (if c=i%V.m then mZ V i else V)):=by
 have gi:=bE h i
 have hc:cmpT .Eq (varF "cur_quot") (varF "min_idx") l (qf σ V)=some (decide (c=i%V.m),qf σ V):=by
  exact bD (aB hl.c) (aB hl.mn) rfl
 unfold fb3
 by_cases q:c=i%V.m
 ·rw [if_pos q,fK (hc.trans (by rw [show decide (c=i%V.m)=true by simp [q]]))]
  refine seqN (stC h hl.self k0 (aB hl.mn) gi) ?_
  refine seqN (stS (h.con _) hl.self k0 (aB hl.mn) gi) ?_
  exact stO ((h.con _).shf _) hl.self k1 (aB hl.mn) gi
 ·rw [if_neg q,cC (hc.trans (by rw [show decide (c=i%V.m)=false by simp [q]]))];rfl
structure FX (V1 Vi:View) (K:Int->Int) (a i:Int):Prop where
 eq:Vi={ V1 with con:=Vi.con,shf:=Vi.shf,occ:=Vi.occ }
 O:∀ k,Mine.O Vi k=Mine.O V1 k
 C:∀ k,Cn Vi k=Cn V1 k
 S:∀ j,a<=j->j<a+V1.m->Sh Vi j=(if j<i then (Sh V1 j && decide (K j≠j)) else Sh V1 j)
theorem FX.good {V1 Vi:View} {K:Int->Int} {a i:Int} (F:FX V1 Vi K a i) (h:Good V1):Good Vi:=by rw [F.eq];exact ⟨h.lt,h.q⟩
theorem FX.m {V1 Vi:View} {K:Int->Int} {a i:Int} (F:FX V1 Vi K a i):Vi.m=V1.m:=by rw [F.eq];rfl
theorem FX.i {V1 Vi:View} {K:Int->Int} {a i:Int} (F:FX V1 Vi K a i):Vi.i=V1.i:=by rw [F.eq]
theorem FX.own {V1 Vi:View} {K:Int->Int} {a i:Int} (F:FX V1 Vi K a i) {k:Nat}:Mine.own Vi k ↔ Mine.own V1 k:=by rw [F.eq];exact Iff.rfl
theorem updm {V:View} {α:Type} {F:Int->α} {v:α} {j k:Int} (hF:F (j%V.m)=v):upd F (j%V.m) v k=F k:=by
 unfold upd
 by_cases q:k=j%V.m
 ·rw [if_pos q,q,hF]
 ·rw [if_neg q]
theorem FX.step {V1 Vi:View} {K:Int->Int} {a i:Int} (h:Good V1) (F:FX V1 Vi K a i) (hai:a<=i) (him:i<a+V1.m) (hmend:K i=i->Cn V1 i=false/\Mine.O V1 i=true):FX V1 (if K i=i then mZ Vi i else Vi) K a (i+1):=by
 have hm:=F.m
 by_cases q:K i=i
 ·rw [if_pos q]
  obtain ⟨q1,q2⟩:=hmend q
  refine ⟨by unfold mZ;rw [F.eq],fun k=>?_,fun k=>?_,fun j j1 j2=>?_⟩
  ·rw [<- F.O k]
   show upd Vi.occ (i%Vi.m) true (k%Vi.m)=Vi.occ (k%Vi.m)
   exact updm (by have:=F.O i;rw [q2] at this;exact this)
  ·rw [<- F.C k]
   show upd Vi.con (i%Vi.m) false (k%Vi.m)=Vi.con (k%Vi.m)
   exact updm (by have:=F.C i;rw [q1] at this;exact this)
  ·have Sj:=F.S j j1 j2
   unfold Sh at Sj |-
   show upd Vi.shf (i%Vi.m) false (j%Vi.m)=_
   rw [hm] at Sj |-
   rw [cG h (by lia) (by lia)]
   by_cases e:j=i
   ·rw [if_pos e,if_pos (by lia),e,q];simp
   ·rw [if_neg e,Sj]
    by_cases e2:j<i
    ·rw [if_pos e2,if_pos (by lia)]
    ·rw [if_neg e2,if_neg (by lia)]
 ·rw [if_neg q]
  refine ⟨F.eq,F.O,F.C,fun j j1 j2=>?_⟩
  rw [F.S j j1 j2]
  by_cases e:j=i
  ·rw [if_neg (by lia),if_pos (by lia),e];simp [q]
  ·by_cases e2:j<i
   ·rw [if_pos e2,if_pos (by lia)]
   ·rw [if_neg e2,if_neg (by lia)]
theorem fix_loop {V1 V2:View} {K:Int->Int} (h:Good V1) (h2:Good V2) (hm2:V2.m=V1.m) (L2:Lay V2 K) (hO2:∀ k,O V2 k=O V1 k) (hC2:∀ k,Cn V2 k=Cn V1 k) {a Z:Int} {g:Nat} (hZa:Z+1<a+V1.m) (ho:¬ own V1 g)
  (hKa:K a=a) (hrun:∀ i,a<=i->i<Z->Cn V1 i=false->(O V1 i || Sh V1 i)=true) (hneE:∀ i,a<=i->i<Z->E V2 i=false) (hZ1:Cn V1 Z=false/\O V1 Z=false/\Sh V1 Z=false) (hKZ:K (Z - 1)<Z) (haZ:a<Z) :
  ∀ (n fuel:Nat) (i c:Int) (Vi:View) (σi:Sto) (l:Loc),a<=i->i<=Z+1->FX V1 Vi K a i->XL V1 g i (Z+1) c l->(i<=Z->σi.get g=.list (qvals V1 (QU (O V1) (K (i - 1)+1) i)))->(i<=Z->i=a\/c=K (i - 1)%V1.m)->(Z+1 - i).toNat=n->n<fuel->
  ∃ Vf σf l',FX V1 Vf K a (Z+1)/\SG g σi σf/\bG (cmpT .NotEq (varF "min_idx") (varF "next_idx")) fb fuel l (qf σi Vi)=some (.next,l',qf σf Vf):=by
 refine meas fun n ih=>?_
 all_goals
  intro fuel i c Vi σi l h1 h2' F hl hq hc hn hf
  obtain ⟨f,rfl⟩:∃ f,fuel=f+1:=⟨fuel - 1,by lia⟩
  have hg:=F.good h
  have hl':XL Vi g i (Z+1) c l:=⟨by rw [F.i];exact hl.self,hl.queue,by rw [F.m];exact hl.mn,by rw [F.m];exact hl.nx,hl.c⟩
  have ht:cmpT .NotEq (varF "min_idx") (varF "next_idx") l (qf σi Vi)=some (decide (i%V1.m≠(Z+1)%V1.m),qf σi Vi):=by
   exact bD (aB hl.mn) (aB hl.nx) (neD _ _)
  rw [iB ht]
  by_cases e:i=Z+1
  ·subst e
   rw [if_neg (by simp)]
   exact ⟨Vi,σi,l,F,.refl,rfl⟩
  ·have hne:i%V1.m≠(Z+1)%V1.m:=fun q=>e (bP h q (by lia) (by lia))
   rw [if_pos (by simp [hne])]
   have hiZ:i<=Z:=by lia
   have ho':¬ own Vi g:=fun z=>ho (F.own.mp z)
   have hqv:∀ xs,qvals Vi xs=qvals V1 xs:=fun xs=>by unfold qvals;rw [F.m]
   have hm1:=L2.mono1 (i - 1)
   rw [show i - 1+1=i by lia] at hm1
   have hlei:=L2.le i
   have hle1:=L2.le (i - 1)
   have hgt1:=L2.gt h2 (i - 1)
   have hgti:=L2.gt h2 i
   rw [hm2] at hgt1 hgti
   have hlen:∀ b,(QU (O V1) (K (i - 1)+1) b).length<=(b - (K (i - 1)+1)).toNat:=fun b=>QU_len _ _ _
   have hmc:=h.mc
   have hlen0:=hlen i
   obtain ⟨σ1,s1,g1,b1⟩:=fb1_step (σ:=σi) hg hl' ho' (xs:=QU (O V1) (K (i - 1)+1) i) (by rw [hqv];exact hq hiZ) (by lia)
   rw [F.O i,<- QU_snoc (O V1) _ (K (i - 1)+1) rfl (by lia)] at g1
   have hlen1:=hlen (i+1)
   obtain ⟨r1,r2⟩:=fb2_step (σ:=σ1) hg hl' ho' g1 (by lia)
   rw [F.C i,F.O i] at r1 r2
   have hSi:Sh Vi i=Sh V1 i:=by rw [F.S i h1 (by lia),if_neg (by lia)]
   rw [hSi] at r1 r2
   have mid:∃ σ2 l2 c2,SG g σi σ2/\XL V1 g i (Z+1) c2 l2/\seqB fb1 fb2 l (qf σi Vi)=some (.next,l2,qf σ2 Vi)/\(i<Z->c2=K i%V1.m/\σ2.get g=.list (qvals V1 (QU (O V1) (K i+1) (i+1))))/\(i=Z->c2=c):=by
    by_cases eZ:i=Z
    ·subst eZ
     have:(!Cn V1 i && (O V1 i || Sh V1 i))=false:=by rw [hZ1.1,hZ1.2.1,hZ1.2.2];rfl
     exact ⟨σ1,l,c,s1,hl,seqN b1 (r1 this),fun z=>absurd z (by lia),fun _=>rfl⟩
    ·have hiZ':i<Z:=by lia
     cases qc:Cn V1 i with
     | true=>
      have hcon:=(L2.con i).mp (by rw [hC2];exact qc)
      have hia:i≠a:=fun z=>by
       rw [z] at hcon hle1;rw [hKa] at hcon;lia
      have:(!Cn V1 i && (O V1 i || Sh V1 i))=false:=by rw [qc];rfl
      refine ⟨σ1,l,c,s1,hl,seqN b1 (r1 this),fun _=>⟨?_,?_⟩,fun z=>absurd z eZ⟩
      ·rcases hc hiZ with z | z
       ·exact absurd z hia
       ·rw [hcon];exact z
      ·rw [hcon,<- hqv];exact g1
     | false=>
      have hb:(!Cn V1 i && (O V1 i || Sh V1 i))=true:=by rw [hrun i h1 hiZ' qc,qc];rfl
      have hKne:K i≠K (i - 1):=fun z=>by rw [<- hC2,(L2.con i).mpr z] at qc;cases qc
      have hOK:O V1 (K i)=true:=by rw [<- hO2];exact L2.ne_occ (hneE i h1 hiZ')
      have hform:QU (O V1) (K (i - 1)+1) (i+1)=K i :: QU (O V1) (K i+1) (i+1):=by
       rw [lY (O V1) (b:=K i) (by lia) (by lia) fun k k1 k2=>by rw [<- hO2];exact L2.between (j:=i) (by lia) (by lia),kB (O V1) (show K i<i+1 by lia),if_pos hOK]
      obtain ⟨σ2,l2,s2,g2,x2,b2⟩:=r2 hb _ _ hform
      refine ⟨σ2,l2,_,s1.trans s2,⟨by rw [<- F.i];exact x2.self,x2.queue,by rw [<- F.m];exact x2.mn,by rw [<- F.m];exact x2.nx,x2.c⟩,seqN b1 b2,fun _=>⟨by rw [F.m],by rw [<- hqv];exact g2⟩,fun z=>absurd z eZ⟩
   obtain ⟨σ2,l2,c2,s2,x2,b2,i1,i2⟩:=mid
   have x2':XL Vi g i (Z+1) c2 l2:=⟨by rw [F.i];exact x2.self,x2.queue,by rw [F.m];exact x2.mn,by rw [F.m];exact x2.nx,x2.c⟩
   have b3:=fb3_step (σ:=σ2) hg x2'
   have F':FX V1 (if c2=i%Vi.m then mZ Vi i else Vi) K a (i+1):=by
    by_cases eZ:i=Z
    ·have hcc:=i2 eZ
     have hno:¬ c2=i%Vi.m:=by
      rw [F.m,hcc]
      rcases hc hiZ with z | z
      ·lia
      ·rw [z]
       intro q
       have hgn:=L2.gt_ne h2 (hneE (i - 1) (by lia) (by lia))
       rw [hm2] at hgn
       have:=bP h (i:=K (i - 1)) (j:=i) q (by lia) (by lia)
       rw [eZ] at this
       lia
     rw [if_neg hno]
     refine ⟨F.eq,F.O,F.C,fun j j1 j2=>?_⟩
     rw [F.S j j1 j2]
     by_cases e3:j=i
     ·rw [if_neg (by lia),if_pos (by lia),e3,eZ,hZ1.2.2];rfl
     ·by_cases e2:j<i
      ·rw [if_pos e2,if_pos (by lia)]
      ·rw [if_neg e2,if_neg (by lia)]
    ·have hcond:(c2=i%Vi.m) ↔ K i=i:=by
      rw [F.m,(i1 (by lia)).1]
      constructor
      ·intro q;exact bP h q (by lia) (by lia)
      ·intro q;rw [q]
     have hV:(if c2=i%Vi.m then mZ Vi i else Vi)=(if K i=i then mZ Vi i else Vi):=by
      by_cases q:K i=i
      ·rw [if_pos q,if_pos (hcond.mpr q)]
      ·rw [if_neg q,if_neg fun z=>q (hcond.mp z)]
     rw [hV]
     refine F.step h h1 (by lia) fun q=>⟨?_,?_⟩
     ·cases z:Cn V1 i with
      | false=>rfl
      | true=>have:=(L2.con i).mp (by rw [hC2];exact z);lia
     ·have:=L2.ne_occ (hneE i h1 (by lia))
      rw [q,hO2] at this;exact this
   have hi':(if c2=i%Vi.m then mZ Vi i else Vi).i=V1.i:=F'.i
   have hm':(if c2=i%Vi.m then mZ Vi i else Vi).m=V1.m:=F'.m
   let l3:=l2.put "min_idx" (.int ((i+1)%V1.m))
   have x3:XL V1 g (i+1) (Z+1) c2 l3:=by constructor<;>simp [l3,Loc.put,x2.self,x2.queue,x2.nx,x2.c]
   have bb:fb l (qf σi Vi)=some (.next,l3,qf σ2 (if c2=i%Vi.m then mZ Vi i else Vi)):=by
    unfold fb
    have hb12:seqB fb1 (seqB fb2 (seqB fb3 (setF "min_idx" (binF .BitAnd (binF .Add (varF "min_idx") (kF (.int 1))) (aC 467 "_QuotientFilter__mod_size" (varF "self")))))) l (qf σi Vi)=seqB (seqB fb1 fb2) (seqB fb3 (setF "min_idx" (binF .BitAnd (binF .Add (varF "min_idx") (kF (.int 1))) (aC 467 "_QuotientFilter__mod_size" (varF "self"))))) l (qf σi Vi):=by
     unfold seqB
     cases fb1 l (qf σi Vi) with
     | none=>rfl
     | some r=>obtain ⟨q1,q2,q3⟩:=r;cases q1<;>rfl
    rw [hb12]
    refine seqN b2 (seqN b3 ?_)
    have:=evUp (σ:=σ2) (F'.good h) (l:=l2) (x:="min_idx") (i:=i) (by rw [hi'];exact x2.self) (by rw [hm'];exact x2.mn)
    rw [hm'] at this
    exact aT this
   rw [bb]
   obtain ⟨n,rfl⟩:∃ m,n=m+1:=⟨n - 1,by lia⟩
   replace ih:=ih n rfl
   all_goals
    obtain ⟨Vf,σf,l',F1,F2,F3⟩:=ih f (i+1) c2 _ σ2 l3 (by lia) (by lia) F' x3 (fun z=>by rw [show i+1 - 1=i by lia];exact (i1 (by lia)).2) (fun z=>.inr (by rw [show i+1 - 1=i by lia];exact (i1 (by lia)).1)) (by lia) (by lia)
    exact ⟨Vf,σf,l',F1,s2.trans F2,F3⟩
end
structure Ext (σ σ':Sto):Prop where
 n:σ.n<=σ'.n
 same:∀ k,k<σ.n->σ'.get k=σ.get k
theorem Ext.refl {σ:Sto}:Ext σ σ:=⟨Nat.le_refl _,fun _ _=>rfl⟩
theorem Ext.trans {a b c:Sto} (x:Ext a b) (y:Ext b c):Ext a c:=⟨Nat.le_trans x.n y.n,fun k hk=>(y.same k (Nat.lt_of_lt_of_le hk x.n)).trans (x.same k hk)⟩
theorem Ext.push {σ:Sto} {o:Ob}:Ext σ (σ.push o):=⟨Nat.le_succ _,fun k hk=>if_neg (Nat.ne_of_lt hk)⟩
theorem Ext.sg {σ σ':Sto} {g:Nat} (h:SG g σ σ') {σ₀:Sto} (e:Ext σ₀ σ) (hg:σ₀.n<=g):Ext σ₀ σ':=⟨by rw [h.n];exact e.n,fun k hk=>(h.same k (by lia)).trans (e.same k hk)⟩
section
variable {σ:Sto} {V:View} {H:Int->Int} {l:Loc}
theorem clO (h:Good V) {x:String} {j:Int} (hs:l "self"=some (.ref V.i)) (hx:l x=some (.int j)) (hj:In V j):aU (aF 183 "clear_bit" bL (aC 467 "_is_occupied" (varF "self")) (aA (varF x) nilL)) l (qf σ V)=some (.next,l,qf σ { V with occ:=upd V.occ j false }):=by
 exact cM (cE (evA (aB hs) qf_i rfl) (qf_o h) rfl (lst1 (aB hx)) (clr_o h hj))
theorem clC (h:Good V) {x:String} {j:Int} (hs:l "self"=some (.ref V.i)) (hx:l x=some (.int j)) (hj:In V j):aU (aF 183 "clear_bit" bL (aC 467 "_is_continuation" (varF "self")) (aA (varF x) nilL)) l (qf σ V)=some (.next,l,qf σ { V with con:=upd V.con j false }):=by
 exact cM (cE (evA (aB hs) qf_i rfl) (qf_c h) rfl (lst1 (aB hx)) (clr_c h hj))
theorem clS (h:Good V) {x:String} {j:Int} (hs:l "self"=some (.ref V.i)) (hx:l x=some (.int j)) (hj:In V j):aU (aF 183 "clear_bit" bL (aC 467 "_is_shifted" (varF "self")) (aA (varF x) nilL)) l (qf σ V)=some (.next,l,qf σ { V with shf:=upd V.shf j false }):=by
 exact cM (cE (evA (aB hs) qf_i rfl) (qf_s h) rfl (lst1 (aB hx)) (clr_s h hj))
theorem roc_E {x:Int} (hx:E V x=false):(!V.con (x%V.m) && (V.occ (x%V.m) || V.shf (x%V.m)))=!Cn V x:=by
 show (!Cn V x && (O V x || Sh V x))=_
 rw [dK] at hx
 cases q1:Cn V x with
 | true=>rfl
 | false=>
  rw [q1] at hx
  cases q2:O V x with
  | true=>rfl
  | false=>cases q3:Sh V x with
   | true=>rfl
   | false=>rw [q2,q3] at hx;cases hx
theorem pX (h:Good V) {x:Int} (hx:E V x=false):bI [.ref V.i,.int (x%V.m),.int ((x+1)%V.m)] (qf σ V)=some (.bool (!Cn V x && !Cn V (x+1)),qf σ V):=by
 rw [<- roc_E hx]
 exact fRet rfl (eX (evBA (evRoc h rfl rfl (bE h x)) (evB1 (gZ (evC h rfl (aB rfl) (bE h (x+1))) rfl qU))))
theorem fcs_loop (h:Good V) (L:Lay V H) {x e:Int} (he:E V e=true):∀ (n fuel:Nat) (j:Int) (l:Loc),e<=j->j<=x->E V j=false->(∀ k,j<k->k<=x->H k<k/\E V k=false)->(j - e).toNat=n->n<fuel->l "self"=some (.ref V.i)->l "min_idx"=some (.int (j%V.m))->
  ∃ a l',e<=a/\a<=x/\H a=a/\(∀ k,a<=k->k<=x->E V k=false)/\(∀ k,a<k->k<=x->H k<k)/\l' "min_idx"=some (.int (a%V.m))/\
   bG (notT (valT (aF 467 "_is_cluster_start" aL (varF "self") (aA (varF "min_idx") nilL)))) (setF "min_idx" (binF .BitAnd (binF .Sub (varF "min_idx") (kF (.int 1))) (aC 467 "_QuotientFilter__mod_size" (varF "self")))) fuel l (qf σ V)=some (.next,l',qf σ V):=by
 refine meas fun n ih=>?_
 all_goals
  intro fuel j l h1 h2 h3 h4 hn hf l1 l2
  obtain ⟨f,rfl⟩:∃ f,fuel=f+1:=⟨fuel - 1,by lia⟩
  have e1:=evClu (σ:=σ) h l1 l2 (bE h j)
  have ht:notT (valT (aF 467 "_is_cluster_start" aL (varF "self") (aA (varF "min_idx") nilL))) l (qf σ V)=some (!(O V j && !Cn V j && !Sh V j),qf σ V):=evNot (lN e1)
  rw [iB ht]
  have fi:=L.fresh_iff h j
  by_cases q:H j=j
  ·have hc:(O V j && !Cn V j && !Sh V j)=true:=by
    rcases fi.mpr q with z | z
    ·rw [h3] at z;cases z
    ·exact z
   rw [hc,if_neg (by decide)]
   exact ⟨j,l,h1,h2,q,fun k k1 k2=>if z:k=j then (by rw [z];exact h3) else (h4 k (by lia) k2).2,fun k k1 k2=>(h4 k k1 k2).1,l2,rfl⟩
  ·have hc:(O V j && !Cn V j && !Sh V j)=false:=by
    cases z:(O V j && !Cn V j && !Sh V j) with
    | false=>rfl
    | true=>exact absurd (fi.mp (.inr z)) q
   have hlt:H j<j:=by have:=L.le j;lia
   have hne:=L.ne_prev hlt
   have hje:j - 1≠e - 1:=by
    intro z
    have:j=e:=by lia
    rw [this,he] at h3;cases h3
   have hje2:e≠j - 1\/True:=.inr trivial
   rw [hc,if_pos (by rfl)]
   have hs:=aT (x:="min_idx") (evDn (σ:=σ) h (x:="min_idx") (i:=j) l1 l2)
   rw [hs]
   obtain ⟨n,rfl⟩:∃ m,n=m+1:=⟨n - 1,by lia⟩
   replace ih:=ih n rfl
   all_goals
    exact ih f (j - 1) _ (by lia) (by lia) hne (fun k k1 k2=>if z:k=j then (by rw [z];exact ⟨hlt,h3⟩) else h4 k (by lia) k2) (by lia) (by lia) (by simp [Loc.put,l1]) (by simp [Loc.put])
theorem fcs_spec (h:Good V) (L:Lay V H) {x:Int} (hx:E V x=false):∃ a,x - V.m<a/\a<=x/\H a=a/\(∀ k,a<=k->k<=x->E V k=false)/\(∀ k,a<k->k<=x->H k<k)/\bZ [.ref V.i,.int (x%V.m)] (qf σ V)=some (.int (a%V.m),qf σ V):=by
 obtain ⟨e,he,e1,e2⟩:=L.hole_below h x
 let l:=aJ ["self","idx"] [.ref V.i,.int (x%V.m)]
 obtain ⟨a,l',a1,a2,a3,a4,a5,a6,a7⟩:=fcs_loop (σ:=σ) h L (x:=x) he (x - e).toNat 100 x (l.put "min_idx" (.int (x%V.m))) e1 (Int.le_refl _) hx (fun k k1 k2=>absurd k1 (by lia)) rfl (by have:=h.mc;lia) (by simp [l,Loc.put,aJ]) (by simp [l,Loc.put])
 refine ⟨a,by lia,a2,a3,a4,a5,?_⟩
 refine eC (l':=l') rfl ?_
 show dB l (qf σ V)=_
 unfold dB
 refine seqN (aT (aB (x:="idx") (v:=.int (x%V.m)) (by simp [l,aJ]))) (seqN a7 ?_)
 unfold retS;rw [aB a6];rfl
theorem findZ (h:Good V) (L:Lay V H) {x:Int} (hx:E V x=false):∃ Z,x<=Z/\Z+1<x+V.m/\H (Z+1)=Z+1/\∀ i,x<i->i<=Z->H i<i:=by
 obtain ⟨e,he,e1,e2⟩:=L.hole_below h (x+V.m - 1)
 have hex:e≠x:=fun q=>by rw [q,hx] at he;cases he
 have hm:=h.mpos
 have key:∀ (n:Nat) (j:Int),x<=j->j+1<=e->(∀ i,x<i->i<=j->H i<i)->(e - 1 - j).toNat=n->∃ Z,x<=Z/\Z+1<=e/\H (Z+1)=Z+1/\∀ i,x<i->i<=Z->H i<i:=by
  refine meas fun n ih=>?_
  all_goals
   intro j j1 j2 j3 hn
   by_cases q:H (j+1)=j+1
   ·exact ⟨j,j1,j2,q,j3⟩
   ·have hlt:H (j+1)<j+1:=by have:=L.le (j+1);lia
    have:j+1≠e:=fun z=>by have:=(L.hole e he).1;rw [<- z] at this;exact q this
    obtain ⟨n,rfl⟩:∃ m,n=m+1:=⟨n - 1,by lia⟩
    replace ih:=ih n rfl
    all_goals
     exact ih (j+1) (by lia) (by lia) (fun i i1 i2=>if z:i=j+1 then (by rw [z];exact hlt) else j3 i i1 (by lia)) (by lia)
 obtain ⟨Z,z1,z2,z3,z4⟩:=key _ x (Int.le_refl _) (by lia) (fun i i1 i2=>absurd i1 (by lia)) rfl
 exact ⟨Z,z1,by lia,z3,z4⟩
theorem hfm_spec (h:Good V) (L:Lay V H) {x Z:Int} (hx:E V x=false) (hxZ:x<Z) (hZm:Z+1<x+V.m) (hi:V.i<σ.n) (hb:V.b+10<σ.n):∃ y Vy,MV V Vy x y/\x<=y/\y<=Z/\(y=x->Cn V x=true\/Cn V (x+1)=false)/\
  cK [.ref V.i,.int (x%V.m),.int ((x+1)%V.m)] (qf σ V)=some (.ref σ.n,qf (σ.push (.tup [.int (y%V.m),.int ((y+1)%V.m)])) Vy):=by
 let l:=aJ ["self","idx","next_idx"] [.ref V.i,.int (x%V.m),.int ((x+1)%V.m)]
 have hl:ML V x l:=⟨rfl,rfl,rfl⟩
 have e1:=evRoc (σ:=σ) h hl.self hl.a (bE h x)
 have e2:=evC (σ:=σ) h hl.self (aB hl.b) (bE h (x+1))
 rw [roc_E hx] at e1
 have ht:andT [(valT (aF 467 "_is_run_or_cluster_start" aR (varF "self") (aA (varF "idx") nilL))),(cmpT .Eq (subF 183 aD (aC 467 "_is_continuation" (varF "self")) (varF "next_idx")) (kF (.int 1)))] l (qf σ V)=some (!Cn V x && Cn V (x+1),qf σ V):=by
  exact (nK (lN e1) (nK (c:=true) (bD e2 rfl tZ) rfl)).trans (by rw [Bool.and_true];rfl)
 have hs:cL=seqB (ifS (andT [(valT (aF 467 "_is_run_or_cluster_start" aR (varF "self") (aA (varF "idx") nilL))),(cmpT .Eq (subF 183 aD (aC 467 "_is_continuation" (varF "self")) (varF "next_idx")) (kF (.int 1)))]) (mvB (kF (.int 0))) nilB) (retS (tupF (aA (varF "idx") (aA (varF "next_idx") nilL)))):=rfl
 cases q:(!Cn V x && Cn V (x+1)) with
 | false=>
  rw [q] at ht
  refine ⟨x,V,.zero x,Int.le_refl _,by lia,fun _=>?_,?_⟩
  ·cases q1:Cn V x<;>cases q2:Cn V (x+1)<;>simp [q1,q2] at q |-
  ·refine eC (l':=l) rfl ?_
   show cL l (qf σ V)=_
   rw [hs]
   exact seqN (cC ht) (tup2 hi hb hl.a hl.b)
 | true=>
  rw [q] at ht
  obtain ⟨l1,hl1,hb1⟩:=rT (σ:=σ) h hl (ce:=kF (.int 0)) (c:=false) (fun F=>rfl)
  have W:=(MV.zero (V:=V) x).step h (Int.le_refl x) (by lia) (c:=false) (by rw [if_pos rfl];cases q1:Cn V x<;>simp [q1] at q |-)
  refine ⟨x+1,_,W,by lia,by lia,fun z=>by lia,?_⟩
  refine eC (l':=l1) rfl ?_
  show cL l (qf σ V)=_
  rw [hs]
  refine seqN ((fK ht).trans hb1) ?_
  exact tup2 (V:=mvV V (x%V.m) ((x+1)%V.m) false) hi hb hl1.a hl1.b
theorem se_spec (h:Good V) (L:Lay V H) {x y Z:Int} {Vy:View} (W:MV V Vy x y) (hxy:x<=y) (hyZ:y<=Z) (hfm:y=x->Cn V x=true\/Cn V (x+1)=false) (hZm:Z+1<x+V.m) (hsh:∀ i,x<i->i<=Z->H i<i) (last:H (Z+1)=Z+1) (hi:V.i<σ.n) (hb:V.b+10<σ.n) :
  ∃ Vz,MV V Vz x Z/\cN [.ref V.i,.int (y%V.m),.int ((y+1)%V.m)] (qf σ Vy)=some (.ref σ.n,qf (σ.push (.tup [.int (Z%V.m),.int ((Z+1)%V.m)])) Vz):=by
 let l:=aJ ["self","idx","next_idx"] [.ref V.i,.int (y%V.m),.int ((y+1)%V.m)]
 have hl:ML V y l:=by constructor<;>simp [l,aJ]
 obtain ⟨Vz,l',W2,hl2,hw⟩:=move_loop (σ:=σ) h L hZm hsh last (Z - y).toNat 100 y Vy l hxy hyZ W hfm rfl (by have:=h.mc;lia) hl
 refine ⟨Vz,W2,?_⟩
 refine eC (l':=l') rfl ?_
 show eA l (qf σ Vy)=_
 have hs:eA=seqB (bG mvT (mvB (subF 183 aD (aC 467 "_is_continuation" (varF "self")) (varF "next_idx"))) 100) (retS (tupF (aA (varF "idx") (aA (varF "next_idx") nilL)))):=rfl
 rw [hs]
 exact seqN hw (tup2 (V:=Vz) (by rw [W2.i];exact hi) (by rw [W2.b];exact hb) hl2.a hl2.b)
end
section
variable {σ:Sto} {V:View} {H:Int->Int} {l:Loc}
noncomputable def clrV (V:View) (x Q:Int) (rem:Bool):View:={ V with flt:=upd V.flt x 0,occ:=if rem=true then upd (upd V.occ x false) Q false else upd V.occ x false,con:=upd V.con x false,shf:=upd V.shf x false }
theorem rc_spec (h:Good V) {x Q:Int} (hx:In V x) (hQ:In V Q) (rem:Bool):bM [.ref V.i,.int x,.int Q,.bool rem] (qf σ V)=some (.none,qf σ (clrV V x Q rem)):=by
 let l:=aJ ["self","idx","q","remove_orig_idx"] [.ref V.i,.int x,.int Q,.bool rem]
 have l1:l "self"=some (.ref V.i):=by simp [l,aJ]
 have l2:l "idx"=some (.int x):=by simp [l,aJ]
 have l3:l "q"=some (.int Q):=by simp [l,aJ]
 have l4:l "remove_orig_idx"=some (.bool rem):=by simp [l,aJ]
 refine bC (l':=l) rfl ?_
 show cP l (qf σ V)=_
 unfold cP
 refine seqN (stF h l1 (show kF (.int 0) l (qf σ V)=some (.int 0,qf σ V) from rfl) (aB l2) hx) ?_
 refine seqN (clO (h.flt _) l1 l2 hx) ?_
 refine seqN (clC ((h.flt _).occ _) l1 l2 hx) ?_
 refine seqN (clS (((h.flt _).occ _).con _) l1 l2 hx) ?_
 cases rem with
 | false=>rw [cC (dH (aB l4))];rfl
 | true=>
  rw [fK (dH (aB l4))]
  exact stO ((((h.flt _).occ _).con _).shf _) l1 k0 (aB l3) hQ
theorem clrV_del (h:Good V) {x Q:Int} (L:Lay V H) (hx:E V x=false) (hQ:In V Q) (hH:H x=Q) (last:H (x+1)=x+1):DelA V (clrV V (x%V.m) Q (!Cn V x && !Cn V (x+1))) H x:=by
 have hmod:Q%V.m=Q:=Int.emod_eq_of_lt hQ.1 hQ.2
 have hC1:Cn V (x+1)=false:=by
  cases q:Cn V (x+1) with
  | false=>rfl
  | true=>have:=(L.con _).mp q;rw [show x+1 - 1=x by lia] at this;have:=L.le x;lia
 rw [hC1]
 refine ⟨rfl,hx,last,fun i h1 h2=>?_,fun i h1 h2=>?_,fun i h1 h2=>?_,fun k=>?_⟩
 ·show upd V.con (x%V.m) false (i%V.m)=_
  rw [cG h (by lia) (by lia)];rfl
 ·show upd V.shf (x%V.m) false (i%V.m)=_
  rw [cG h (by lia) (by lia)];rfl
 ·show upd V.flt (x%V.m) 0 (i%V.m)=_
  rw [cG h (by lia) (by lia)];rfl
 ·show (if (!Cn V x && !false)=true then upd (upd V.occ (x%V.m) false) Q false else upd V.occ (x%V.m) false) (k%V.m)=_
  have e0:upd V.occ (x%V.m) false (k%V.m)=(O V k && !decide (k%V.m=x%V.m)):=by
   unfold upd O
   by_cases q:k%V.m=x%V.m<;>simp [q]
  cases q:Cn V x
  ·simp only [Bool.not_false,Bool.and_self,if_true]
   rw [hH,hmod]
   unfold upd at e0 |-
   by_cases q2:k%V.m=Q
   ·rw [if_pos q2];simp [q2]
   ·rw [if_neg q2,e0];simp [q2]
  ·simp only [Bool.not_true,Bool.false_and,Bool.false_eq_true,if_false]
   rw [e0];simp
theorem cl_spec (h:Good V) {x:Int} (hx:In V x):cA [.ref V.i,.int x] (qf σ V)=some (.none,qf σ { V with flt:=upd V.flt x 0,con:=upd V.con x false,shf:=upd V.shf x false,occ:=upd V.occ x false }):=by
 let l:=aJ ["self","idx"] [.ref V.i,.int x]
 have l1:l "self"=some (.ref V.i):=by simp [l,aJ]
 have l2:l "idx"=some (.int x):=by simp [l,aJ]
 refine bC (l':=l) rfl ?_
 show dC l (qf σ V)=_
 unfold dC
 refine seqN (stF h l1 (show kF (.int 0) l (qf σ V)=some (.int 0,qf σ V) from rfl) (aB l2) hx) ?_
 refine seqN (stC (h.flt _) l1 k0 (aB l2) hx) ?_
 refine seqN (stS ((h.flt _).con _) l1 k0 (aB l2) hx) ?_
 exact stO (((h.flt _).con _).shf _) l1 k0 (aB l2) hx
structure PreB (V V1:View) (H:Int->Int) (x Z Q:Int):Prop where
 eq:V1={ V with con:=V1.con,shf:=V1.shf,flt:=V1.flt,occ:=V1.occ }
 C:∀ i,x<=i->i<x+V.m->Cn V1 i=(if i<Z then (if i=x then (Cn V x && Cn V (x+1)) else Cn V (i+1)) else if i=Z then false else Cn V i)
 S:∀ i,x<=i->i<x+V.m->Sh V1 i=(if i<Z then Sh V (i+1) else if i=Z then false else Sh V i)
 F:∀ i,x<=i->i<x+V.m->Fl' V1 i=(if i<Z then Fl' V (i+1) else if i=Z then 0 else Fl' V i)
 O:∀ k,Mine.O V1 k=(Mine.O V k && !(!Cn V x && !Cn V (x+1) && decide (k%V.m=H x%V.m)))
theorem PreB.of {Vz:View} (h:Good V) (L:Lay V H) {x Z Q:Int} (W:MV V Vz x Z) (hxZ:x<Z) (hZm:Z+1<x+V.m) (hsh:H Z<Z) (last:H (Z+1)=Z+1) (hQ:In V Q) (hH:H x=Q) {rem:Bool} (hr:rem=(!Cn V x && !Cn V (x+1))) :
  PreB V { Vz with flt:=upd Vz.flt (Z%V.m) 0,con:=upd Vz.con (Z%V.m) false,shf:=upd Vz.shf (Z%V.m) false,occ:=if rem=true then upd (upd Vz.occ (Z%V.m) false) Q false else upd Vz.occ (Z%V.m) false } H x Z Q:=by
 have hmod:Q%V.m=Q:=Int.emod_eq_of_lt hQ.1 hQ.2
 have hOZ:=noO L hsh last
 have hm:=W.m
 refine ⟨by rw [W.eq],fun i h1 h2=>?_,fun i h1 h2=>?_,fun i h1 h2=>?_,fun k=>?_⟩
 ·have:=W.C i h1 h2
  unfold Cn at this |-
  show upd Vz.con (Z%V.m) false (i%Vz.m)=_
  rw [hm] at this |-
  rw [cG h (by lia) (by lia),this]
  by_cases e:i=Z
  ·rw [if_pos e,if_neg (by lia),if_pos e]
  ·rw [if_neg e]
   by_cases e2:i<Z
   ·rw [if_pos e2,if_pos e2]
   ·rw [if_neg e2,if_neg e2,if_neg e]
 ·have:=W.S i h1 h2
  unfold Sh at this |-
  show upd Vz.shf (Z%V.m) false (i%Vz.m)=_
  rw [hm] at this |-
  rw [cG h (by lia) (by lia),this]
  by_cases e:i=Z
  ·rw [if_pos e,if_neg (by lia),if_pos e]
  ·rw [if_neg e]
   by_cases e2:i<Z
   ·rw [if_pos e2,if_pos e2]
   ·rw [if_neg e2,if_neg e2,if_neg e]
 ·have:=W.F i h1 h2
  unfold Fl' at this |-
  show upd Vz.flt (Z%V.m) 0 (i%Vz.m)=_
  rw [hm] at this |-
  rw [cG h (by lia) (by lia),this]
  by_cases e:i=Z
  ·rw [if_pos e,if_neg (by lia),if_pos e]
  ·rw [if_neg e]
   by_cases e2:i<Z
   ·rw [if_pos e2,if_pos e2]
   ·rw [if_neg e2,if_neg e2,if_neg e]
 ·have hVo:Vz.occ=V.occ:=by rw [W.eq]
  have e0:upd V.occ (Z%V.m) false (k%V.m)=Mine.O V k:=by
   unfold Mine.O
   exact updm (V:=V) (F:=V.occ) (j:=Z) hOZ
  show (if rem=true then upd (upd Vz.occ (Z%V.m) false) Q false else upd Vz.occ (Z%V.m) false) (k%Vz.m)=_
  rw [hm,hVo,<- hr,hH,hmod]
  cases rem with
  | true=>
   rw [if_pos rfl]
   unfold upd at e0 |-
   by_cases q2:k%V.m=Q
   ·rw [if_pos q2];simp [q2]
   ·rw [if_neg q2,e0];simp [q2]
  | false=>rw [if_neg (by decide),e0];simp
theorem tO {V1:View} (h:Good V) (L:Lay V H) {x Z Q a:Int} (P:PreB V V1 H x Z Q) (hx:E V x=false) (hxZ:x<Z) (hZm:Z+1<x+V.m) (hsh:∀ i,x<i->i<=Z->H i<i) (last:H (Z+1)=Z+1)
  (ha1:a<=x) (ha2:H a=a) (hane:∀ k,a<=k->k<=x->E V k=false) (hash:∀ k,a<k->k<=x->H k<k) (hi:V.i<σ.n) (hb:V.b+10<σ.n) :
  ∃ Vf σ',Ext σ σ'/\Vf={ V with con:=Vf.con,shf:=Vf.shf,flt:=Vf.flt,occ:=Vf.occ }/\DelB V Vf H x Z/\bX [.ref V.i,.int (a%V.m),.int ((Z+1)%V.m)] (qf σ V1)=some (.none,qf σ' Vf):=by
 have hm1:V1.m=V.m:=by rw [P.eq];rfl
 have hi1:V1.i=V.i:=by rw [P.eq]
 have hb1:V1.b=V.b:=by rw [P.eq]
 have g1:Good V1:=by rw [P.eq];exact ⟨h.lt,h.q⟩
 let K:=iQ V H x Z
 have Kper:∀ i,K (i+V.m)=K i+V.m:=fun i=>cW i
 have Kk:=fW Kper
 have pk:=fW L.per
 have hmp:=h.mpos
 let V2:View:={ V1 with shf:=fun j=>decide (K j<j) }
 have g2:Good V2:=g1.shf _
 have hSh2:∀ i,Sh V2 i=decide (K i<i):=by
  intro i
  show decide (K (i%V1.m)<i%V1.m)=_
  rw [hm1]
  have e:=Int.emod_add_mul_ediv i V.m
  have:=Kk (i%V.m) (i / V.m)
  rw [e] at this
  congr 1
  apply propext
  constructor<;>intro q<;>lia
 have D2:DelB V V2 H x Z:=by
  refine ⟨hm1,hx,hxZ,hZm,hsh,last,P.C,fun i h1 h2=>?_,P.F,P.O⟩
  rw [hSh2,show K i=(if i<Z then H (i+1) else if i=Z then Z else H i) from eK h1 h2]
  by_cases e:i<Z
  ·rw [if_pos e,if_pos e]
  ·rw [if_neg e,if_neg e]
   by_cases e1:i=Z
   ·rw [if_pos e1,if_pos e1,e1,decide_eq_false (Int.lt_irrefl Z)]
   ·rw [if_neg e1,if_neg e1]
    exact Bool.eq_iff_iff.mpr (decide_eq_true_iff.trans (L.shf i).symm)
 have L2:=D2.facts h g2 L
 obtain ⟨e,he,e1,e2⟩:=L.hole_below h Z
 have hea:e<a:=by
  by_cases q:e<a
  ·exact q
  ·exfalso
   by_cases q2:e<=x
   ·rw [hane e (by lia) q2] at he;cases he
   ·have:=(L.hole e he).1;have:=hsh e (by lia) e1;lia
 have low:∀ i,a<=i->i<x->K i=H i/\E V2 i=false/\Cn V1 i=Cn V i/\Sh V1 i=Sh V i/\Fl' V1 i=Fl' V i:=by
  intro i i1 i2
  have b1:x<=i+V.m:=by lia
  have b2:i+V.m<x+V.m:=by lia
  have b3:¬ i+V.m<Z:=by lia
  have b4:¬ i+V.m=Z:=by lia
  have k1:=D2.Wz (i:=i+V.m) (by lia) b2
  rw [show iQ V H x Z=K from rfl,Kper,L.per] at k1
  have k2:=D2.Ez h L (i:=i+V.m) (by lia) b2
  rw [nW,hane i i1 (by lia)] at k2
  have k3:=P.C _ b1 b2
  have k4:=P.S _ b1 b2
  have k5:=P.F _ b1 b2
  rw [if_neg b3,if_neg b4] at k3 k4 k5
  have c1:=Cn_k V1 i 1
  have c2:=Cn_k V i 1
  have s1:=Sh_k V1 i 1
  have s2:=Sh_k V i 1
  have f1:=Fl_k V1 i 1
  have f2:=Fl_k V i 1
  rw [hm1,Int.mul_one] at c1 s1 f1
  rw [Int.mul_one] at c2 s2 f2
  have k2':E V2 i=false:=by
   have:=nW V2 i
   rw [D2.m] at this
   rw [<- this];exact k2
  exact ⟨by lia,k2',by rw [<- c1,k3,c2],by rw [<- s1,k4,s2],by rw [<- f1,k5,f2]⟩
 have hKa:K a=a:=by
  by_cases q:a=x
  ·rw [q,show K x=H (x+1) from D2.Ww (Int.le_refl _) hxZ]
   have c1:=hsh (x+1) (by lia) (by lia)
   have c2:=L.mono1 x
   rw [<- q] at c1 c2 |-
   lia
  ·rw [(low a (Int.le_refl _) (by lia)).1];exact ha2
 have hneE:∀ i,a<=i->i<Z->E V2 i=false:=by
  intro i i1 i2
  by_cases q:i<x
  ·exact (low i i1 q).2.1
  ·exact D2.Ew h L (Int.not_lt.mp q) i2
 have hrun:∀ i,a<=i->i<Z->Cn V1 i=false->(O V1 i || Sh V1 i)=true:=by
  intro i i1 i2 hc
  have hE:=hneE i i1 i2
  rw [dK] at hE
  have hc2:Cn V2 i=false:=hc
  rw [hc2] at hE
  have hO2:O V2 i=O V1 i:=rfl
  rw [hO2] at hE
  cases q:O V1 i with
  | true=>rfl
  | false=>
   rw [q] at hE
   have hs:Sh V2 i=true:=by cases z:Sh V2 i<;>simp [z] at hE |-
   rw [hSh2] at hs
   have hs:=of_decide_eq_true hs
   show Sh V1 i=true
   by_cases q2:i<x
   ·have lw:=low i i1 q2
    rw [lw.2.2.2.1]
    exact (L.shf i).mpr (by rw [<- lw.1];exact hs)
   ·rw [P.S i (by lia) (by lia),if_pos i2]
    exact (L.shf _).mpr (hsh (i+1) (by lia) (by lia))
 have hZ1:Cn V1 Z=false/\O V1 Z=false/\Sh V1 Z=false:=by
  refine ⟨by rw [P.C Z (by lia) (by lia),if_neg (by lia),if_pos rfl],?_,by rw [P.S Z (by lia) (by lia),if_neg (by lia),if_pos rfl]⟩
  rw [P.O,noO L (hsh Z hxZ (Int.le_refl _)) last];rfl
 have hKZ:K (Z - 1)<Z:=by
  rw [show K (Z - 1)=H (Z - 1+1) from D2.Ww (by lia) (by lia),show Z - 1+1=Z by lia]
  exact hsh Z hxZ (Int.le_refl _)
 let l:=((aJ ["self","min_idx","next_idx"] [.ref V.i,.int (a%V.m),.int ((Z+1)%V.m)]).put "cur_quot" (.int (-1))).put "queue" (.ref σ.n)
 have hx0:XL V1 σ.n a (Z+1) (-1) l:=⟨by rw [hi1];rfl,rfl,by rw [hm1];rfl,by rw [hm1];rfl,rfl⟩
 have hown:¬ own V1 σ.n:=by unfold own;rw [hi1,hb1];have:=h.lt;lia
 have hq0:QU (O V1) (K (a - 1)+1) a=[]:=by
  have h1:K (a - 1)<=a - 1:=L2.le (a - 1)
  rw [lY (O V1) (b:=a) (by lia) (Int.le_refl _) fun k k1 k2=>L2.between (j:=a) (show K (a - 1)<k by lia) (show k<K a by lia)]
  exact mQ _ (Int.le_refl _)
 obtain ⟨Vf,σf,l',F,sg,hw⟩:=fix_loop g1 g2 rfl L2 (fun _=>rfl) (fun _=>rfl) (a:=a) (Z:=Z) (g:=σ.n) (by rw [hm1];lia) hown hKa hrun hneE hZ1 hKZ (by lia) (Z+1 - a).toNat 100 a (-1) V1 (σ.push (.list [])) l (Int.le_refl _) (by lia)
  ⟨rfl,fun _=>rfl,fun _=>rfl,fun j j1 j2=>by rw [if_neg (by lia)]⟩ hx0 (fun _=>by show _=Ob.list (qvals V1 (QU (O V1) (K (a - 1)+1) a));rw [hq0];exact if_pos rfl) (fun _=>.inl rfl) rfl (by have:=h.mc;lia)
 have hVf:Vf.m=V.m:=by rw [F.m,hm1]
 have F2:FX V1 Vf K a (Z+1):=F
 refine ⟨Vf,σf,Ext.sg sg Ext.push (Nat.le_refl _),by rw [F.eq,P.eq],⟨hVf,hx,hxZ,hZm,hsh,last,fun i h1 h2=>by rw [F.C];exact P.C i h1 h2,fun i h1 h2=>?_,fun i h1 h2=>?_,fun k=>by rw [F.O];exact P.O k⟩,?_⟩
 ·by_cases q:i<a+V.m
  ·rw [F2.S i (by lia) (by rw [hm1];exact q),P.S i h1 h2]
   by_cases q1:i<Z
   ·rw [if_pos (show i<Z+1 by lia)]
    simp only [if_pos q1]
    rw [show K i=H (i+1) from D2.Ww h1 q1]
    have:=hsh (i+1) (by lia) (by lia)
    rw [(L.shf _).mpr this]
    by_cases q2:H (i+1)=i
    ·simp [q2]
    ·have:H (i+1)<i:=by lia
     simp [q2,this]
   ·by_cases q3:i=Z
    ·rw [if_pos (show i<Z+1 by lia)]
     simp only [if_neg q1,if_pos q3];rfl
    ·rw [if_neg (show ¬ i<Z+1 by lia)]
     simp only [if_neg q1,if_neg q3]
  ·have q1:a<=i - V.m:=by lia
   have q2:i - V.m<x:=by lia
   have lw:=low _ q1 q2
   have s1:=Sh_k Vf (i - V.m) 1
   have s2:=Sh_k V (i - V.m) 1
   rw [hVf,Int.mul_one,show i - V.m+V.m=i by lia] at s1
   rw [Int.mul_one,show i - V.m+V.m=i by lia] at s2
   rw [if_neg (by lia),if_neg (by lia),s1,s2,F2.S _ q1 (by rw [hm1];lia),if_pos (by lia),lw.1,lw.2.2.2.1]
   have:=L.shf (i - V.m)
   cases z:Sh V (i - V.m)
   ·rfl
   ·have:=this.mp z
    have:¬ H (i - V.m)=i - V.m:=by lia
    simp [this]
 ·have:Fl' Vf i=Fl' V1 i:=by rw [F.eq];rfl
  rw [this];exact P.F i h1 h2
 ·refine bC (l':=l') rfl ?_
  have hs:gG=seqB (setF "cur_quot" (unF .USub (kF (.int 1)))) (seqB (setF "queue" (gT nilL)) (bG (cmpT .NotEq (varF "min_idx") (varF "next_idx")) fb 100)):=rfl
  rw [hs]
  refine seqN (aT (show unF .USub (kF (.int 1)) _ _=some (.int (-1),_) from rfl)) ?_
  refine seqN (aT (v:=.ref σ.n) (σ':=qf (σ.push (.list [])) V1) ?_) hw
  have hp:=mV (σ:=σ) (V:=V1) (o:=.list []) (by rw [hi1];exact hi) (by rw [hb1];exact hb)
  have hn:(qf σ V1).n=σ.n:=rfl
  simp [gT,nilL,hp,hn]
end
section
variable {σ:Sto} {V:View} {H:Int->Int} {l:Loc}
theorem seqR {f g:SF} {l l':Loc} {σ σ':Sto} {v:Val} (h:f l σ=some (.ret v,l',σ')):seqB f g l σ=some (.ret v,l',σ'):=by unfold seqB;rw [h];rfl
theorem jV {x a:String} {va v:Val} {g:FF} {τ:Sto} (hs:l "self"=some (.ref V.i)) (ha:l a=some va) (hx:getF V.fs x=none) (hc:g [.ref V.i,va] (qf σ V)=some (v,τ)):aF 467 x g (varF "self") (aA (varF a) nilL) l (qf σ V)=some (v,τ):=by
 exact cE (aB hs) qf_i hx (lst1 (aB ha)) hc
theorem eP {x a b:String} {va vb v:Val} {g:FF} {τ:Sto} (hs:l "self"=some (.ref V.i)) (ha:l a=some va) (hb:l b=some vb) (hx:getF V.fs x=none) (hc:g [.ref V.i,va,vb] (qf σ V)=some (v,τ)):aF 467 x g (varF "self") (aA (varF a) (aA (varF b) nilL)) l (qf σ V)=some (v,τ):=by
 exact cE (aB hs) qf_i hx (lst2 (aB ha) (aB hb)) hc
theorem evMeth3 {x a b c:String} {va vb vc v:Val} {g:FF} {τ:Sto} (hs:l "self"=some (.ref V.i)) (ha:l a=some va) (hb:l b=some vb) (hcc:l c=some vc) (hx:getF V.fs x=none) (hc:g [.ref V.i,va,vb,vc] (qf σ V)=some (v,τ)) :
  aF 467 x g (varF "self") (aA (varF a) (aA (varF b) (aA (varF c) nilL))) l (qf σ V)=some (v,τ):=by
 exact cE (aB hs) qf_i hx (lstC (aB ha) (lst2 (aB hb) (aB hcc))) hc
theorem rE {x y:String} {e:EF} {a b:Int} {τ:Sto} (hi:V.i<σ.n) (hb:V.b+10<σ.n) (he:e l τ=some (.ref σ.n,qf (σ.push (.tup [.int a,.int b])) V)):unpack2 x y e l τ=some (.next,(l.put x (.int a)).put y (.int b),qf (σ.push (.tup [.int a,.int b])) V):=by
 have ho:¬ own V σ.n:=by unfold own;lia
 have:(qf (σ.push (.tup [.int a,.int b])) V).get σ.n=.tup [.int a,.int b]:=by rw [cY ho];exact if_pos rfl
 exact bnd he (bnd rfl (bnd (show asT _=_ by rw [this];rfl) rfl))
theorem orT2 {a b:TF} {x y:Bool} {τ:Sto} (h1:a l τ=some (x,τ)) (h2:b l τ=some (y,τ)):orT [a,b] l τ=some (x || y,τ):=qP h1 h2
noncomputable def rL (rest:SF):SF:=seqB (setF "idx" (aF 467 "_contained_at_loc" aG (varF "self") (aA (varF "q") (aA (varF "r") nilL))))
 (seqB (ifS (cmpT .Eq (varF "idx") (unF .USub (kF (.int 1)))) retN nilB)
 (seqB (setF "next_idx" (binF .BitAnd (binF .Add (varF "idx") (kF (.int 1))) (aC 467 "_QuotientFilter__mod_size" (varF "self"))))
 (seqB (setF "remove_orig_idx" (aF 467 "_should_remove_orig_idx" bI (varF "self") (aA (varF "idx") (aA (varF "next_idx") nilL)))) rest)))
noncomputable def remA:SF:=(ifS (orT [(valT (aF 467 "_is_empty_element" aI (varF "self") (aA (varF "next_idx") nilL))),(valT (aF 467 "_is_cluster_start" aL (varF "self") (aA (varF "next_idx") nilL)))]) (seqB (aU (aF 467 "_remove_and_clear_bits" bM (varF "self") (aA (varF "idx") (aA (varF "q") (aA (varF "remove_orig_idx") nilL)))))
 retN) nilB)
noncomputable def remB:SF:=(seqB (setF "min_idx" (aF 467 "_find_cluster_start" bZ (varF "self") (aA (varF "idx") nilL)))
 (seqB (unpack2 "idx" "next_idx" (aF 467 "_handle_first_move" cK (varF "self") (aA (varF "idx") (aA (varF "next_idx") nilL))))
 (seqB (unpack2 "idx" "next_idx" (aF 467 "_shift_elements" cN (varF "self") (aA (varF "idx") (aA (varF "next_idx") nilL))))
 (seqB (aU (aF 467 "_clear_last_element" cA (varF "self") (aA (varF "idx") nilL)))
 (seqB (ifS (valT (varF "remove_orig_idx")) (aQ 183 aH (kF (.int 0)) (aC 467 "_is_occupied" (varF "self")) (varF "q")) nilB)
 (aU (aF 467 "_fixup_cluster" bX (varF "self") (aA (varF "min_idx") (aA (varF "next_idx") nilL)))))))))
theorem hK:fZ=rL (seqB remA remB):=rfl
theorem qC (h:Good V) (L:Lay V H) {Q r:Int} (hQ:In V Q) (hi:V.i<σ.n) (hb:V.b+10<σ.n) :
  ∃ σ' V' H',Ext σ σ'/\V'={ V with occ:=V'.occ,con:=V'.con,shf:=V'.shf,flt:=V'.flt }/\Lay V' H'/\(∀ k r',Has V' H' k r' ↔ Has V H k r'/\¬ (k=Q/\r'=r))/\dY [.ref V.i,.int Q,.int r] (qf σ V)=some (.none,qf σ' V'):=by
 have hmod:Q%V.m=Q:=Int.emod_eq_of_lt hQ.1 hQ.2
 let l:=aJ ["self","q","r"] [.ref V.i,.int Q,.int r]
 have l1:l "self"=some (.ref V.i):=rfl
 have l2:l "q"=some (.int Q):=rfl
 have l3:l "r"=some (.int r):=rfl
 have hk1:kF (.int 1) l (qf σ V)=some (.int 1,qf σ V):=rfl
 rcases dJ (σ:=σ) h L.toLayW (r:=r) hQ with ⟨x,hx,hHx,hFx,hc⟩ | ⟨hno,hc⟩
 rotate_left
 ·-- not there
  refine ⟨σ,V,H,.refl,rfl,L,fun k r'=>⟨fun z=>⟨z,fun ⟨z1,z2⟩=>?_⟩,fun z=>z.1⟩,?_⟩
  ·subst z1;subst z2
   obtain ⟨i,i1,i2,i3⟩:=(lK h L.toLayW hQ).mp z
   exact hno i i1 i2 i3
  ·refine eC (l':=l.put "idx" (.int (-1))) rfl ?_
   rw [hK]
   unfold rL
   exact seqN (aT (eP l1 l2 l3 rfl hc)) (seqR (ifT (bD (aB rfl) rfl rfl) rfl))
 have hxm:=bE h x
 let m1:=((l.put "idx" (.int (x%V.m))).put "next_idx" (.int ((x+1)%V.m))).put "remove_orig_idx" (.bool (!Cn V x && !Cn V (x+1)))
 have A1:m1 "self"=some (.ref V.i):=rfl
 have A2:m1 "q"=some (.int Q):=rfl
 have A3:m1 "idx"=some (.int (x%V.m)):=rfl
 have A4:m1 "next_idx"=some (.int ((x+1)%V.m)):=rfl
 have A5:m1 "remove_orig_idx"=some (.bool (!Cn V x && !Cn V (x+1))):=rfl
 have start:∀ {rest:SF} {res:Option (Fl×Loc×Sto)},rest m1 (qf σ V)=res->rL rest l (qf σ V)=res:=by
  intro rest res hr
  unfold rL
  refine seqN (aT (eP l1 l2 l3 rfl hc)) ?_
  refine seqN (ifF (bD (aB rfl) rfl (congrArg some (beq_eq_false_iff_ne.mpr fun z=>by have:=hxm.1;lia))) rfl) ?_
  refine seqN (aT (evUp h (x:="idx") (i:=x) rfl rfl)) ?_
  exact seqN (aT (eP rfl rfl rfl rfl (pX h hx))) hr
 have test:orT [(valT (aF 467 "_is_empty_element" aI (varF "self") (aA (varF "next_idx") nilL))),(valT (aF 467 "_is_cluster_start" aL (varF "self") (aA (varF "next_idx") nilL)))] m1 (qf σ V)=some (E V (x+1) || (O V (x+1) && !Cn V (x+1) && !Sh V (x+1)),qf σ V):=
  orT2 (dH (qQ h A1 A4 (bE h (x+1)))) (dH (evClu h A1 A4 (bE h (x+1))))
 have fi:=L.fresh_iff h (x+1)
 obtain ⟨Z,z1,z2,z3,z4⟩:=findZ h L hx
 by_cases hZ:H (x+1)=x+1
 ·have hb':(E V (x+1) || (O V (x+1) && !Cn V (x+1) && !Sh V (x+1)))=true:=by
   exact Bool.or_eq_true_iff.mpr (fi.mpr hZ)
  rw [hb'] at test
  have D:=clrV_del h L hx hQ hHx hZ
  have g':Good (clrV V (x%V.m) Q (!Cn V x && !Cn V (x+1))):=⟨h.lt,h.q⟩
  refine ⟨σ,_,_,.refl,rfl,(D.facts h g' L).2,fun k r'=>?_,?_⟩
  ·rw [D.has h g' L,hHx,hmod,hFx]
  ·refine eC (l':=m1) rfl ?_
   rw [hK]
   refine start (seqR ?_)
   unfold remA
   rw [fK test]
   exact seqN (cM (evMeth3 A1 A3 A2 A5 rfl (rc_spec h hxm hQ _))) rfl
 ·have hb':(E V (x+1) || (O V (x+1) && !Cn V (x+1) && !Sh V (x+1)))=false:=by
   exact Bool.eq_false_iff.mpr fun q=>hZ (fi.mp (Bool.or_eq_true_iff.mp q))
  rw [hb'] at test
  have hxZ:x<Z:=by
   by_cases q:x=Z
   ·rw [<- q] at z3;exact absurd z3 hZ
   ·lia
  obtain ⟨a,a1,a2,a3,a4,a5,hfcs⟩:=fcs_spec (σ:=σ) h L hx
  obtain ⟨y,Vy,W1,y1,y2,y3,hhfm⟩:=hfm_spec (σ:=σ) (Z:=Z) h L hx hxZ z2 hi hb
  let σ1:=σ.push (.tup [.int (y%V.m),.int ((y+1)%V.m)])
  have hn1:σ1.n=σ.n+1:=rfl
  obtain ⟨Vz,W2,hse⟩:=se_spec (σ:=σ1) h L W1 y1 y2 y3 z2 z4 z3 (by lia) (by lia)
  let σ2:=σ1.push (.tup [.int (Z%V.m),.int ((Z+1)%V.m)])
  have hn2:σ2.n=σ1.n+1:=rfl
  have P:=PreB.of h L W2 hxZ z2 (z4 Z hxZ (Int.le_refl _)) z3 hQ hHx (rem:=(!Cn V x && !Cn V (x+1))) rfl
  obtain ⟨Vf,σ3,e3,f1,f2,f3⟩:=tO (σ:=σ2) h L P hx hxZ z2 z4 z3 a2 a3 a4 a5 (by lia) (by lia)
  have gf:Good Vf:=by rw [f1];exact ⟨h.lt,h.q⟩
  refine ⟨σ3,Vf,_,(Ext.push.trans Ext.push).trans e3,by rw [f1],f2.facts h gf L,fun k r'=>?_,?_⟩
  ·rw [f2.has h gf L,hHx,hmod,hFx]
  have gy:=W1.good h
  have gz:=W2.good h
  let m2:=m1.put "min_idx" (.int (a%V.m))
  let m3:=(m2.put "idx" (.int (y%V.m))).put "next_idx" (.int ((y+1)%V.m))
  let m4:=(m3.put "idx" (.int (Z%V.m))).put "next_idx" (.int ((Z+1)%V.m))
  have B1:m2 "self"=some (.ref V.i):=rfl
  have B2:m2 "idx"=some (.int (x%V.m)):=rfl
  have B3:m2 "next_idx"=some (.int ((x+1)%V.m)):=rfl
  have C1:m3 "self"=some (.ref Vy.i):=by rw [W1.i];rfl
  have C2:m3 "idx"=some (.int (y%V.m)):=rfl
  have C3:m3 "next_idx"=some (.int ((y+1)%V.m)):=rfl
  have D1:m4 "self"=some (.ref Vz.i):=by rw [W2.i];rfl
  have D1':m4 "self"=some (.ref V.i):=rfl
  have D2:m4 "idx"=some (.int (Z%V.m)):=rfl
  have D3:m4 "next_idx"=some (.int ((Z+1)%V.m)):=rfl
  have D4:m4 "min_idx"=some (.int (a%V.m)):=rfl
  have D5:m4 "q"=some (.int Q):=rfl
  have D6:m4 "remove_orig_idx"=some (.bool (!Cn V x && !Cn V (x+1))):=rfl
  have hZz:In Vz (Z%V.m):=by rw [<- W2.m];exact bE gz Z
  have hQz:In Vz Q:=by unfold In;rw [W2.m];exact hQ
  refine bC (l':=m4) rfl ?_
  rw [hK]
  refine start (seqN (l':=m1) (σ₁:=qf σ V) (by unfold remA;rw [cC test];rfl) ?_)
  unfold remB
  refine seqN (aT (jV A1 A3 rfl hfcs)) ?_
  refine seqN (rE (V:=Vy) (by rw [W1.i];exact hi) (by rw [W1.b];exact hb) (eP B1 B2 B3 rfl hhfm)) ?_
  have hse':cN [.ref Vy.i,.int (y%V.m),.int ((y+1)%V.m)] (qf σ1 Vy)=some (.ref σ1.n,qf σ2 Vz):=by rw [W1.i];exact hse
  refine seqN (rE (V:=Vz) (σ:=σ1) (by rw [W2.i];lia) (by rw [W2.b];lia) (eP C1 C2 C3 rfl hse')) ?_
  refine seqN (cM (jV D1 D2 rfl (cl_spec gz hZz))) ?_
  have last:∀ {V1:View},V1.i=V.i->bX [.ref V.i,.int (a%V.m),.int ((Z+1)%V.m)] (qf σ2 V1)=some (.none,qf σ3 Vf)->aU (aF 467 "_fixup_cluster" bX (varF "self") (aA (varF "min_idx") (aA (varF "next_idx") nilL))) m4 (qf σ2 V1)=some (.next,m4,qf σ3 Vf):=by
   intro V1 hV1 hf
   exact cM (eP (V:=V1) (by rw [hV1];exact D1') D4 D3 rfl (by rw [hV1];exact hf))
  cases qr:(!Cn V x && !Cn V (x+1)) with
  | false=>
   rw [qr] at D6 f3
   refine seqN (by rw [cC (dH (aB D6))];rfl) ?_
   exact last W2.i f3
  | true=>
   rw [qr] at D6 f3
   refine seqN ((fK (dH (aB D6))).trans (stO (V:={ Vz with flt:=upd Vz.flt (Z%V.m) 0,con:=upd Vz.con (Z%V.m) false,shf:=upd Vz.shf (Z%V.m) false,occ:=upd Vz.occ (Z%V.m) false }) ⟨gz.lt,gz.q⟩ D1 k0 (aB D5) hQz)) ?_
   exact last W2.i f3
end
noncomputable def code (a:Int):Int:=a%8*536870912+a / 8*134217728+a%3
noncomputable def bW (c:Int):Prop:=∃ a:Fin 24,c=code (a.val:Int)
theorem mN:∀ a:Fin 24,(0<=code a.val / 536870912/\code a.val / 536870912<8/\Builtin.bitAnd (code a.val) 536870911=code a.val%536870912/\0<=code a.val / 268435456/\code a.val / 268435456<16/\Builtin.bitAnd (code a.val) 268435455=code a.val%268435456):=by decide +kernel
theorem code_inj:∀ a b:Fin 24,code a.val=code b.val->a=b:=by decide +kernel
section
variable {σ:Sto} {V:View} {H:Int->Int} {l:Loc} {S:List Int} {c:Int}
theorem View.Rpos (V:View):0<V.R:=Int.pow_pos (by decide)
theorem rF (V:View) {c d:Int} (h1:c / V.R=d / V.R) (h2:c%V.R=d%V.R):c=d:=by
 have e1:=Int.emod_add_mul_ediv c V.R
 have e2:=Int.emod_add_mul_ediv d V.R
 rw [h1,h2] at e1
 lia
theorem Rep.at_code (R:Rep V H S) (c:Int):Has V H (c / V.R) (c%V.R) ↔ c∈S:=by
 rw [R.has]
 constructor
 ·rintro ⟨d,d1,d2,d3⟩;rw [rF V d2 d3];exact d1
 ·intro h;exact ⟨c,h,rfl,rfl⟩
theorem hG (h:Good V) (hc:bW c):In V (c / V.R):=by
 obtain ⟨a,rfl⟩:=hc
 obtain ⟨f1,f2,f3,f4,f5,f6⟩:=mN a
 rcases h.q with e | e
 ·have:V.R=536870912:=by simp [View.R,e]
  have hm:V.m=8:=by simp [View.m,e]
  unfold In;rw [this,hm];exact ⟨f1,f2⟩
 ·have:V.R=268435456:=by simp [View.R,e]
  have hm:V.m=16:=by simp [View.m,e]
  unfold In;rw [this,hm];exact ⟨f4,f5⟩
theorem R_eq:(2:Int) ^ (32 - (V.q:Int)).toNat=V.R:=congrArg (fun n=>(2:Int) ^ n) (Int.toNat_sub 32 V.q)
theorem r0 (h:Good V):0<=32 - (V.q:Int)/\32 - (V.q:Int)<=1000:=by have:=h.q;lia
theorem evKq (h:Good V) (hs:l "self"=some (.ref V.i)) (hx:l "_hash"=some (.int c)):binF .RShift (varF "_hash") (aC 467 "_r" (varF "self")) l (qf σ V)=some (.int (c / V.R),qf σ V):=by
 exact bU (aB hx) (evA (aB hs) qf_i rfl) ((bShr (r0 h).1).trans (by rw [R_eq]))
theorem evKr (h:Good V) (hc:bW c) (hs:l "self"=some (.ref V.i)) (hx:l "_hash"=some (.int c)) :
  binF .BitAnd (varF "_hash") (binF .Sub (binF .LShift (kF (.int 1)) (aC 467 "_r" (varF "self"))) (kF (.int 1))) l (qf σ V)=some (.int (c%V.R),qf σ V):=by
 obtain ⟨a,rfl⟩:=hc
 obtain ⟨f1,f2,f3,f4,f5,f6⟩:=mN a
 have e1:binF .LShift (kF (.int 1)) (aC 467 "_r" (varF "self")) l (qf σ V)=some (.int V.R,qf σ V):=by
  exact bU (f:=kF (.int 1)) rfl (evA (aB hs) qf_i rfl) ((bShl ⟨(r0 h).1,(r0 h).2,by decide⟩).trans (by rw [R_eq,Int.one_mul]))
 refine bU (aB hx) (bU e1 (g:=kF (.int 1)) rfl rfl) ?_
 rcases h.q with e | e
 ·rw [show V.R=536870912 by unfold View.R;rw [e];rfl];exact congrArg (fun z=>some (Val.int z)) f3
 ·rw [show V.R=268435456 by unfold View.R;rw [e];rfl];exact congrArg (fun z=>some (Val.int z)) f6
theorem mC (h:Good V) (L:LayW V H) (R:Rep V H S) (hc:bW c):aX [.ref V.i,.int c] (qf σ V)=some (.bool (decide (c∈S)),qf σ V):=by
 let l:=aJ ["self","_hash"] [.ref V.i,.int c]
 have l1:l "self"=some (.ref V.i):=rfl
 have l2:l "_hash"=some (.int c):=rfl
 let m:=(l.put "key_quotient" (.int (c / V.R))).put "key_remainder" (.int (c%V.R))
 have m1:m "self"=some (.ref V.i):=l1
 have m2:m "key_quotient"=some (.int (c / V.R)):=rfl
 have m3:m "key_remainder"=some (.int (c%V.R)):=rfl
 have hq:=hG h hc
 refine eC (l':=m) rfl ?_
 unfold kG
 refine seqN (aT (evKq h l1 l2)) (seqN (aT (evKr h hc rfl rfl)) ?_)
 have fin:∀ {v:Int},aG [.ref V.i,.int (c / V.R),.int (c%V.R)] (qf σ V)=some (.int v,qf σ V)->
   retS (cmpF .NotEq (aF 467 "_contained_at_loc" aG (varF "self") (aA (varF "key_quotient") (aA (varF "key_remainder") nilL))) (unF .USub (kF (.int 1)))) m (qf σ V)=some (.ret (.bool (decide (v≠-1))),m,qf σ V):=by
  intro v hv
  exact eX (gZ (eP (x:="_contained_at_loc") (l:=m) m1 m2 m3 rfl hv) rfl (congrArg some (show (!decide (v=-1))=_ from (decide_not ..).symm)))
 rcases dJ (σ:=σ) h L (r:=c%V.R) hq with ⟨x,hx,hHx,hFx,hv⟩ | ⟨hno,hv⟩
 ·have hm:c∈S:=(R.at_code c).mp ((lK h L hq).mpr ⟨x,hx,hHx,hFx⟩)
  have:=fin hv
  have hne:x%V.m≠-1:=by have:=(bE h x).1;lia
  rw [show decide (x%V.m≠-1)=true by simp [hne]] at this
  rw [show decide (c∈S)=true by simp [hm]]
  exact this
 ·have hm:¬ c∈S:=fun z=>by
   obtain ⟨i,i1,i2,i3⟩:=(lK h L hq).mp ((R.at_code c).mpr z)
   exact hno i i1 i2 i3
  have:=fin hv
  rw [show decide ((-1:Int)≠-1)=false by simp] at this
  rw [show decide (c∈S)=false by simp [hm]]
  exact this
theorem Rep.del {V':View} {H':Int->Int} (R:Rep V H S) (hR:V'.R=V.R) (hd:∀ k r,Has V' H' k r ↔ Has V H k r/\¬ (k=c / V.R/\r=c%V.R)):Rep V' H' (S.filter fun d=>decide (d≠c)):=by
 refine ⟨R.nodup.filter _,fun k r=>?_⟩
 rw [hd,R.has,hR]
 constructor
 ·rintro ⟨⟨d,d1,d2,d3⟩,hno⟩
  refine ⟨d,List.mem_filter.mpr ⟨d1,?_⟩,d2,d3⟩
  have:d≠c:=fun z=>hno ⟨by rw [d2,z],by rw [d3,z]⟩
  simp [this]
 ·rintro ⟨d,d1,d2,d3⟩
  obtain ⟨e1,e2⟩:=List.mem_filter.mp d1
  have e2:d≠c:=by simpa using e2
  refine ⟨⟨d,e1,d2,d3⟩,fun ⟨z1,z2⟩=>e2 (rF V (by rw [<- d2,z1]) (by rw [<- d3,z2]))⟩
theorem Rep.add {V':View} {H':Int->Int} (R:Rep V H S) (hn:c ∉ S) (hR:V'.R=V.R) (hd:∀ k r,Has V' H' k r ↔ Has V H k r\/(k=c / V.R/\r=c%V.R)):Rep V' H' (S ++ [c]):=by
 refine ⟨?_,fun k r=>?_⟩
 ·rw [List.pairwise_append]
  refine ⟨R.nodup,List.pairwise_singleton _ _,fun a ha b hb=>?_⟩
  rw [List.mem_singleton] at hb
  subst hb
  exact fun z=>hn (z▸ha)
 ·rw [hd,R.has,hR]
  constructor
  ·rintro (⟨d,d1,d2,d3⟩ | ⟨z1,z2⟩)
   ·exact ⟨d,List.mem_append.mpr (.inl d1),d2,d3⟩
   ·exact ⟨c,List.mem_append.mpr (.inr (List.mem_singleton.mpr rfl)),z1,z2⟩
  ·rintro ⟨d,d1,d2,d3⟩
   rcases List.mem_append.mp d1 with z | z
   ·exact .inl ⟨d,z,d2,d3⟩
   ·rw [List.mem_singleton] at z;subst z;exact .inr ⟨d2,d3⟩
theorem lB (h:Good V) (L:Lay V H) (R:Rep V H S) (hc:bW c) (hi:V.i<σ.n) (hb:V.b+10<σ.n) :
  ∃ σ' V' H',Ext σ σ'/\V'={ V with occ:=V'.occ,con:=V'.con,shf:=V'.shf,flt:=V'.flt }/\Lay V' H'/\Rep V' H' (S.filter fun d=>decide (d≠c))/\bS [.ref V.i,.int c] (qf σ V)=some (.none,qf σ' V'):=by
 obtain ⟨σ',V',H',a1,a2,a3,a4,a5⟩:=qC (σ:=σ) h L (r:=c%V.R) (hG h hc) hi hb
 refine ⟨σ',V',H',a1,a2,a3,R.del (by rw [a2];rfl) a4,?_⟩
 let l:=aJ ["self","_hash"] [.ref V.i,.int c]
 have l1:l "self"=some (.ref V.i):=rfl
 have l2:l "_hash"=some (.int c):=rfl
 let m:=(l.put "key_quotient" (.int (c / V.R))).put "key_remainder" (.int (c%V.R))
 have m1:m "self"=some (.ref V.i):=l1
 have m2:m "key_quotient"=some (.int (c / V.R)):=rfl
 have m3:m "key_remainder"=some (.int (c%V.R)):=rfl
 refine bC (l':=m) rfl ?_
 unfold jI
 refine seqN (aT (evKq h l1 l2)) (seqN (aT (evKr h hc rfl rfl)) ?_)
 exact cM (eP m1 m2 m3 rfl a5)
noncomputable def hU:SF:=(seqB (setF "key_quotient" (binF .RShift (varF "_hash") (aC 467 "_r" (varF "self"))))
 (seqB (setF "key_remainder" (binF .BitAnd (varF "_hash") (binF .Sub (binF .LShift (kF (.int 1)) (aC 467 "_r" (varF "self"))) (kF (.int 1)))))
 (ifS (cmpT .Eq (aF 467 "_contained_at_loc" aG (varF "self") (aA (varF "key_quotient") (aA (varF "key_remainder") nilL))) (unF .USub (kF (.int 1)))) (aU (aF 467 "_add" eF (varF "self") (aA (varF "key_quotient") (aA (varF "key_remainder") nilL)))) nilB)))
noncomputable def adds (S:List Int) (c:Int):List Int:=if c∈S then S else S ++ [c]
theorem kA (h:Good V) (L:LayW V H) (R:Rep V H S) (hc:bW c) (l1:l "self"=some (.ref V.i)) (l2:l "_hash"=some (.int c)) (hin:c∈S):∃ l',hU l (qf σ V)=some (.next,l',qf σ V):=by
 let m:=(l.put "key_quotient" (.int (c / V.R))).put "key_remainder" (.int (c%V.R))
 have m1:m "self"=some (.ref V.i):=l1
 have m2:m "key_quotient"=some (.int (c / V.R)):=rfl
 have m3:m "key_remainder"=some (.int (c%V.R)):=rfl
 have hq:=hG h hc
 have start:∀ {res},(ifS (cmpT .Eq (aF 467 "_contained_at_loc" aG (varF "self") (aA (varF "key_quotient") (aA (varF "key_remainder") nilL))) (unF .USub (kF (.int 1)))) (aU (aF 467 "_add" eF (varF "self") (aA (varF "key_quotient") (aA (varF "key_remainder") nilL)))) nilB) m (qf σ V)=res->hU l (qf σ V)=res:=by
  intro res hr
  unfold hU
  exact seqN (aT (evKq h l1 l2)) (seqN (aT (evKr h hc l1 l2)) hr)
 have test:∀ {v:Int},aG [.ref V.i,.int (c / V.R),.int (c%V.R)] (qf σ V)=some (.int v,qf σ V)->cmpT .Eq (aF 467 "_contained_at_loc" aG (varF "self") (aA (varF "key_quotient") (aA (varF "key_remainder") nilL))) (unF .USub (kF (.int 1))) m (qf σ V)=some (decide (v=-1),qf σ V):=by
  intro v hv
  exact bD (eP (x:="_contained_at_loc") (l:=m) m1 m2 m3 rfl hv) rfl rfl
 rcases dJ (σ:=σ) h L (r:=c%V.R) hq with ⟨x,hx,hHx,hFx,hv⟩ | ⟨hno,hv⟩
 ·have hne:¬ x%V.m=-1:=by have:=(bE h x).1;lia
  refine ⟨m,start ?_⟩
  have t:=test hv
  rw [show decide (x%V.m=-1)=false by simp [hne]] at t
  rw [cC t];rfl
 ·obtain ⟨i,i1,i2,i3⟩:=(lK h L hq).mp ((R.at_code c).mpr hin)
  exact absurd i3 (hno i i1 i2)
theorem lX (h:Good V) (L:Lay V H) (R:Rep V H S) (hc:bW c) (l1:l "self"=some (.ref V.i)) (l2:l "_hash"=some (.int c)) (hm:c ∉ S) (hn:V.n≠V.m) :
  ∃ V' H' l',V'={ V with n:=V.n+1,occ:=V'.occ,con:=V'.con,shf:=V'.shf,flt:=V'.flt }/\LayW V' H'/\(S.length+1<V.m->Lay V' H')/\Rep V' H' (S ++ [c])/\hU l (qf σ V)=some (.next,l',qf σ V'):=by
 let m:=(l.put "key_quotient" (.int (c / V.R))).put "key_remainder" (.int (c%V.R))
 have m1:m "self"=some (.ref V.i):=l1
 have m2:m "key_quotient"=some (.int (c / V.R)):=rfl
 have m3:m "key_remainder"=some (.int (c%V.R)):=rfl
 have hq:=hG h hc
 have start:∀ {res},(ifS (cmpT .Eq (aF 467 "_contained_at_loc" aG (varF "self") (aA (varF "key_quotient") (aA (varF "key_remainder") nilL))) (unF .USub (kF (.int 1)))) (aU (aF 467 "_add" eF (varF "self") (aA (varF "key_quotient") (aA (varF "key_remainder") nilL)))) nilB) m (qf σ V)=res->hU l (qf σ V)=res:=by
  intro res hr
  unfold hU
  exact seqN (aT (evKq h l1 l2)) (seqN (aT (evKr h hc l1 l2)) hr)
 have test:∀ {v:Int},aG [.ref V.i,.int (c / V.R),.int (c%V.R)] (qf σ V)=some (.int v,qf σ V)->cmpT .Eq (aF 467 "_contained_at_loc" aG (varF "self") (aA (varF "key_quotient") (aA (varF "key_remainder") nilL))) (unF .USub (kF (.int 1))) m (qf σ V)=some (decide (v=-1),qf σ V):=by
  intro v hv
  exact bD (eP (x:="_contained_at_loc") (l:=m) m1 m2 m3 rfl hv) rfl rfl
 rcases dJ (σ:=σ) h L.toLayW (r:=c%V.R) hq with ⟨x,hx,hHx,hFx,hv⟩ | ⟨hno,hv⟩
 ·exact absurd ((R.at_code c).mp ((lK h L.toLayW hq).mpr ⟨x,hx,hHx,hFx⟩)) hm
 ·obtain ⟨V',H',a1,a2,a2',a3,a4⟩:=qK (σ:=σ) h L hq (r:=c%V.R) (fun z=>hm ((R.at_code c).mp z)) hn
  refine ⟨V',H',m,a1,a2,fun hlen=>a2' (tN h L R hlen),R.add hm (by rw [a1];rfl) a3,start ?_⟩
  have t:=test hv
  rw [show decide ((-1:Int)=-1)=true by simp] at t
  rw [fK t]
  exact cM (eP m1 m2 m3 rfl a4)
theorem kH (h:Good V) (L:Lay V H) (R:Rep V H S) (hc:bW c) (l1:l "self"=some (.ref V.i)) (l2:l "_hash"=some (.int c)) (hroom:c∈S\/(S.length+1<V.m/\V.n≠V.m)) :
  ∃ V' H' l',V'={ V with n:=if c∈S then V.n else V.n+1,occ:=V'.occ,con:=V'.con,shf:=V'.shf,flt:=V'.flt }/\Lay V' H'/\Rep V' H' (adds S c)/\hU l (qf σ V)=some (.next,l',qf σ V'):=by
 by_cases hm:c∈S
 ·obtain ⟨l',hl⟩:=kA (σ:=σ) h L.toLayW R hc l1 l2 hm
  exact ⟨V,H,l',by rw [if_pos hm],L,by unfold adds;rw [if_pos hm];exact R,hl⟩
 ·have hr:=hroom.resolve_left hm
  obtain ⟨V',H',l',a1,_,a2,a3,a4⟩:=lX (σ:=σ) h L R hc l1 l2 hm hr.2
  exact ⟨V',H',l',by rw [if_neg hm];exact a1,a2 hr.1,by unfold adds;rw [if_neg hm];exact a3,a4⟩
theorem gV (h:Good V) (l1:l "self"=some (.ref V.i)) (hn:V.n.natAbs<1000):andT [(valT (aC 467 "_auto_resize" (varF "self"))),(cmpT .GtE (binF .Mult (kF (.int 100)) (aC 467 "_elements_added" (varF "self"))) (binF .Mult (kF (.int 85)) (aC 467 "_size" (varF "self"))))] l (qf σ V)=some (V.auto && decide (85*(V.m:Int)<=100*V.n),qf σ V):=by
 have e1:binF .Mult (kF (.int 100)) (aC 467 "_elements_added" (varF "self")) l (qf σ V)=some (.int (100*V.n),qf σ V):=bU (f:=kF (.int 100)) rfl (evA (aB l1) qf_i rfl) rfl
 have e2:binF .Mult (kF (.int 85)) (aC 467 "_size" (varF "self")) l (qf σ V)=some (.int (85*V.m),qf σ V):=bU (f:=kF (.int 85)) rfl (evA (aB l1) qf_i rfl) rfl
 exact (nK (lN (evA (aB l1) qf_i rfl)) (nK (bD e1 e2 rfl) rfl)).trans (by rw [Bool.and_true])
theorem nV (h:Good V) (L:Lay V H) (R:Rep V H S) (hc:bW c) (hroom:c∈S\/(S.length+1<V.m/\V.n≠V.m)) (hn:V.n.natAbs<1000) (hgrow:(V.auto && decide (85*(V.m:Int)<=100*V.n))=false) :
  ∃ V' H',V'={ V with n:=if c∈S then V.n else V.n+1,occ:=V'.occ,con:=V'.con,shf:=V'.shf,flt:=V'.flt }/\Lay V' H'/\Rep V' H' (adds S c)/\dZ [.ref V.i,.int c] (qf σ V)=some (.none,qf σ V')/\aS [.ref V.i,.int c] (qf σ V)=some (.none,qf σ V'):=by
 let l:=aJ ["self","_hash"] [.ref V.i,.int c]
 have l1:l "self"=some (.ref V.i):=rfl
 have l2:l "_hash"=some (.int c):=rfl
 obtain ⟨V',H',l',a1,a2,a3,a4⟩:=kH (σ:=σ) h L R hc l1 l2 hroom
 have g:=gV (σ:=σ) h l1 hn
 rw [hgrow] at g
 refine ⟨V',H',a1,a2,a3,bC (l':=l') rfl ?_,bC (l':=l') rfl ?_⟩
 ·exact seqN (l':=l) (σ₁:=qf σ V) ((cC g).trans rfl) a4
 ·exact seqN (l':=l) (σ₁:=qf σ V) ((cC g).trans rfl) a4
end
section
variable {σ:Sto} {V:View} {H:Int->Int} {l:Loc}
noncomputable def hl (V:View) (H:Int->Int):Nat->Int->List Int
 | 0,_=>[]
 | n+1,i=>if E V i=true then hl V H n (i+1) else cd V H i :: hl V H n (i+1)
structure HI (V:View) (H:Int->Int) (g:Nat) (i:Int) (l:Loc) (τ:Sto):Prop where
 self:l "self"=some (.ref V.i)
 queue:l "queue"=some (.ref g)
 q:τ.get g=.list (qvals V (QU (O V) (H (i - 1)+1) i))
 c:E V (i - 1)=false->E V i=false->l "cur_quot"=some (.int (H (i - 1)%V.m))
theorem evChkO (h:Good V) {x:String} {j:Int} (hs:l "self"=some (.ref V.i)) (hx:l x=some (.int j)) (hj:In V j):aF 183 "check_bit" aK (aC 467 "_is_occupied" (varF "self")) (aA (varF x) nilL) l (qf σ V)=some (.int (b2i (V.occ j)),qf σ V):=cE (evA (aB hs) qf_i rfl) (qf_o h) rfl (lst1 (aB hx)) (chk_o h hj)
theorem evChkC (h:Good V) {x:String} {j:Int} (hs:l "self"=some (.ref V.i)) (hx:l x=some (.int j)) (hj:In V j):aF 183 "check_bit" aK (aC 467 "_is_continuation" (varF "self")) (aA (varF x) nilL) l (qf σ V)=some (.int (b2i (V.con j)),qf σ V):=cE (evA (aB hs) qf_i rfl) (qf_c h) rfl (lst1 (aB hx)) (chk_c h hj)
theorem evChkS (h:Good V) {x:String} {j:Int} (hs:l "self"=some (.ref V.i)) (hx:l x=some (.int j)) (hj:In V j):aF 183 "check_bit" aK (aC 467 "_is_shifted" (varF "self")) (aA (varF x) nilL) l (qf σ V)=some (.int (b2i (V.shf j)),qf σ V):=cE (evA (aB hs) qf_i rfl) (qf_s h) rfl (lst1 (aB hx)) (chk_s h hj)
noncomputable def hA:SF:=(ifS (cmpT .Eq (binF .Add (binF .Add (varF "is_occupied") (varF "is_continuation")) (varF "is_shifted")) (kF (.int 0))) (seqB (nT (cmpT .Eq (lenF (varF "queue")) (kF (.int 0))))
 contS) nilB)
noncomputable def hB:SF:=(ifS (cmpT .Eq (varF "is_occupied") (kF (.int 1))) (aU (appF (varF "queue") (varF "idx"))) nilB)
noncomputable def hC:SF:=(ifS (valT (aF 467 "_is_run_start" bK (varF "self") (aA (varF "idx") nilL))) (setF "cur_quot" (oE (varF "queue"))) nilB)
theorem stepQ_eq:aM=(seqB (setF "idx" (binF .Mod (varF "i") (aC 467 "_size" (varF "self"))))
 (seqB (setF "is_occupied" (aF 183 "check_bit" aK (aC 467 "_is_occupied" (varF "self")) (aA (varF "idx") nilL)))
 (seqB (setF "is_continuation" (aF 183 "check_bit" aK (aC 467 "_is_continuation" (varF "self")) (aA (varF "idx") nilL)))
 (seqB (setF "is_shifted" (aF 183 "check_bit" aK (aC 467 "_is_shifted" (varF "self")) (aA (varF "idx") nilL)))
 (seqB hA (seqB hB hC)))))):=rfl
theorem step_hash (h:Good V) (L:Lay V H) {g:Nat} {i:Int} {τ:Sto} (ho:¬ own V g) (I:HI V H g i l τ) :
  (E V i=true->∃ l',HI V H g (i+1) l' τ/\aM (l.put "i" (.int i)) (qf τ V)=some (.cont,l',qf τ V))/\
  (E V i=false->∃ l' τ',HI V H g (i+1) l' τ'/\SG g τ τ'/\l' "idx"=some (.int (i%V.m))/\l' "cur_quot"=some (.int (H i%V.m))/\aM (l.put "i" (.int i)) (qf τ V)=some (.next,l',qf τ' V)):=by
 have gi:=bE h i
 let m0:=l.put "i" (.int i)
 let m1:=m0.put "idx" (.int (i%V.m))
 let m2:=m1.put "is_occupied" (.int (b2i (O V i)))
 let m3:=m2.put "is_continuation" (.int (b2i (Cn V i)))
 let m4:=m3.put "is_shifted" (.int (b2i (Sh V i)))
 have e1:binF .Mod (varF "i") (aC 467 "_size" (varF "self")) m0 (qf τ V)=some (.int (i%V.m),qf τ V):=by
  have:=h.mpos
  exact bU (aB rfl) (evA (aB I.self) qf_i rfl) (if_pos (show (0:Int)<V.m from this))
 have start:∀ {res},seqB hA (seqB hB hC) m4 (qf τ V)=res->aM m0 (qf τ V)=res:=by
  intro res hr
  rw [stepQ_eq]
  refine seqN (aT e1) (seqN (aT (evChkO h (x:="idx") I.self rfl gi)) ?_)
  refine seqN (aT (evChkC h (x:="idx") I.self rfl gi)) ?_
  exact seqN (aT (evChkS h (x:="idx") I.self rfl gi)) hr
 have hsum:cmpT .Eq (binF .Add (binF .Add (varF "is_occupied") (varF "is_continuation")) (varF "is_shifted")) (kF (.int 0)) m4 (qf τ V)=some (E V i,qf τ V):=by
  refine bD (bU (bU (aB rfl) (aB rfl) rfl) (aB rfl) rfl) rfl ?_
  rw [dK]
  cases O V i<;>cases Cn V i<;>cases Sh V i<;>rfl
 have M1:m4 "self"=some (.ref V.i):=I.self
 have M2:m4 "queue"=some (.ref g):=I.queue
 have M3:m4 "idx"=some (.int (i%V.m)):=rfl
 have M4:m4 "is_occupied"=some (.int (b2i (O V i))):=rfl
 have M5:m4 "cur_quot"=l "cur_quot":=rfl
 have hle1:=L.le (i - 1)
 have hlei:=L.le i
 have hm1:=L.mono1 (i - 1)
 rw [show i - 1+1=i by lia] at hm1
 have hgt1:=L.gt h (i - 1)
 have hlen:∀ b,(QU (O V) (H (i - 1)+1) b).length<=(b - (H (i - 1)+1)).toNat:=fun b=>QU_len _ _ _
 have hmc:=h.mc
 refine ⟨fun hE=>?_,fun hE=>?_⟩
 ·have hh:=L.hole i hE
  have hq0:QU (O V) (H (i - 1)+1) i=[]:=by
   rw [lY (O V) (b:=i) (by lia) (Int.le_refl _) fun k k1 k2=>L.between (j:=i) (by lia) (by lia)]
   exact mQ _ (Int.le_refl _)
  have hq:=I.q
  rw [hq0] at hq
  rw [hE] at hsum
  refine ⟨m4,⟨M1,M2,?_,fun z _=>?_⟩,start (seqB_cont ?_)⟩
  ·rw [show i+1 - 1=i by lia,hh.1,mQ _ (Int.le_refl _)];exact hq
  ·rw [show i+1 - 1=i by lia,hE] at z;cases z
  ·unfold hA
   rw [fK hsum]
   have ha:nT (cmpT .Eq (lenF (varF "queue")) (kF (.int 0))) m4 (qf τ V)=some (.next,m4,qf τ V):=by
    exact bnd (bD (evLen (aB M2) ((cY ho).trans hq) (Nat.zero_le _)) rfl rfl) rfl
   exact seqN ha rfl
 ·rw [hE] at hsum
  have hA0:hA m4 (qf τ V)=some (.next,m4,qf τ V):=by unfold hA;rw [cC hsum];rfl
  have hlen0:=hlen i
  have hB1:∃ τ1,SG g τ τ1/\τ1.get g=.list (qvals V (QU (O V) (H (i - 1)+1) (i+1)))/\hB m4 (qf τ V)=some (.next,m4,qf τ1 V):=by
   rw [QU_snoc (O V) _ (H (i - 1)+1) rfl (by lia)]
   cases q:O V i with
   | false=>
    refine ⟨τ,.refl,by simpa using I.q,?_⟩
    rw [q] at M4
    unfold hB;rw [cC (cmpK M4)];rfl
   | true=>
    rw [q] at M4
    refine ⟨τ.put g (.list (qvals V (QU (O V) (H (i - 1)+1) i) ++ [.int (i%V.m)])),.put,by rw [iO,if_pos rfl,oC],?_⟩
    unfold hB;rw [fK (cmpK M4)]
    exact stApp M2 ho I.q (by rw [iY];lia) (aB M3)
  obtain ⟨τ1,s1,g1,b1⟩:=hB1
  have er:=evRun (σ:=τ1) h M1 M3 gi
  have eO:(!V.con (i%V.m) && (V.occ (i%V.m) || V.shf (i%V.m)))=!Cn V i:=by
   show (!Cn V i && (O V i || Sh V i))=_
   rw [dK] at hE
   cases q1:Cn V i<;>cases q2:O V i<;>cases q3:Sh V i<;>simp [q1,q2,q3] at hE |-
  rw [eO] at er
  cases qc:Cn V i with
  | true=>
   have hcon:=(L.con i).mp qc
   have hne:=L.ne_prev (i:=i) (by lia)
   rw [qc] at er
   refine ⟨m4,τ1,⟨M1,M2,by rw [show i+1 - 1=i by lia,hcon];exact g1,fun _ _=>?_⟩,s1,M3,?_,start (seqN hA0 (seqN b1 ?_))⟩
   ·rw [show i+1 - 1=i by lia,hcon,M5];exact I.c hne hE
   ·rw [hcon,M5];exact I.c hne hE
   ·unfold hC;rw [cC (dH er)];rfl
  | false=>
   rw [qc] at er
   have hKne:H i≠H (i - 1):=fun z=>by rw [(L.con i).mpr z] at qc;cases qc
   have hform:QU (O V) (H (i - 1)+1) (i+1)=H i :: QU (O V) (H i+1) (i+1):=by
    rw [lY (O V) (b:=H i) (by lia) (by lia) fun k k1 k2=>L.between (j:=i) (by lia) (by lia),kB (O V) (show H i<i+1 by lia),if_pos (L.ne_occ hE)]
   have hlen1:=hlen (i+1)
   rw [hform] at g1 hlen1
   simp only [List.length_cons] at hlen1
   let m5:=m4.put "cur_quot" (.int (H i%V.m))
   refine ⟨m5,τ1.put g (.list (qvals V (QU (O V) (H i+1) (i+1)))),⟨M1,M2,?_,fun _ _=>?_⟩,s1.trans .put,M3,rfl,start (seqN hA0 (seqN b1 ?_))⟩
   ·rw [show i+1 - 1=i by lia,iO]
   ·rw [show i+1 - 1=i by lia];rfl
   ·unfold hC;rw [fK (dH er)]
    exact aT (evPop M2 ho (xs:=qvals V (QU (O V) (H i+1) (i+1))) (by rw [g1];rfl) (by rw [iY];lia))
theorem sU (h:Good V) {i c:Int} {τ:Sto} (l1:l "self"=some (.ref V.i)) (l2:l "cur_quot"=some (.int (c%V.m))) (l3:l "idx"=some (.int (i%V.m))):aP l (qf τ V)=some (.int (c%V.m*V.R+Fl' V i),qf τ V):=by
 have gc:=bE h c
 have gi:=bE h i
 have hf:=evF (σ:=τ) h l1 (aB l3) gi
 have e1:V.flt (i%V.m)=Fl' V i:=rfl
 rw [e1] at hf
 have h100:=h.m100
 have e2:(c%V.m).natAbs<18446744073709551616:=by have:=gc.1;have:=gc.2;lia
 have hs:binF .LShift (varF "cur_quot") (aC 467 "_r" (varF "self")) l (qf τ V)=some (.int (c%V.m*V.R),qf τ V):=by
  exact bU (aB l2) (evA (aB l1) qf_i rfl) ((bShl ⟨(r0 h).1,(r0 h).2,e2⟩).trans (by rw [R_eq]))
 exact bU hs hf rfl
theorem gstep (h:Good V) (L:Lay V H) {g:Nat} (ho:¬ own V g):∀ (k:Nat) (i:Int) (l:Loc) (τ:Sto),HI V H g i l τ->
  (hl V H k i=[]/\∃ τ',SG g τ τ'/\dN "i" aM aP k i l (qf τ V)=some (none,qf τ' V))\/
  (∃ k' i' l' τ' c,hl V H k i=c :: hl V H k' i'/\k'<k/\HI V H g i' l' τ'/\SG g τ τ'/\dN "i" aM aP k i l (qf τ V)=some (some (.int c,(k',i',l')),qf τ' V)):=by
 intro k
 induction k with
 | zero=>intro i l τ I;exact .inl ⟨rfl,τ,.refl,rfl⟩
 | succ k ih=>
  intro i l τ I
  obtain ⟨s1,s2⟩:=step_hash h L ho I
  cases hE:E V i with
  | true=>
   obtain ⟨l',I',hs⟩:=s1 hE
   have e1:hl V H (k+1) i=hl V H k (i+1):=by show (if _ then _ else _)=_;rw [if_pos hE]
   have e2:dN "i" aM aP (k+1) i l (qf τ V)=dN "i" aM aP k (i+1) l' (qf τ V):=by
    show (aM (l.put "i" (.int i)) (qf τ V)).bind _=_
    rw [hs];rfl
   rw [e1,e2]
   rcases ih (i+1) l' τ I' with ⟨a1,a2⟩ | ⟨k',i',l'',τ',c,a1,a2,a3,a4,a5⟩
   ·exact .inl ⟨a1,a2⟩
   ·exact .inr ⟨k',i',l'',τ',c,a1,by lia,a3,a4,a5⟩
  | false=>
   obtain ⟨l',τ',I',sg,hidx,hc,hs⟩:=s2 hE
   have e1:hl V H (k+1) i=cd V H i :: hl V H k (i+1):=by show (if _ then _ else _)=_;rw [if_neg (by rw [hE];decide)]
   have hy:=sU (τ:=τ') h I'.self hc hidx
   refine .inr ⟨k,i+1,l',τ',cd V H i,e1,Nat.lt_succ_self k,I',sg,?_⟩
   show (aM (l.put "i" (.int i)) (qf τ V)).bind _=_
   rw [hs]
   show (aP l' (qf τ' V)).map _=_
   rw [hy];rfl
end
theorem pW (a:Int) (n:Nat):Builtin.Range.rangeSize a (n+a) 1=n:=by
 unfold Builtin.Range.rangeSize
 rw [if_pos (by decide)]
 split
 ·rw [Int.ediv_one];lia
 ·lia
theorem rH {a:Int} {n:Nat} (h1:0<=a) (h2:a<=1000) (h3:n<=1000):Builtin.Range.small a (n+a) 1=true:=by
 unfold Builtin.Range.small
 rw [pW]
 simp only [Builtin.Range.rangeFitsLong,Bool.and_eq_true,Bool.or_eq_true,decide_eq_true_eq,beq_iff_eq]
 refine ⟨⟨⟨⟨?_,?_⟩,?_⟩,?_⟩,?_⟩<;>first | (constructor<;>lia) | lia | skip
 right
 rw [if_pos (by decide)]
 simp only [Bool.and_eq_true,decide_eq_true_eq]
 lia
section
variable {σ:Sto} {V:View} {H:Int->Int} {l:Loc}
theorem tA (h:Good V) {z:Int} (hz:E V z=true) (hzm:z<V.m) (full:∀ k,0<=k->k<z->E V k=false):∀ (n fuel:Nat) (j:Int) (l:Loc),0<=j->j<=z->(z - j).toNat=n->n<fuel->l "self"=some (.ref V.i)->l "start"=some (.int j)->
  ∃ l',bG (notT (valT (aF 467 "_is_empty_element" aI (varF "self") (aA (varF "start") nilL)))) (augN .Add "start" (kF (.int 1))) fuel l (qf σ V)=some (.next,l',qf σ V)/\l' "start"=some (.int z)/\∀ y,y ≠ "start"->l' y=l y:=by
 refine meas fun n ih=>?_
 all_goals
  intro fuel j l h1 h2 hn hf l1 l2
  obtain ⟨f,rfl⟩:∃ f,fuel=f+1:=⟨fuel - 1,by lia⟩
  have gj:In V j:=⟨h1,by lia⟩
  have e:=qQ (σ:=σ) h l1 l2 gj
  have e2:emp V j=E V j:=by unfold E;rw [Int.emod_eq_of_lt gj.1 gj.2]
  rw [e2] at e
  have ht:notT (valT (aF 467 "_is_empty_element" aI (varF "self") (aA (varF "start") nilL))) l (qf σ V)=some (!E V j,qf σ V):=by unfold notT;rw [dH e];rfl
  rw [iB ht]
  by_cases q:j=z
  ·subst q
   rw [hz,if_neg (by decide)]
   exact ⟨l,rfl,l2,fun _ _=>rfl⟩
  ·rw [full j h1 (by lia),if_pos (by rfl)]
   have ha:augN .Add "start" (kF (.int 1)) l (qf σ V)=some (.next,l.put "start" (.int (j+1)),qf σ V):=by
    exact stAug l2 rfl rfl
   rw [ha]
   obtain ⟨n,rfl⟩:∃ m,n=m+1:=⟨n - 1,by lia⟩
   replace ih:=ih n rfl
   all_goals
    obtain ⟨l',w1,w2,w3⟩:=ih f (j+1) (l.put "start" (.int (j+1))) (by lia) (by lia) (by lia) (by lia) l1 rfl
    refine ⟨l',w1,w2,fun y hy=>?_⟩
    rw [w3 y hy];simp [Loc.put,hy]
theorem gfirst (h:Good V) (L:Lay V H) (hi:V.i<σ.n) (hb:V.b+10<σ.n):∃ s l' τ',HI V H σ.n s l' τ'/\SG σ.n (σ.push (.list [])) τ'/\¬ own V σ.n/\
  jE "i" dL dP aM aP (aJ ["self"] [.ref V.i]) (qf σ V)=dN "i" aM aP V.m s l' (qf τ' V):=by
 obtain ⟨z,z1,z2,z3,z4⟩:=L.next_hole h 0
 let l:=aJ ["self"] [.ref V.i]
 have l1:l "self"=some (.ref V.i):=rfl
 have hown:¬ own V σ.n:=by unfold own;lia
 let m1:=(l.put "queue" (.ref σ.n)).put "start" (.int 0)
 have M1:m1 "self"=some (.ref V.i):=l1
 have M2:m1 "queue"=some (.ref σ.n):=rfl
 have M3:m1 "start"=some (.int 0):=rfl
 obtain ⟨l2,w1,w2,w3⟩:=tA (σ:=σ.push (.list [])) h z3 (by lia) z4 (z - 0).toNat 100 0 m1 (Int.le_refl _) z1 rfl (by have:=h.mc;lia) M1 M3
 let m2:=l2.put "cur_quot" (.int 0)
 have N1:m2 "self"=some (.ref V.i):=by simp [m2,Loc.put,w3,M1]
 have N2:m2 "queue"=some (.ref σ.n):=by simp [m2,Loc.put,w3,M2]
 have N3:m2 "start"=some (.int z):=by simp [m2,Loc.put,w2]
 have hp:=mV (σ:=σ) (V:=V) (o:=.list []) hi hb
 have hn:(qf σ V).n=σ.n:=rfl
 have hpre:dL l (qf σ V)=some (.next,m2,qf (σ.push (.list [])) V):=by
  unfold dL
  refine seqN (aT (v:=.ref σ.n) (σ':=qf (σ.push (.list [])) V) (by simp [gT,nilL,hp,hn])) ?_
  refine seqN (aT rfl) (seqN w1 ?_)
  exact aT rfl
 have hargs:dP m2 (qf (σ.push (.list [])) V)=some ([.int z,.int ((V.m:Int)+z)],qf (σ.push (.list [])) V):=by
  exact lst2 (aB N3) (bU (evA (aB N1) qf_i rfl) (aB N3) rfl)
 have hh:=L.hole z z3
 have hle:=L.le (z - 1)
 refine ⟨z,m2,σ.push (.list []),⟨N1,N2,?_,fun _ q=>by rw [z3] at q;cases q⟩,.refl,hown,?_⟩
 ·rw [lY (O V) (b:=z) (by lia) (Int.le_refl _) fun k k1 k2=>L.between (j:=z) (by lia) (by lia),mQ _ (Int.le_refl _)]
  exact if_pos rfl
 ·unfold jE
  have hm:=h.mc
  exact bnd hpre (bnd hargs (bnd (a:=(z,(V.m:Int)+z,1)) rfl ((if_pos ⟨rH z1 (by lia) (by lia),rfl⟩).trans (by rw [pW];rfl))))
theorem genAll_hl (h:Good V) (L:Lay V H) {g j:Nat} (ho:¬ own V g) (hoj:¬ own V j) (hgj:j≠g):∀ (k:Nat) (i:Int) (l:Loc) (τ:Sto) (n:Nat) (zs:List Val),HI V H g i l τ->τ.get j=.list zs->k<n->zs.length+k<=1000->
  ∃ τ',τ'.n=τ.n/\(∀ q,q≠g->q≠j->τ'.get q=τ.get q)/\τ'.get j=.list (zs ++ (hl V H k i).map .int)/\oP "i" aM aP j n (k,i,l) (qf τ V)=some (qf τ' V):=by
 intro k
 induction k using Nat.strongRecOn with
 | ind k ih=>
  intro i l τ n zs I hj hn hlen
  obtain ⟨n,rfl⟩:∃ m,n=m+1:=⟨n - 1,by lia⟩
  rcases gstep h L ho k i l τ I with ⟨a1,τ',sg,a2⟩ | ⟨k',i',l',τ',c,a1,a2,a3,sg,a4⟩
  ·refine ⟨τ',sg.n,fun q q1 q2=>sg.same q q1,by rw [sg.same j hgj,hj,a1];simp,?_⟩
   show (dN "i" aM aP k i l (qf τ V)).bind _=_
   rw [a2];rfl
  ·have hj':τ'.get j=.list zs:=by rw [sg.same j hgj];exact hj
   let τ2:=τ'.put j (.list (zs ++ [.int c]))
   have I2:HI V H g i' l' τ2:=⟨a3.self,a3.queue,by rw [<- a3.q];exact if_neg (Ne.symm hgj),a3.c⟩
   obtain ⟨τ3,b1,b2,b3,b4⟩:=ih k' a2 i' l' τ2 n (zs ++ [.int c]) I2 iO (by lia) (by simp;lia)
   refine ⟨τ3,b1.trans sg.n,fun q q1 q2=>(b2 q q1 q2).trans ((if_neg q2).trans (sg.same q q1)),by rw [b3,a1];simp,?_⟩
   show (dN "i" aM aP k i l (qf τ V)).bind _=_
   rw [a4]
   show (nU j (.int c) (qf τ' V)).bind _=_
   have ha:nU j (.int c) (qf τ' V)=some (qf τ2 V):=by
    exact bnd (dG ((cY hoj).trans hj')) ((if_pos (by lia)).trans (congrArg some (rN hoj)))
   rw [ha]
   exact b4
end
structure Alike (S T:List Int):Prop where
 left:S.Pairwise (·≠·)
 right:T.Pairwise (·≠·)
 mem:∀ c,c∈S ↔ c∈T
section
variable {σ:Sto} {V:View} {H:Int->Int} {l:Loc} {S:List Int}
theorem mem_hl {c:Int} (n:Nat):∀ (i:Int),c∈hl V H n i ↔ ∃ k,i<=k/\k<i+n/\E V k=false/\c=cd V H k:=by
 induction n with
 | zero=>exact fun i=>⟨fun h=>(nomatch h),fun ⟨k,k1,k2,_⟩=>by lia⟩
 | succ n ih=>
  intro i
  have up:(∃ k,i+1<=k/\k<i+1+n/\E V k=false/\c=cd V H k)->∃ k,i<=k/\k<i+(n+1:Nat)/\E V k=false/\c=cd V H k:=fun ⟨k,k1,k2,k3⟩=>⟨k,by lia,by lia,k3⟩
  have dn:(∃ k,i<=k/\k<i+(n+1:Nat)/\E V k=false/\c=cd V H k)->E V i=false/\c=cd V H i\/∃ k,i+1<=k/\k<i+1+n/\E V k=false/\c=cd V H k:=fun ⟨k,k1,k2,k3⟩=>by
   by_cases q:k=i
   ·exact .inl (q▸k3)
   ·exact .inr ⟨k,by lia,by lia,k3⟩
  show c∈(if E V i=true then hl V H n (i+1) else cd V H i :: hl V H n (i+1)) ↔ _
  by_cases e:E V i=true
  ·rw [if_pos e,ih]
   exact ⟨up,fun h=>(dn h).resolve_left fun q=>nomatch q.1.symm.trans e⟩
  ·rw [if_neg e,List.mem_cons,ih]
   exact ⟨fun h=>h.elim (fun q=>⟨i,Int.le_refl _,by lia,Bool.not_eq_true _▸e,q⟩) up,fun h=>(dn h).imp And.right id⟩
theorem nodup_hl (h:Good V) (L:Lay V H) (R:Rep V H S) (n:Nat):∀ (i:Int),(n:Int)<=V.m->(hl V H n i).Pairwise (·≠·):=by
 induction n with
 | zero=>exact fun i _=>.nil
 | succ n ih=>
  intro i hn
  have ih:=ih (i+1) (by lia)
  show (if E V i=true then hl V H n (i+1) else cd V H i :: hl V H n (i+1)).Pairwise _
  by_cases e:E V i=true
  ·rw [if_pos e];exact ih
  ·have e':E V i=false:=by simpa using e
   rw [if_neg e]
   refine List.pairwise_cons.mpr ⟨fun c hc=>?_,ih⟩
   obtain ⟨k,k1,k2,k3,k4⟩:=(mem_hl n (i+1)).mp hc
   rw [k4]
   exact cd_inj h L R (by lia) (by lia) e' k3
theorem sB (h:Good V) (L:Lay V H) (R:Rep V H S) (s:Int):Alike (hl V H V.m s) S:=by
 refine ⟨nodup_hl h L R V.m s (Int.le_refl _),R.nodup,fun c=>?_⟩
 rw [mem_hl]
 constructor
 ·rintro ⟨k,_,_,k3,rfl⟩;exact R.cd_mem k3
 ·intro hc
  obtain ⟨i,i1,i2,i3⟩:=(R.at_code c).mpr hc
  obtain ⟨w,t,w1,w2,rfl⟩:=win h s i
  rw [cU] at i1
  rw [fW L.per,Int.add_mul_emod_self_left] at i2
  rw [Fl_k] at i3
  refine ⟨w,w1,w2,i1,?_⟩
  unfold cd
  rw [i2,i3]
  have:=Int.emod_add_mul_ediv c V.R
  rw [Int.mul_comm];lia
theorem Alike.len {S T:List Int} (a:Alike S T):S.length=T.length:=Nat.le_antisymm (oN _ _ a.left fun x hx=>(a.mem x).mp hx) (oN _ _ a.right fun x hx=>(a.mem x).mpr hx)
theorem gX (h:Good V) (L:Lay V H) (R:Rep V H S) (hi:V.i<σ.n) (hb:V.b+10<σ.n):∃ σ' ys,Ext σ σ'/\σ.n<σ'.n/\σ'.get σ.n=.list (ys.map .int)/\Alike ys S/\aV [.ref V.i] (qf σ V)=some (.ref σ.n,qf σ' V):=by
 let σ1:=σ.push (.list [])
 have hn1:σ1.n=σ.n+1:=rfl
 obtain ⟨s,l',τ',I,sg,ho,hg⟩:=gfirst (σ:=σ1) h L (by lia) (by lia)
 have hoj:¬ own V σ.n:=by unfold own;lia
 have hne:σ.n≠σ1.n:=by lia
 have hj:τ'.get σ.n=.list []:=by
  rw [sg.same _ hne]
  show (if σ.n=σ1.n then _ else σ1.get σ.n)=_
  rw [if_neg hne];exact if_pos rfl
 have hm:=h.mc
 obtain ⟨τ2,b1,b2,b3,b4⟩:=genAll_hl h L ho hoj hne V.m s l' τ' 101 [] I hj (by lia) (by simp;lia)
 have hnτ:τ'.n=σ.n+2:=by rw [sg.n];rfl
 refine ⟨τ2,hl V H V.m s,⟨by lia,fun k hk=>?_⟩,by lia,by rw [b3];simp,sB h L R s,?_⟩
 ·rw [b2 k (by lia) (by lia),sg.same k (by lia)]
  show (if k=σ1.n then _ else σ1.get k)=_
  rw [if_neg (by lia)]
  exact if_neg (by lia)
 ·let l:=aJ ["self"] [.ref V.i]
  have l1:l "self"=some (.ref V.i):=rfl
  have hp:=mV (σ:=σ) (V:=V) (o:=.list []) hi hb
  have hn:(qf σ V).n=σ.n:=rfl
  have hgf:getF V.fs "hashes"=none:=rfl
  refine eC (l':=l) rfl ?_
  show jK l (qf σ V)=_
  have hga:nI "i" dL dP aM aP σ.n 100 (aJ ["self"] [.ref V.i]) (qf σ1 V)=some (qf τ2 V):=by
   unfold nI
   rw [hg]
   exact b4
  exact eX (bnd (aB l1) (bnd rfl (bnd (eR qf_i) (bnd (lG hgf) (mp_ (by rw [hp];exact hga) rfl)))))
end
noncomputable def at_ (τ:Sto) (i:Nat) (C:Addr) (fs:List (String×Val)):Sto:=τ.put i (.inst C fs)
section
variable {τ:Sto} {i:Nat} {C:Addr} {fs fs':List (String×Val)} {l:Loc} {o:Ob}
theorem at_get:(at_ τ i C fs).get i=.inst C fs:=if_pos rfl
theorem at_put:(at_ τ i C fs).put i (.inst C fs')=at_ τ i C fs':=by
 unfold at_ Sto.put
 congr 1
 funext k
 dsimp only
 by_cases q:k=i<;>simp [q]
theorem gE (h:i<τ.n):(at_ τ i C fs).push o=at_ (τ.push o) i C fs:=by
 unfold at_ Sto.put Sto.push
 congr 1
 funext k
 dsimp only
 by_cases q:k=τ.n
 ·rw [if_pos q,if_neg (by lia),if_pos q]
 ·rw [if_neg q]
  by_cases q2:k=i
  ·rw [if_pos q2,if_pos q2]
  ·rw [if_neg q2,if_neg q2,if_neg q]
theorem at_n:(at_ τ i C fs).n=τ.n:=rfl
theorem at_self (h:τ.get i=.inst C fs):at_ τ i C fs=τ:=by
 unfold at_ Sto.put
 have:(fun j=>if j=i then Ob.inst C fs else τ.get j)=τ.get:=by
  funext k
  by_cases q:k=i
  ·rw [if_pos q,q,h]
  ·rw [if_neg q]
 rw [this]
theorem bR (σ:Sto) (o:Ob):(σ.push o).get σ.n=o:=if_pos rfl
theorem fC {σ:Sto} {o:Ob} {k:Nat} (h:k≠σ.n):(σ.push o).get k=σ.get k:=if_neg h
theorem rQ (σ:Sto) (o:Ob):(σ.push o).n=σ.n+1:=rfl
theorem stAt {x:String} {f:EF} {v:Val} {τ':Sto} (hs:l "self"=some (.ref i)) (hf:f l (at_ τ i C fs)=some (v,at_ τ' i C fs)) (hn:fs.length<=900):aZ C x f (varF "self") l (at_ τ i C fs)=some (.next,l,at_ τ' i C (putF fs x v)):=by
 exact (stAttr hf (aB hs) at_get hn).trans (by rw [at_put])
theorem evAt {x:String} {v:Val} (hs:l "self"=some (.ref i)) (hg:getF fs x=some v):aC C x (varF "self") l (at_ τ i C fs)=some (v,at_ τ i C fs):=by
 exact evA (aB hs) at_get hg
theorem evRep {e:EF} {n:Int} {τ:Sto} {σ:Sto} (hn:σ.n=τ.n) (he:e l (σ.push (.list [.int 0]))=some (.int n,σ.push (.list [.int 0]))) (h0:0<=n) (h1:n<=1000000) :
  repF (gT (aA (kF (.int 0)) nilL)) e l σ=some (.ref (σ.n+1),(σ.push (.list [.int 0])).push (.list (List.replicate n.toNat (.int 0)))):=by
 exact bnd rfl (bnd he (bnd rfl (bnd rfl (bnd (dG (bR _ _)) (bnd rfl (if_pos ⟨h0,h1⟩))))))
end
noncomputable def T (τ:Sto) (m:Nat):Sto:=((τ.push (.inst 183 (bfs m (τ.n+2)))).push (.list [.int 0])).push (.list (bl (fun _=>false) (m / 8)))
theorem bl_false8:List.replicate 1 (Val.int 0)=bl (fun _=>false) (8 / 8):=rfl
theorem bl_false16:List.replicate 2 (Val.int 0)=bl (fun _=>false) (16 / 8):=rfl
theorem push_at {τ:Sto} {C:Addr} {fs:List (String×Val)}:τ.push (.inst C fs)=at_ (τ.push (.inst C [])) τ.n C fs:=by
 unfold at_ Sto.put Sto.push
 congr 1
 funext k
 dsimp only
 by_cases q:k=τ.n
 ·rw [if_pos q,if_pos q]
 ·rw [if_neg q,if_neg q,if_neg q]
theorem ba_init {τ:Sto} {m:Nat} (hm:m=8\/m=16):jQ [.ref τ.n,.int m] (τ.push (.inst 183 []))=some (.none,T τ m):=by
 let l:=aJ ["self","size"] [.ref τ.n,.int m]
 have l1:l "self"=some (.ref τ.n):=by simp [l,aJ]
 have l2:l "size"=some (.int m):=by simp [l,aJ]
 let τ1:=τ.push (.inst 183 [])
 have hτ1:τ1=at_ τ1 τ.n 183 []:=(at_self (bR τ _)).symm
 let τ2:=(τ1.push (.list [.int 0])).push (.list (bl (fun _=>false) (m / 8)))
 have hlt:τ.n<τ1.n:=Nat.lt_succ_self _
 have e8:-(-(m:Int) / 8)=((m / 8:Nat):Int):=by lia
 refine bC (l':=l) rfl ?_
 show qY l τ1=_
 have s1:aZ 183 "_size_bytes" (unF .USub (binF .FloorDiv (unF .USub (varF "size")) (kF (.int 8)))) (varF "self") l (at_ τ1 τ.n 183 [])=some (.next,l,at_ τ1 τ.n 183 [("_size_bytes",.int (m / 8:Nat))]):=by
  refine (stAt (v:=.int (m / 8:Nat)) l1 ?_ (by simp)).trans rfl
  have h3:binV .FloorDiv (.int (-(m:Int))) (.int 8)=some (.int (-(m:Int) / 8)):=show (if (0:Int)<8/\(8:Int)<2 ^ 30 then some (Val.int (-(m:Int) / 8)) else none)=_ from if_pos (by decide)
  exact evUn (bU (evUn (aB l2) rfl) rfl h3) (by show some (Val.int (-(-(m:Int) / 8)))=_;rw [e8])
 have s2:aZ 183 "_bitarray" (repF (gT (aA (kF (.int 0)) nilL)) (aC 183 "_size_bytes" (varF "self"))) (varF "self") l (at_ τ1 τ.n 183 [("_size_bytes",.int (m / 8:Nat))])=some (.next,l,at_ τ2 τ.n 183 [("_size_bytes",.int (m / 8:Nat)),("_bitarray",.ref (τ.n+2))]):=by
  refine (stAt (v:=.ref (τ.n+2)) (τ':=τ2) l1 ?_ (by simp)).trans rfl
  have hp:(at_ τ1 τ.n 183 [("_size_bytes",.int (m / 8:Nat))]).push (.list [.int 0])=at_ (τ1.push (.list [.int 0])) τ.n 183 [("_size_bytes",.int (m / 8:Nat))]:=gE hlt
  refine (evRep (τ:=at_ τ1 τ.n 183 [("_size_bytes",.int (m / 8:Nat))]) rfl (n:=(m / 8:Nat)) (by rw [hp];exact evAt l1 (by simp [getF])) (by lia) (by lia)).trans ?_
  rw [hp,gE (by show τ.n<τ1.n+1;lia),Int.toNat_natCast]
  rcases hm with rfl | rfl
  ·rfl
  ·rfl
 have s3:aZ 183 "_size" (varF "size") (varF "self") l (at_ τ2 τ.n 183 [("_size_bytes",.int (m / 8:Nat)),("_bitarray",.ref (τ.n+2))])=some (.next,l,at_ τ2 τ.n 183 (bfs m (τ.n+2))):=
  (stAt (v:=.int m) l1 (aB l2) (by simp)).trans rfl
 have fin:at_ τ2 τ.n 183 (bfs m (τ.n+2))=T τ m:=by
  unfold T
  rw [push_at]
  show at_ τ2 τ.n 183 _=((at_ τ1 τ.n 183 _).push _).push _
  rw [gE hlt,gE (by show τ.n<τ1.n+1;lia)]
 unfold qY
 refine seqN (l':=l) (σ₁:=τ1) ?_ (seqN (l':=l) (σ₁:=τ1) ?_ ?_)
 ·rw [cC (σ':=τ1)]
  ·rfl
  ·have hi:rX (varF "size") l τ1=some (.bool true,τ1):=bnd (aB l2) rfl
   exact evNot (lN hi)
 ·rw [cC (σ':=τ1)]
  ·rfl
  ·have:¬ (m:Int)<=0:=by lia
   exact bD (g:=kF (.int 0)) (aB l2) rfl (congrArg some (decide_eq_false this))
 ·rw [hτ1]
  refine seqN s1 (seqN s2 ?_)
  rw [s3,fin]
noncomputable def T4 (τ:Sto) (m:Nat):Sto:=((T (T (T τ m) m) m).push (.list [.int 0])).push (.list (flL (fun _=>0) m))
noncomputable def dS (q:Nat) (auto:Bool) (hf:Addr) (i b:Nat):View:=⟨q,0,auto,hf,i,b,fun _=>false,fun _=>false,fun _=>false,fun _=>0⟩
theorem T_n {τ:Sto} {m:Nat}:(T τ m).n=τ.n+3:=rfl
theorem T_at {τ:Sto} {i m:Nat} {C:Addr} {fs:List (String×Val)} (h:i<τ.n):T (at_ τ i C fs) m=at_ (T τ m) i C fs:=by
 unfold T
 rw [gE h,gE (by rw [rQ];lia),gE (by rw [rQ,rQ];lia)]
 rfl
theorem T_ext {τ:Sto} {m:Nat}:Ext τ (T τ m):=(Ext.push.trans Ext.push).trans Ext.push
theorem T4_n {τ:Sto} {m:Nat}:(T4 τ m).n=τ.n+11:=rfl
theorem T4_ext {τ:Sto} {m:Nat}:Ext τ (T4 τ m):=(((T_ext.trans T_ext).trans T_ext).trans Ext.push).trans Ext.push
section
variable {τ:Sto} {i:Nat} {fs:List (String×Val)} {l:Loc}
theorem T_get {τ:Sto} {m k:Nat}:(T τ m).get k=if k=τ.n+2 then .list (bl (fun _=>false) (m / 8)) else if k=τ.n+1 then .list [.int 0] else if k=τ.n then .inst 183 (bfs m (τ.n+2)) else τ.get k:=rfl
theorem T4_get {τ:Sto} {m k:Nat}:(T4 τ m).get k=if k=τ.n+10 then .list (flL (fun _=>0) m) else if k=τ.n+9 then .list [.int 0] else (T (T (T τ m) m) m).get k:=rfl
theorem T4_j {τ:Sto} {m j:Nat}:(T4 τ m).get (τ.n+j)=if j=10 then .list (flL (fun _=>0) m) else if j=9 then .list [.int 0] else
  if j=8 then .list (bl (fun _=>false) (m / 8)) else if j=7 then .list [.int 0] else if j=6 then .inst 183 (bfs m (τ.n+8)) else
  if j=5 then .list (bl (fun _=>false) (m / 8)) else if j=4 then .list [.int 0] else if j=3 then .inst 183 (bfs m (τ.n+5)) else
  if j=2 then .list (bl (fun _=>false) (m / 8)) else if j=1 then .list [.int 0] else if j=0 then .inst 183 (bfs m (τ.n+2)) else τ.get (τ.n+j):=by
 show (if τ.n+j=τ.n+10 then _ else if τ.n+j=τ.n+9 then _ else if τ.n+j=τ.n+8 then _ else if τ.n+j=τ.n+7 then _ else if τ.n+j=τ.n+6 then _ else if τ.n+j=τ.n+5 then _ else
  if τ.n+j=τ.n+4 then _ else if τ.n+j=τ.n+3 then _ else if τ.n+j=τ.n+2 then _ else if τ.n+j=τ.n+1 then _ else if τ.n+j=τ.n+0 then _ else _)=_
 simp only [ifc]
 rfl
theorem ovl {g:Nat->Ob} {k a:Nat} {o r:Ob} (h:g a=o) (e:r=g k):(if k=a then o else r)=g k:=by
 by_cases q:k=a
 ·rw [if_pos q,q,h]
 ·rw [if_neg q,e]
theorem fresh_eq {q:Nat} {auto:Bool} {hf:Addr} (hi:i<τ.n):at_ (T4 τ (2 ^ q)) i 467 (dS q auto hf i τ.n).fs=qf (T4 τ (2 ^ q)) (dS q auto hf i τ.n):=
 congrArg (Sto.mk (τ.n+11)) (funext fun k=>congrArg (fun r=>if k=i then Ob.inst 467 (dS q auto hf i τ.n).fs else r)
  (ovl (T4_j (j:=0)) (ovl (T4_j (j:=2)) (ovl (T4_j (j:=3)) (ovl (T4_j (j:=5)) (ovl (T4_j (j:=6)) (ovl (T4_j (j:=8)) (ovl (T4_j (j:=10)) rfl))))))).symm)
theorem nJ {p:String×Val} {r:List (String×Val)} {y:String} (h:(p.1 == y)=true):getF (p :: r) y=some p.2:=congrArg (Option.map _) (List.find?_cons_of_pos (p:=fun p:String×Val=>p.1 == y) (a:=p) h)
theorem jT {p:String×Val} {r:List (String×Val)} {y:String} (h:(p.1 == y)=false):getF (p :: r) y=getF r y:=congrArg (Option.map _) (List.find?_cons_of_neg (p:=fun p:String×Val=>p.1 == y) (a:=p) (by rw [h];exact Bool.false_ne_true))
theorem rO {p:String×Val} {r:List (String×Val)} {x:String} {v:Val} (h:(p.1 == x)=true):putF (p :: r) x v=(p.1,v) :: r:=if_pos h
theorem rP {p:String×Val} {r:List (String×Val)} {x:String} {v:Val} (h:(p.1 == x)=false):putF (p :: r) x v=p :: putF r x v:=if_neg (by rw [h];exact Bool.false_ne_true)
theorem qL {x:String} {v:Val} {fs:List (String×Val)}:getF (putF fs x v) x=some v:=by
 induction fs with
 | nil=>exact nJ (p:=(x,v)) (beq_self_eq_true x)
 | cons p r ih=>
  cases e:p.1 == x with
  | true=>rw [rO e];exact nJ (p:=(p.1,v)) e
  | false=>rw [rP e,jT e];exact ih
theorem getF_ne' {x y:String} {v:Val} (h:(x == y)=false) {fs:List (String×Val)}:getF (putF fs x v) y=getF fs y:=by
 induction fs with
 | nil=>exact jT (p:=(x,v)) h
 | cons p r ih=>
  cases e:p.1 == x with
  | true=>rw [rO e,jT (p:=(p.1,v)) (by rw [eq_of_beq e];exact h),jT (by rw [eq_of_beq e];exact h)]
  | false=>
   rw [rP e]
   cases e2:p.1 == y with
   | true=>rw [nJ e2,nJ e2]
   | false=>rw [jT e2,jT e2];exact ih
theorem dM {fs:List (String×Val)} {x y:String} {v w:Val} (h:(x == y)=false) (e:getF fs y=some w):getF (putF fs x v) y=some w:=(getF_ne' h).trans e
theorem eL {fs:List (String×Val)} {x:String} {v:Val} {n:Nat} (h:fs.length<=n):(putF fs x v).length<=n+1:=Nat.le_trans (lE fs x v) (Nat.succ_le_succ h)
theorem le9 {n m:Nat} (h:n<=m) (e:Nat.ble m 900=true):n<=900:=Nat.le_trans h (Nat.le_of_ble_eq_true e)
theorem newBa {m:Nat} (hm:m=8\/m=16) {σ:Sto} {e:EF} (he:e l σ=some (.int m,σ)):newF 183 jQ (aA e nilL) l σ=some (.ref σ.n,T σ m):=by
 exact evNew (lst1 he) (ba_init hm)
theorem gO {q:Nat} {auto:Bool} {hf:Addr} (hq:q=3\/q=4) (hi:i<τ.n) (hg:τ.get i=.inst 467 fs) (hfs:fs=[]\/∃ V:View,fs=V.fs) :
  cS [.ref i,.int q,.bool auto,.fn hf] τ=some (.none,qf (T4 τ (2 ^ q)) (dS q auto hf i τ.n)):=by
 let l:=aJ ["self","quotient","auto_expand","hash_function"] [.ref i,.int q,.bool auto,.fn hf]
 have l1:l "self"=some (.ref i):=by simp [l,aJ]
 have l2:l "quotient"=some (.int q):=by simp [l,aJ]
 have l3:l "auto_expand"=some (.bool auto):=by simp [l,aJ]
 have l4:l "hash_function"=some (.fn hf):=by simp [l,aJ]
 have hm:2 ^ q=8\/2 ^ q=16:=by rcases hq with rfl | rfl<;>decide
 rw [<- fresh_eq hi]
 refine bC (l':=l) rfl ?_
 show gD l τ=_
 have hτ:τ=at_ τ i 467 fs:=(at_self hg).symm
 conv=>lhs;rw [hτ]
 have len:fs.length<=800:=by rcases hfs with rfl | ⟨V,rfl⟩<;>exact Nat.le_of_ble_eq_true rfl
 let f1:=putF fs "_q" (.int q)
 let f2:=putF f1 "_r" (.int (32 - (q:Int)))
 let f3:=putF f2 "_size" (.int ((2 ^ q:Nat):Int))
 let f4:=putF f3 "_QuotientFilter__mod_size" (.int (((2 ^ q:Nat):Int) - 1))
 let f5:=putF f4 "_elements_added" (.int 0)
 let f6:=putF f5 "_auto_resize" (.bool auto)
 let f7:=putF f6 "_hash_func" (.fn hf)
 let f8:=putF f7 "_int_type_code" (.str (Str.ofString "L"))
 let f9:=putF f8 "_bits_per_elm" (.int 32)
 let g1:=putF f9 "_is_occupied" (.ref τ.n)
 let g2:=putF g1 "_is_continuation" (.ref (τ.n+3))
 let g3:=putF g2 "_is_shifted" (.ref (τ.n+6))
 let g4:=putF g3 "_filter" (.ref (τ.n+10))
 have fin:g4=(dS q auto hf i τ.n).fs:=by rcases hfs with rfl | ⟨V,rfl⟩<;>rfl
 have q1:getF f1 "_q"=some (.int q):=qL
 have q2:getF f2 "_q"=some (.int q):=dM rfl q1
 have q3:getF f3 "_size"=some (.int ((2 ^ q:Nat):Int)):=qL
 have q7:getF f7 "_r"=some (.int (32 - (q:Int))):=dM rfl (dM rfl (dM rfl (dM rfl (dM rfl qL))))
 have q9:getF f9 "_size"=some (.int ((2 ^ q:Nat):Int)):=dM rfl (dM rfl (dM rfl (dM rfl (dM rfl (dM rfl q3)))))
 have p1:getF g1 "_size"=some (.int ((2 ^ q:Nat):Int)):=dM rfl q9
 have p2:getF g2 "_size"=some (.int ((2 ^ q:Nat):Int)):=dM rfl p1
 have p3:getF g3 "_size"=some (.int ((2 ^ q:Nat):Int)):=dM rfl p2
 have L1:f1.length<=801:=eL len
 have L2:f2.length<=802:=eL L1
 have L3:f3.length<=803:=eL L2
 have L4:f4.length<=804:=eL L3
 have L5:f5.length<=805:=eL L4
 have L6:f6.length<=806:=eL L5
 have L7:f7.length<=807:=eL L6
 have L8:f8.length<=808:=eL L7
 have L9:f9.length<=809:=eL L8
 have L10:g1.length<=810:=eL L9
 have L11:g2.length<=811:=eL L10
 have L12:g3.length<=812:=eL L11
 have eshift:binV .LShift (.int 1) (.int q)=some (.int ((2 ^ q:Nat):Int)):=by rcases hq with rfl | rfl<;>rfl
 unfold gD
 refine seqN (stAt l1 (aB l2) (le9 len rfl)) ?_
 refine seqN (stAt (fs:=f1) l1 (bU (f:=kF (.int 32)) rfl (aB l2) rfl) (le9 L1 rfl)) ?_
 refine seqN (stAt (fs:=f2) l1 (bU (f:=kF (.int 1)) rfl (evAt l1 q2) eshift) (le9 L2 rfl)) ?_
 refine seqN (stAt (fs:=f3) l1 (bU (evAt l1 q3) (g:=kF (.int 1)) rfl rfl) (le9 L3 rfl)) ?_
 refine seqN (stAt (fs:=f4) l1 (v:=.int 0) rfl (le9 L4 rfl)) ?_
 refine seqN (stAt (fs:=f5) l1 (aB l3) (le9 L5 rfl)) ?_
 refine seqN (stAt (fs:=f6) (τ':=τ) (v:=.fn hf) l1 (iteE (bD (g:=kF .none) (aB l4) rfl rfl) (aB l4)) (le9 L6 rfl)) ?_
 have hr8:cmpT .LtE (aC 467 "_r" (varF "self")) (kF (.int 8)) l (at_ τ i 467 f7)=some (false,at_ τ i 467 f7):=by
  unfold cmpT;rw [evAt l1 q7];rcases hq with rfl | rfl<;>rfl
 have hr16:cmpT .LtE (aC 467 "_r" (varF "self")) (kF (.int 16)) l (at_ τ i 467 f7)=some (false,at_ τ i 467 f7):=by
  unfold cmpT;rw [evAt l1 q7];rcases hq with rfl | rfl<;>rfl
 refine seqN (l':=l) (σ₁:=at_ τ i 467 f9) ?_ ?_
 ·rw [cC hr8,cC hr16]
  exact seqN (stAt (fs:=f7) (v:=.str (Str.ofString "L")) l1 rfl (le9 L7 rfl)) (stAt (fs:=f8) (v:=.int 32) l1 rfl (le9 L8 rfl))
 refine seqN (stAt (fs:=f9) (τ':=T τ (2 ^ q)) (v:=.ref τ.n) l1 ((newBa hm (evAt l1 q9)).trans (by rw [T_at hi];rfl)) (le9 L9 rfl)) ?_
 refine seqN (stAt (fs:=g1) (τ':=T (T τ (2 ^ q)) (2 ^ q)) (v:=.ref (τ.n+3)) l1 ((newBa hm (evAt l1 p1)).trans (by rw [T_at (by rw [T_n];lia)];rfl)) (le9 L10 rfl)) ?_
 refine seqN (stAt (fs:=g2) (τ':=T (T (T τ (2 ^ q)) (2 ^ q)) (2 ^ q)) (v:=.ref (τ.n+6)) l1 ((newBa hm (evAt l1 p2)).trans (by rw [T_at (by rw [T_n,T_n];lia)];rfl)) (le9 L11 rfl)) ?_
 have hi3:i<(T (T (T τ (2 ^ q)) (2 ^ q)) (2 ^ q)).n:=by rw [T_n,T_n,T_n];lia
 have hp:(at_ (T (T (T τ (2 ^ q)) (2 ^ q)) (2 ^ q)) i 467 g3).push (.list [.int 0])=at_ ((T (T (T τ (2 ^ q)) (2 ^ q)) (2 ^ q)).push (.list [.int 0])) i 467 g3:=gE hi3
 have hfin:repF (gT (aA (kF (.int 0)) nilL)) (aC 467 "_size" (varF "self")) l (at_ (T (T (T τ (2 ^ q)) (2 ^ q)) (2 ^ q)) i 467 g3)=some (.ref (τ.n+10),at_ (T4 τ (2 ^ q)) i 467 g3):=by
  refine (evRep (τ:=at_ (T (T (T τ (2 ^ q)) (2 ^ q)) (2 ^ q)) i 467 g3) rfl (n:=((2 ^ q:Nat):Int)) (by rw [hp];exact evAt l1 p3) (by lia) (by rcases hm with e | e<;>rw [e]<;>decide)).trans ?_
  rw [hp,gE (by rw [rQ];lia),Int.toNat_natCast]
  rcases hq with rfl | rfl<;>rfl
 refine (stAt (fs:=g3) (τ':=T4 τ (2 ^ q)) (v:=.ref (τ.n+10)) l1 hfin (le9 L12 rfl)).trans ?_
 show some (Fl.next,l,at_ (T4 τ (2 ^ q)) i 467 g4)=_
 rw [fin]
end
section
variable {σ:Sto} {V:View} {H:Int->Int} {l:Loc} {S:List Int}
theorem fresh_E {q:Nat} {auto:Bool} {hf:Addr} {i b:Nat} (k:Int):E (dS q auto hf i b) k=true:=rfl
theorem fresh_lay {q:Nat} {auto:Bool} {hf:Addr} {i b:Nat}:Lay (dS q auto hf i b) id:=by
 refine ⟨⟨fun _=>rfl,fun _=>Int.le_refl _,fun i=>by show i<=i+1;lia,fun _ _=>⟨rfl,rfl⟩,fun i=>⟨fun h=>?_,fun h=>?_⟩,fun i=>⟨fun h=>?_,fun h=>?_⟩,fun k=>⟨fun h=>?_,fun ⟨j,j1,_⟩=>?_⟩,fun i h=>?_,⟨0,rfl⟩⟩,⟨0,rfl⟩⟩
 ·cases h
 ·exact absurd h (Int.lt_irrefl _)
 ·cases h
 ·have h:i=i - 1:=h;lia
 ·cases h
 ·rw [fresh_E] at j1;cases j1
 ·cases h
theorem oQ {q:Nat} {auto:Bool} {hf:Addr} {i b:Nat}:Rep (dS q auto hf i b) id []:=by
 refine ⟨.nil,fun k r=>⟨fun ⟨j,j1,_⟩=>?_,fun ⟨c,c1,_⟩=>by cases c1⟩⟩
 rw [fresh_E] at j1;cases j1
theorem Rep.alike {S T:List Int} (R:Rep V H S) (a:Alike S T):Rep V H T:=by
 refine ⟨a.right,fun k r=>?_⟩
 rw [R.has]
 constructor
 ·rintro ⟨c,c1,c2⟩;exact ⟨c,(a.mem c).mp c1,c2⟩
 ·rintro ⟨c,c1,c2⟩;exact ⟨c,(a.mem c).mpr c1,c2⟩
structure ExtV (V:View) (σ σ':Sto):Prop where
 n:σ.n<=σ'.n
 same:∀ k,k<σ.n->¬ own V k->σ'.get k=σ.get k
theorem Ext.toV {σ σ':Sto} (e:Ext σ σ'):ExtV V σ σ':=⟨e.n,fun k hk _=>e.same k hk⟩
theorem zero_loop (h:Good V):∀ (n:Nat) (v:Int) (F:Int->Int) (l:Loc),0<=v->v+n<=V.m->l "self"=some (.ref V.i)->
  ∃ F' l',forR "i" (bF (kF (.int 0)) (aC 467 "_filter" (varF "self")) (varF "i")) n v 1 l (qf σ { V with flt:=F })=some (.next,l',qf σ { V with flt:=F' })/\∀ y,y ≠ "i"->l' y=l y:=by
 intro n
 induction n with
 | zero=>intro v F l _ _ _;exact ⟨F,l,rfl,fun _ _=>rfl⟩
 | succ n ih=>
  intro v F l h1 h2 hs
  let l1:=l.put "i" (.int v)
  have hs1:l1 "self"=some (.ref V.i):=by simp [l1,Loc.put,hs]
  have hst:=stF (σ:=σ) (V:={ V with flt:=F }) (l:=l1) (fe:=kF (.int 0)) (ge:=varF "i") (j:=v) (v:=0) (h.flt F) hs1 rfl (aB (by simp [l1,Loc.put])) ⟨h1,by show v<(V.m:Int);lia⟩
  obtain ⟨F',l',e1,e2⟩:=ih (v+1) (upd F v 0) l1 (by lia) (by lia) hs1
  refine ⟨F',l',?_,fun y hy=>(e2 y hy).trans (by simp [l1,Loc.put,hy])⟩
  show (bF _ _ _ l1 (qf σ { V with flt:=F })).bind _=_
  rw [hst]
  exact e1
theorem tG {j:Nat} {ys:List Int}:∀ (n k:Nat) (V:View) (H:Int->Int) (l:Loc),k+n=ys.length->Good V->Lay V H->Rep V H (ys.take k)->V.n=k->(∀ c∈ys,bW c)->ys.Pairwise (·≠·)->ys.length<V.m->(V.auto=true->V.m=16/\ys.length<=13)->¬ own V j->σ.get j=.list (ys.map .int)->l "self"=some (.ref V.i)->
  ∃ V' H' l',V'={ V with n:=V'.n,occ:=V'.occ,con:=V'.con,shf:=V'.shf,flt:=V'.flt }/\Lay V' H'/\Rep V' H' ys/\V'.n=ys.length/\
   forL "_h" (aU (aF 467 "add_alt" dZ (varF "self") (aA (varF "_h") nilL))) j (n+1) k l (qf σ V)=some (.next,l',qf σ V'):=by
 intro n
 induction n with
 | zero=>
  intro k V H l hk hg L R hn hc hnd hlen ha ho hj hs
  have hk:k=ys.length:=by lia
  rw [hk,List.take_length] at R
  refine ⟨V,H,l,rfl,L,R,by rw [hn,hk],?_⟩
  exact jG ((cY ho).trans hj) (by rw [List.getElem?_eq_none_iff];simp;lia)
 | succ n ih=>
  intro k V H l hk hg L R hn hc hnd hlen ha ho hj hs
  have hlt:k<ys.length:=by lia
  let c:=ys[k]
  have hcm:c∈ys:=List.getElem_mem hlt
  have htk:ys.take (k+1)=ys.take k ++ [c]:=List.take_succ_eq_append_getElem hlt
  have hnot:c ∉ ys.take k:=by
   intro z
   have hp:(ys.take (k+1)).Pairwise (·≠·):=hnd.sublist (List.take_sublist _ _)
   rw [htk,List.pairwise_append] at hp
   exact hp.2.2 c z c (List.mem_singleton.mpr rfl) rfl
  have hlt2:(ys.take k).length=k:=by simp;lia
  have hmc:=hg.mc
  obtain ⟨V',H',a1,a2,a3,a4,_⟩:=nV (σ:=σ) hg L R (hc c hcm) (.inr ⟨by lia,by lia⟩) (by lia) (by
   cases q:V.auto
   ·rfl
   ·obtain ⟨q1,q2⟩:=ha q
    rw [q1]
    have:¬ (85*((16:Nat):Int)<=100*V.n):=by lia
    simp only [Bool.true_and]
    exact decide_eq_false this)
  rw [if_neg hnot] at a1
  have g':Good V':=by rw [a1];exact ⟨hg.lt,hg.q⟩
  have ei:V'.i=V.i:=by rw [a1]
  have em:V'.m=V.m:=by rw [a1];rfl
  have ea:V'.auto=V.auto:=by rw [a1]
  have hadd:adds (ys.take k) c=ys.take (k+1):=by unfold adds;rw [if_neg hnot,htk]
  rw [hadd] at a3
  have ho':¬ own V' j:=by rw [a1];exact ho
  obtain ⟨V2,H2,l2,b1,b2,b3,b4,b5⟩:=ih (k+1) V' H' (l.put "_h" (.int c)) (by lia) g' a2 a3 (by rw [a1];show V.n+1=((k+1:Nat):Int);lia) hc hnd (by rw [em];exact hlen) (by rw [ea,em];exact ha) ho' hj (by rw [ei];simp [Loc.put,hs])
  refine ⟨V2,H2,l2,by rw [b1,a1],b2,b3,b4,?_⟩
  exact gY ((cY ho).trans hj) (by rw [List.getElem?_map,List.getElem?_eq_getElem hlt];rfl) (cM (jV (V:=V) hs rfl rfl a4)) b5
end
section
variable {σ:Sto} {V:View} {H:Int->Int} {l:Loc} {S:List Int}
theorem forL_more {x:String} {b:SF} {id:Nat} (d:Nat):∀ (n k:Nat) {l:Loc} {τ:Sto} {r:Fl×Loc×Sto},forL x b id n k l τ=some r->forL x b id (n+d) k l τ=some r:=by
 intro n
 induction n with
 | zero=>intro k l τ r hr;cases hr
 | succ n ih=>
  intro k l τ r hr
  rw [show n+1+d=(n+d)+1 by lia]
  refine obE hr fun xs h1 hr=>ocE hr (fun q e=>e▸jG (bN h1) q) fun v q e=>obE e fun r e1 e2=>?_
  refine bnd h1 ((congrArg (fun o:Option Val=>o.elim _ _) q).trans (bnd e1 ?_))
  obtain ⟨fl,l',τ'⟩:=r
  cases fl with
  | next=>exact ih _ e2
  | cont=>exact ih _ e2
  | brk=>exact e2
  | ret v=>exact e2
theorem evProp {v:Val} (hs:l "self"=some (.ref V.i)):lZ 467 bB (varF "self") l (qf σ V)=some (.int V.n,qf σ V):=by
 exact evProp0 (aB hs) qf_i (fRet (l':=aJ ["self"] [.ref V.i]) rfl (eX (evA (aB rfl) qf_i rfl)))
theorem small0 {n:Nat} (h3:n<=1000):Builtin.Range.small 0 n 1=true:=by
 have:=rH (a:=0) (n:=n) (Int.le_refl _) (by decide) h3
 rwa [Int.add_zero] at this
theorem size0 (n:Nat):Builtin.Range.rangeSize 0 n 1=n:=by
 have:=pW 0 n
 rwa [Int.add_zero] at this
theorem rng_one (n:Nat):rngV [.int (n:Int)]=some (0,(n:Int),1):=rfl
theorem lL {x:String} {f:LF} {b:SF} {τ:Sto} {n:Nat} {r:Option (Fl×Loc×Sto)} (hn:n<=1000) (hf:f l τ=some ([.int (n:Int)],τ)) (hr:forR x b n 0 1 l τ=r):jF x f b l τ=r:=by
 have e:jF x f b l τ=(f l τ).bind fun a=>(rngV a.1).bind fun t=>if Builtin.Range.small t.1 t.2.1 t.2.2=true then forR x b (Builtin.Range.rangeSize t.1 t.2.1 t.2.2).toNat t.1 t.2.2 l a.2 else none:=rfl
 rw [e,hf,Option.bind_some,rng_one,Option.bind_some]
 generalize hsm:Builtin.Range.small (0,(n:Int),(1:Int)).1 (0,(n:Int),(1:Int)).2.1 (0,(n:Int),(1:Int)).2.2=sm
 have:sm=true:=hsm.symm.trans (small0 hn)
 subst this
 rw [if_pos rfl]
 have e2:(Builtin.Range.rangeSize (0,(n:Int),(1:Int)).1 (0,(n:Int),(1:Int)).2.1 (0,(n:Int),(1:Int)).2.2).toNat=n:=by
  have:=size0 n
  show (Builtin.Range.rangeSize 0 (n:Int) 1).toNat=n
  rw [this,Int.toNat_natCast]
 rw [e2]
 exact hr
structure Rz (V V':View) (σ σ':Sto) (q:Nat) (n:Int):Prop where
 ext:ExtV V σ σ'
 lo:σ.n<=V'.b
 hi:V'.b+10<σ'.n
 i:V'.i=V.i
 q:V'.q=q
 auto:V'.auto=V.auto
 hf:V'.hf=V.hf
 n:V'.n=n
noncomputable def rJ:SF:=(seqB (ifS (cmpT .GtE (lZ 467 bB (varF "self")) (binF .LShift (kF (.int 1)) (varF "quotient"))) (fun _ _=>none) nilB)
 (seqB (ifS (orT [(cmpT .Lt (varF "quotient") (kF (.int 3))),(cmpT .Gt (varF "quotient") (kF (.int 31)))]) (fun _ _=>none) nilB)
 (seqB (setF "hashes" (aF 467 "get_hashes" aV (varF "self") nilL))
 (seqB (jF "i" (aA (aC 467 "_size" (varF "self")) nilL) (bF (kF (.int 0)) (aC 467 "_filter" (varF "self")) (varF "i")))
 (seqB (aU (aF 467 "_QuotientFilter__set_params" cS (varF "self") (aA (varF "quotient") (aA (aC 467 "_auto_resize" (varF "self")) (aA (aC 467 "_hash_func" (varF "self")) nilL)))))
 (kK "_h" (varF "hashes") (aU (aF 467 "add_alt" dZ (varF "self") (aA (varF "_h") nilL))) 100))))))
theorem kY (h:Good V) (L:Lay V H) (R:Rep V H S) (hc:∀ c∈S,bW c) {q:Nat} (hq:q=3\/q=4) (hi:V.i<σ.n) (hb:V.b+10<σ.n) (hn:V.n<2 ^ q) (hS:S.length<2 ^ q) (hauto:V.auto=true->q=4/\S.length<=13) (l1:l "self"=some (.ref V.i)) (l2:l "quotient"=some (.int q)) :
  ∃ σ' V' H' l',Rz V V' σ σ' q S.length/\Lay V' H'/\Rep V' H' S/\rJ l (qf σ V)=some (.next,l',qf σ' V'):=by
 have hm:=h.mc
 obtain ⟨σ1,ys,x1,x2,x3,x4,x5⟩:=gX (σ:=σ) h L R hi hb
 have hlenS:=x4.len
 let m1:=l.put "hashes" (.ref σ.n)
 have A1:m1 "self"=some (.ref V.i):=l1
 have A2:m1 "quotient"=some (.int q):=l2
 have A3:m1 "hashes"=some (.ref σ.n):=rfl
 obtain ⟨F',m2,z1,z2⟩:=zero_loop (σ:=σ1) h V.m 0 V.flt m1 (Int.le_refl _) (by lia) A1
 have B1:m2 "self"=some (.ref V.i):=(z2 _ (by decide)).trans A1
 have B2:m2 "quotient"=some (.int q):=(z2 _ (by decide)).trans A2
 have B3:m2 "hashes"=some (.ref σ.n):=(z2 _ (by decide)).trans A3
 let V0:View:={ V with flt:=F' }
 let τ:=qf σ1 V0
 have hτn:τ.n=σ1.n:=rfl
 have hτi:τ.get V.i=.inst 467 V0.fs:=qf_i (V:=V0)
 have hsp:=gO (τ:=τ) (auto:=V.auto) (hf:=V.hf) hq (i:=V.i) (by rw [hτn];lia) hτi (.inr ⟨V0,rfl⟩)
 let W:=dS q V.auto V.hf V.i τ.n
 have gW:Good W:=⟨by show V.i<τ.n;rw [hτn];lia,hq⟩
 have hWm:W.m=2 ^ q:=rfl
 have hownσ:¬ own V σ.n:=by unfold own;lia
 have hownW:¬ own W σ.n:=by
  have e1:W.i=V.i:=rfl
  have e2:W.b=σ1.n:=rfl
  unfold own;rw [e1,e2];lia
 have hT:(T4 τ (2 ^ q)).get σ.n=.list (ys.map .int):=by
  rw [(T4_ext (τ:=τ) (m:=2 ^ q)).same _ (by rw [hτn];lia)]
  exact (cY (V:=V0) hownσ).trans x3
 obtain ⟨V',H',m3,b1,b2,b3,b4,b5⟩:=tG (σ:=T4 τ (2 ^ q)) (j:=σ.n) (ys:=ys) ys.length 0 W id m2 (by lia) gW fresh_lay oQ rfl (fun c hcc=>hc c ((x4.mem c).mp hcc)) x4.left (by rw [hWm];lia)
  (fun z=>by obtain ⟨z1,z2⟩:=hauto z;rw [hWm,z1];exact ⟨rfl,by lia⟩) hownW hT B1
 have hlen100:ys.length+1<=100:=by rcases hq with rfl | rfl<;>lia
 refine ⟨T4 τ (2 ^ q),V',H',m3,⟨⟨by rw [T4_n,hτn];have:=x1.n;lia,fun k k1 k2=>?_⟩,by rw [b1];show σ.n<=τ.n;rw [hτn];lia,by rw [b1,T4_n];show τ.n+10<τ.n+11;lia,by rw [b1];rfl,by rw [b1];rfl,by rw [b1];rfl,by rw [b1];rfl,by rw [b4,hlenS]⟩,b2,b3.alike x4,?_⟩
 ·rw [(T4_ext (τ:=τ) (m:=2 ^ q)).same k (by rw [hτn];have:=x1.n;lia)]
  exact (cY (V:=V0) k2).trans (x1.same k k1)
 ·unfold rJ
  have hp:=evProp (σ:=σ) (v:=.none) l1
  have hsh:binF .LShift (kF (.int 1)) (varF "quotient") l (qf σ V)=some (.int ((2 ^ q:Nat):Int),qf σ V):=bU (f:=kF (.int 1)) rfl (aB l2) (by rcases hq with rfl | rfl<;>rfl)
  have h2q:((2 ^ q:Nat):Int)=2 ^ q:=by simp
  have hno:decide (V.n>=((2 ^ q:Nat):Int))=false:=decide_eq_false (by lia)
  refine seqN (ifF (bD hp hsh (congrArg some hno)) rfl) ?_
  have h3:cmpV .Lt (.int (q:Int)) (.int 3)=some false:=by rcases hq with rfl | rfl<;>rfl
  have h4:cmpV .Gt (.int (q:Int)) (.int 31)=some false:=by rcases hq with rfl | rfl<;>rfl
  refine seqN (ifF (qP (bD (aB l2) rfl h3) (bD (aB l2) rfl h4)) rfl) ?_
  have hgh:aF 467 "get_hashes" aV (varF "self") nilL l (qf σ V)=some (.ref σ.n,qf σ1 V):=by
   exact cE (aB l1) qf_i rfl rfl x5
  refine seqN (aT hgh) ?_
  refine seqN (l':=m2) (σ₁:=τ) ?_ ?_
  ·have ha:aA (aC 467 "_size" (varF "self")) nilL m1 (qf σ1 V)=some ([.int (V.m:Int)],qf σ1 V):=by
    exact lst1 (evA (aB A1) qf_i rfl)
   exact lL (n:=V.m) (by lia) ha z1
  refine seqN (cM (v:=.none) (σ':=qf (T4 τ (2 ^ q)) W) ?_) ?_
  ·have ha:aA (varF "quotient") (aA (aC 467 "_auto_resize" (varF "self")) (aA (aC 467 "_hash_func" (varF "self")) nilL)) m2 τ=some ([.int q,.bool V.auto,.fn V.hf],τ):=by
    exact lstC (aB B2) (lst2 (evA (aB B1) hτi rfl) (evA (aB B1) hτi rfl))
   exact cE (aB B1) hτi rfl ha hsp
  ·refine evForL (aB B3) ?_
   have:=forL_more (99 - ys.length) (ys.length+1) 0 b5
   rwa [show ys.length+1+(99 - ys.length)=100 by lia] at this
end
section
variable {σ:Sto} {V:View} {H:Int->Int} {l:Loc} {S:List Int}
theorem pA:lT=seqB (ifS (cmpT .Is (varF "quotient") (kF .none)) (setF "quotient" (binF .Add (aC 467 "_q" (varF "self")) (kF (.int 1)))) nilB) rJ:=rfl
theorem nN:jY=seqB (ifS (cmpT .Is (varF "quotient") (kF .none)) (setF "quotient" (binF .Add (aC 467 "_q" (varF "self")) (kF (.int 1)))) nilB) rJ:=rfl
theorem lA (h:Good V) (L:Lay V H) (R:Rep V H S) (hc:∀ c∈S,bW c) (h3:V.q=3) (hi:V.i<σ.n) (hb:V.b+10<σ.n) (hn:V.n<16) (hS:S.length<=13) :
  ∃ σ' V' H',Rz V V' σ σ' 4 S.length/\Lay V' H'/\Rep V' H' S/\fG [.ref V.i] (qf σ V)=some (.none,qf σ' V'):=by
 let l:=aJ ["self","quotient"] [.ref V.i,.none]
 have l1:l "self"=some (.ref V.i):=rfl
 have l2:l "quotient"=some .none:=rfl
 let m:=l.put "quotient" (.int (4:Nat))
 have m1:m "self"=some (.ref V.i):=rfl
 have m2:m "quotient"=some (.int (4:Nat)):=rfl
 obtain ⟨σ',V',H',l',a1,a9,a10,a11⟩:=kY (σ:=σ) (q:=4) h L R hc (.inr rfl) hi hb (by lia) (by lia) (fun _=>⟨rfl,hS⟩) m1 m2
 refine ⟨σ',V',H',a1,a9,a10,?_⟩
 have hst:setF "quotient" (binF .Add (aC 467 "_q" (varF "self")) (kF (.int 1))) l (qf σ V)=some (.next,m,qf σ V):=by
  refine aT ?_
  exact bU (evA (aB l1) qf_i rfl) rfl (by rw [h3];rfl)
 have ht:cmpT .Is (varF "quotient") (kF .none) l (qf σ V)=some (true,qf σ V):=bD (aB l2) rfl rfl
 show bQ ["self","quotient"] lT [.ref V.i,.none] (qf σ V)=_
 refine bC (l':=l') rfl ?_
 rw [pA]
 exact seqN ((fK ht).trans hst) a11
theorem oA (h:Good V) (L:Lay V H) (R:Rep V H S) (hc:∀ c∈S,bW c) (hi:V.i<σ.n) (hb:V.b+10<σ.n) (hn:V.n<8) (hS:S.length<8) (ha:V.auto=false) :
  ∃ σ' V' H',Rz V V' σ σ' 3 S.length/\Lay V' H'/\Rep V' H' S/\dX [.ref V.i,.int 3] (qf σ V)=some (.none,qf σ' V'):=by
 let l:=aJ ["self","quotient"] [.ref V.i,.int 3]
 have l1:l "self"=some (.ref V.i):=rfl
 have l2:l "quotient"=some (.int (3:Nat)):=rfl
 obtain ⟨σ',V',H',l',a1,a9,a10,a11⟩:=kY (σ:=σ) (q:=3) h L R hc (.inl rfl) hi hb (by lia) (by lia) (fun z=>by rw [ha] at z;cases z) l1 l2
 refine ⟨σ',V',H',a1,a9,a10,?_⟩
 have ht:cmpT .Is (varF "quotient") (kF .none) l (qf σ V)=some (false,qf σ V):=bD (aB l2) rfl rfl
 show bQ ["self","quotient"] jY [.ref V.i,.int 3] (qf σ V)=_
 refine bC (l':=l') rfl ?_
 rw [nN]
 exact seqN (l':=l) (σ₁:=qf σ V) ((cC ht).trans rfl) a11
theorem pQ (h:Good V) (L:Lay V H) (R:Rep V H S) (hS:∀ c∈S,bW c) {c:Int} (hc:bW c) (h3:V.q=3) (hi:V.i<σ.n) (hb:V.b+10<σ.n) (hn:V.n<16) (hn7:7<=V.n) (hlen:S.length<=13) (ha:V.auto=true) :
  ∃ σ' V' H',ExtV V σ σ'/\σ.n<=V'.b/\V'.b+10<σ'.n/\V'.i=V.i/\V'.q=4/\V'.auto=V.auto/\V'.hf=V.hf/\V'.n=((adds S c).length:Int)/\Lay V' H'/\Rep V' H' (adds S c)/\aS [.ref V.i,.int c] (qf σ V)=some (.none,qf σ' V'):=by
 obtain ⟨σ',V1,H1,Z,L1,R1,hr⟩:=lA (σ:=σ) h L R hS h3 hi hb hn hlen
 have g1:Good V1:=⟨by rw [Z.i];exact Nat.lt_of_lt_of_le hi Z.lo,.inr Z.q⟩
 have hm:V1.m=16:=by unfold View.m;rw [Z.q]
 let l:=aJ ["self","_hash"] [.ref V.i,.int c]
 have l1:l "self"=some (.ref V.i):=rfl
 have l2:l "_hash"=some (.int c):=rfl
 obtain ⟨V',H',l',a1,a2,a3,a4⟩:=kH (σ:=σ') g1 L1 R1 hc (l:=l) (by rw [Z.i];exact l1) l2 (.inr ⟨by lia,by rw [Z.n,hm];lia⟩)
 refine ⟨σ',V',H',Z.ext,by rw [a1];exact Z.lo,by rw [a1];exact Z.hi,by rw [a1];exact Z.i,by rw [a1];exact Z.q,by rw [a1];exact Z.auto,by rw [a1];exact Z.hf,?_,a2,a3,?_⟩
 ·rw [a1]
  show (if c∈S then V1.n else V1.n+1)=_
  rw [Z.n]
  unfold adds
  by_cases q:c∈S
  ·rw [if_pos q,if_pos q]
  ·rw [if_neg q,if_neg q];simp
 ·have hm8:V.m=8:=by unfold View.m;rw [h3]
  have g:=gV (σ:=σ) h l1 (by lia)
  rw [ha,hm8] at g
  have hb8:(true && decide (85*((8:Nat):Int)<=100*V.n))=true:=by
   have:85*((8:Nat):Int)<=100*V.n:=by lia
   simp only [Bool.true_and];exact decide_eq_true this
  rw [hb8] at g
  have hcall:aU (aF 467 "resize" fG (varF "self") nilL) l (qf σ V)=some (.next,l,qf σ' V1):=by
   exact cM (v:=.none) (cE (aB l1) qf_i rfl rfl hr)
  refine bC (l':=l') rfl ?_
  exact seqN (l':=l) (σ₁:=qf σ' V1) ((fK g).trans hcall) a4
end
section
variable {σ:Sto} {V:View} {H:Int->Int} {l:Loc} {S:List Int}
theorem lQ (a:Int) (h0:0<=a) (h1:a<1000):aY [.int a] σ=some (.int (code a),σ):=by
 have e1:(a%8).natAbs<18446744073709551616:=by lia
 have e2:(a / 8).natAbs<18446744073709551616:=by lia
 have k:∀ {i:Int} {l:Loc},kF (.int i) l σ=some (.int i,σ):=rfl
 exact fRet rfl (eX (bU (bU (bU (bU (aB rfl) k (bMod (by decide))) k (bMul (lt64 e1))) (bU (bU (aB rfl) k (bDiv (by decide))) k (bMul (lt64 e2))) rfl) (bU (aB rfl) k (bMod (by decide))) rfl))
noncomputable def letter (a:Nat):Str:=⟨#[97+a]⟩
theorem hsh {y:Str} {c:Nat} {d a:Int} (hk:l "key"=some (.str y)) (hx:y.cps[0]?=some c) (ha:((c:Int) - d)%24=a) (h0:0<=a) (h2:a<1000) :
  retS (fnF aY (aA (binF .Mod (binF .Sub (ordF (chrF (varF "key") (kF (.int 0)))) (kF (.int d))) (kF (.int 24))) nilL)) l σ=some (.ret (.int (code a)),l,σ):=by
 have h1:ordF (chrF (varF "key") (kF (.int 0))) l σ=some (.int c,σ):=evOrd (evChr (j:=0) (aB hk) rfl ⟨by decide,by decide⟩ hx) rfl
 have h3:binV .Mod (.int ((c:Int) - d)) (.int 24)=some (.int a):=congrArg (fun z=>some (Val.int z)) ha
 exact eX (bnd (lst1 (bU (bU h1 (g:=kF (.int d)) rfl rfl) (g:=kF (.int 24)) rfl h3)) (lQ a h0 h2))
theorem hash_call (a:Nat) (h1:a<24) (v:Val):fJ [.str (letter a),v] σ=some (.int (code a),σ):=
 fRet rfl (hsh (c:=97+a) (d:=97) rfl rfl (by lia) (by lia) (by lia))
theorem evHash {a:Nat} (ha:a<24) (hf:V.hf=485) (hs:l "self"=some (.ref V.i)) (hk:l "key"=some (.str (letter a))) :
  fldF 467 "_hash_func" hashTab (varF "self") (aA (varF "key") (aA (kF (.int 0)) nilL)) l (qf σ V)=some (.int (code a),qf σ V):=by
 have hg:getF V.fs "_hash_func"=some (.fn 485):=by rw [<- hf];rfl
 have ht:hashTab.find? (fun t=>t.1 == 485)=some (485,fJ):=rfl
 have hx:aA (varF "key") (aA (kF (.int 0)) nilL) l (qf σ V)=some ([.str (letter a),.int 0],qf σ V):=by
  exact lst2 (aB hk) rfl
 exact evFld (aB hs) qf_i hg ht hx (hash_call a ha (.int 0))
theorem rV {a:Nat} {τ:Sto} {m:FF} {b:SF} {name:String} (ha:a<24) (hf:V.hf=485) (hx:getF V.fs name=none) (hm:m [.ref V.i,.int (code a)] (qf σ V)=some (.none,τ))
  (hb:b=seqB (setF "_hash" (fldF 467 "_hash_func" hashTab (varF "self") (aA (varF "key") (aA (kF (.int 0)) nilL)))) (aU (aF 467 name m (varF "self") (aA (varF "_hash") nilL)))) :
  bQ ["self","key"] b [.ref V.i,.str (letter a)] (qf σ V)=some (.none,τ):=by
 let l:=aJ ["self","key"] [.ref V.i,.str (letter a)]
 have l1:l "self"=some (.ref V.i):=rfl
 have l2:l "key"=some (.str (letter a)):=rfl
 refine bC (l':=l.put "_hash" (.int (code a))) rfl ?_
 rw [hb]
 exact seqN (aT (evHash ha hf l1 l2)) (cM (jV rfl rfl hx hm))
theorem add_key {a:Nat} {τ:Sto} (ha:a<24) (hf:V.hf=485) (hm:aS [.ref V.i,.int (code a)] (qf σ V)=some (.none,τ)):mL [.ref V.i,.str (letter a)] (qf σ V)=some (.none,τ):=rV ha hf rfl hm rfl
theorem remove_key {a:Nat} {τ:Sto} (ha:a<24) (hf:V.hf=485) (hm:bS [.ref V.i,.int (code a)] (qf σ V)=some (.none,τ)):fY [.ref V.i,.str (letter a)] (qf σ V)=some (.none,τ):=rV ha hf rfl hm rfl
theorem check_key {a:Nat} {τ:Sto} {v:Val} (ha:a<24) (hf:V.hf=485) (hm:aX [.ref V.i,.int (code a)] (qf σ V)=some (v,τ)):iD [.ref V.i,.str (letter a)] (qf σ V)=some (v,τ):=by
 let l:=aJ ["self","key"] [.ref V.i,.str (letter a)]
 have l1:l "self"=some (.ref V.i):=rfl
 have l2:l "key"=some (.str (letter a)):=rfl
 refine eC (l':=l.put "_hash" (.int (code a))) rfl ?_
 show nS l (qf σ V)=_
 unfold nS
 refine seqN (aT (evHash ha hf l1 l2)) ?_
 exact eX (jV (a:="_hash") rfl rfl rfl hm)
end
section
variable {σ τ:Sto} {V:View} {H:Int->Int} {l:Loc} {S:List Int}
theorem contains_key {a:Nat} {v:Val} (ha:a<24) (hf:V.hf=485) (hm:aX [.ref V.i,.int (code a)] (qf σ V)=some (v,τ)):fH [.ref V.i,.str (letter a)] (qf σ V)=some (v,τ):=by
 let l:=aJ ["self","val"] [.ref V.i,.str (letter a)]
 have l1:l "self"=some (.ref V.i):=rfl
 have l2:l "val"=some (.str (letter a)):=rfl
 refine eC (l':=l) rfl ?_
 show lW l (qf σ V)=_
 exact eX (jV l1 l2 rfl (check_key ha hf hm))
theorem init_spec {auto:Bool} {hf:Addr}:fU [.ref σ.n,.int 3,.bool auto,.fn hf] (σ.push (.inst 467 []))=some (.none,qf (T4 (σ.push (.inst 467 [])) 8) (dS 3 auto hf σ.n (σ.n+1))):=by
 let τ:=σ.push (.inst 467 [])
 have hi:τ.get σ.n=.inst 467 []:=bR σ _
 have hsp:=gO (τ:=τ) (i:=σ.n) (fs:=[]) (q:=3) (auto:=auto) (hf:=hf) (.inl rfl) (Nat.lt_succ_self _) hi (.inl rfl)
 let l0:=aJ ["self","quotient","auto_expand","hash_function"] [.ref σ.n,.int 3,.bool auto,.fn hf]
 have l1:l0 "self"=some (.ref σ.n):=rfl
 have l2:l0 "quotient"=some (.int 3):=rfl
 have l3:l0 "auto_expand"=some (.bool auto):=rfl
 have l4:l0 "hash_function"=some (.fn hf):=rfl
 have hc:aU (aF 467 "_QuotientFilter__set_params" cS (varF "self") (aA (varF "quotient") (aA (varF "auto_expand") (aA (varF "hash_function") nilL)))) l0 τ=some (.next,l0,qf (T4 τ 8) (dS 3 auto hf σ.n (σ.n+1))):=by
  have hx:aA (varF "quotient") (aA (varF "auto_expand") (aA (varF "hash_function") nilL)) l0 τ=some ([.int 3,.bool auto,.fn hf],τ):=by
   exact lstC (aB l2) (lst2 (aB l3) (aB l4))
  exact cM (v:=.none) (cE (aB l1) hi rfl hx hsp)
 have ht:orT [(cmpT .Lt (varF "quotient") (kF (.int 3))),(cmpT .Gt (varF "quotient") (kF (.int 31)))] l0 τ=some (false,τ):=by
  exact qP (b:=false) (c:=false) (bD (aB l2) rfl rfl) (bD (aB l2) rfl rfl)
 show bQ ["self","quotient","auto_expand","hash_function"] nR ([.ref σ.n,.int 3,.bool auto,.fn hf] ++ []) τ=_
 refine bC (l':=l0) rfl ?_
 show nR l0 τ=_
 unfold nR
 exact seqN (l':=l0) (σ₁:=τ) ((cC ht).trans rfl) hc
end
noncomputable def gN (ns:List Int):List Int:=ns.mergeSort fun a b=>decide (a<=b)
theorem mD (ns:List Int):(gN ns).Perm ns:=List.mergeSort_perm ..
theorem rG (ns:List Int):(gN ns).Pairwise (·<=·):=by
 have:=List.pairwise_mergeSort (le:=fun a b:Int=>decide (a<=b)) (fun a b c h1 h2=>by simp at h1 h2 |-;lia) (fun a b=>by simp;lia) ns
 exact this.imp fun h=>by simpa using h
theorem kX {ns ms:List Int} (hp:ms.Perm ns) (hs:ms.Pairwise (·<=·)):ms=gN ns:=
 List.Perm.eq_of_pairwise (fun a b _ _ h1 h2=>Int.le_antisymm h1 h2) hs (rG ns) (hp.trans (mD ns).symm)
theorem Alike.perm {S T:List Int} (a:Alike S T):S.Perm T:=(List.perm_ext_iff_of_nodup a.left a.right).mpr a.mem
theorem tB {S T:List Int} (a:Alike S T):gN S=gN T:=kX ((mD S).trans a.perm) (rG S)
end
section
open PySem PySem.W PySem.Calls PyProof.Rows
section
variable {G:G0} {sc:Scope} {d:Nat}
theorem are_vals {ρ:Map} {n:Nat} {vs:List Value} {ns:List Int} (h:IntsAre vs ns):All2 (VR ρ n) (ns.map Val.int) vs:=by
 induction h with
 | nil=>exact .nil
 | cons k t r ih=>exact .cons ⟨t,rfl⟩ ih
noncomputable def cX (f:EF):EF:=fun l σ=>(f l σ).bind fun a=>(asR a.1).bind fun i=>(asL (a.2.get i)).bind fun xs=>if xs.length<64 then (gU xs).map fun ns=>(.ref a.2.n,a.2.push (.list ((gN ns).map Val.int))) else none
theorem pV {f:EF} {l:Loc} {σ σ':Sto} {v:Val} (e:cX f l σ=some (v,σ')):∃ i xs ns σ₁,f l σ=some (.ref i,σ₁)/\σ₁.get i=.list xs/\xs.length<64/\gU xs=some ns/\v=.ref σ₁.n/\σ'=σ₁.push (.list ((gN ns).map Val.int)):=by
 refine obE e fun a h1 e=>obE e fun i h2 e=>obE e fun xs h3 e=>itE e fun h4 e=>omE e fun ns h5 e=>prE e ?_
 exact ⟨i,xs,ns,a.2,prR h1 h2,bN h3,h4,h5,rfl,rfl⟩
theorem SE.sorted {e:Expr} {np p:Pos} {f:EF} (hk:sc.kind=.function) (hx:eG sc "sorted" .globalImplicit) (he:nsIn G.K mainGlobals "sorted"=some Option.none) (h:SE G sc d e f) (hs:∀ env,starEach [e] env=[(false,eval e env)]) :
  SE G sc d (.Call (.Name "sorted" np) [e] [] p) (cX f):=by
 intro y A lm ρ σ s v σ' Q E rm H eq hQ
 obtain ⟨i,xs,ns,σ₁,q1,q2,q3,q4,rfl,rfl⟩:=pV eq
 refine eH hk hx (by decide) he (by decide) (show bootBuiltins "sorted"=some (.builtin "sorted") by decide +kernel) (.inr ⟨_,rfl⟩) H hs (SL.one h hs y p A lm ρ σ s _ _ _ _ rm H q1 fun ρ₁ s₁ va A1 Va=>?_)
 obtain ⟨hi,rfl⟩:=Va
 obtain ⟨vs,hl,r⟩:=A1.rel.isList hi q2
 refine cV (sorted_ints hl (eV r q4) (by rw [<- r.length];exact q3) fun out ns' hI hp hle sz=>?_)
 have e1:=kX hp hle
 subst e1
 obtain ⟨c,hat⟩:=sortedAll_at s₁.heap vs out
 have hout:out=out.toList.toArray:=by simp
 have A2:After G.base noX ρ₁ σ₁ s₁ (iJ ρ₁ σ₁.n fun _=>s₁.heap.objs.size+1) (σ₁.push (.list ((gN ns).map Val.int))) { s₁ with heap:=sortedAll s₁.heap vs out,toks:=s₁.toks }:=by
  refine After.push A1.rel (fun a x e=>sortedAll_old e) sz ⟨out.toList,⟨c,?_⟩,are_vals hI⟩ (fun _ _=>Nat.le_succ _) (fun k l hk hl _=>by simp [nc] at hk hl;lia)
  rw [show iJ ρ₁ σ₁.n (fun _=>s₁.heap.objs.size+1) σ₁.n=fun _=>s₁.heap.objs.size+1 from if_pos rfl,<- hout]
  exact hat
 exact hQ _ _ _ (A1.trans A2) ⟨Nat.lt_succ_self _,by rw [show iJ ρ₁ σ₁.n (fun _=>s₁.heap.objs.size+1) σ₁.n=fun _=>s₁.heap.objs.size+1 from if_pos rfl]⟩
end
section
variable {G:G0} {sc:Scope} {d:Nat}
noncomputable def inObT (C:Addr) (g:FF) (f h:EF):TF:=fun l σ=>(f l σ).bind fun a=>(h l a.2).bind fun b=>(asR b.1).bind fun i=>(asO C (b.2.get i)).bind fun _=>(g [.ref i,a.1] b.2).bind fun r=>(truV r.1).map fun t=>(t,r.2)
theorem inObT_inv {C:Addr} {g:FF} {f h:EF} {l:Loc} {σ σ':Sto} {t:Bool} (e:inObT C g f h l σ=some (t,σ')):∃ a i fs σ₁ σ₂,f l σ=some (a,σ₁)/\h l σ₁=some (.ref i,σ₂)/\σ₂.get i=.inst C fs/\g [.ref i,a] σ₂=some (.bool t,σ'):=by
 refine obE e fun a h1 e=>obE e fun b h2 e=>obE e fun i h3 e=>obE e fun fs h4 e=>obE e fun r h5 e=>omE e fun u h6 e=>prE e ?_
 exact ⟨a.1,i,fs,a.2,b.2,h1,prR h2 h3,dF h4,by rw [h5,<- gL h6]⟩
theorem SE.inOb {C fa:Addr} {g:FF} {e1 e2:Expr} {p:Pos} {f h:EF} (hf:findIn G.K (.ref C) "__contains__"=some (some (.ref fa))) (hfn:isFn G.K (.ref fa)=true) (F:FnOK G d fa g) (h1:SE G sc d e1 f) (h2:SE G sc d e2 h) (hm:behindInMarks .In e2=false) :
  SE G sc d (.Compare e1 [.In] [e2] p) (fun l σ=>(inObT C g f h l σ).map fun r=>(.bool r.1,r.2)):=by
 intro y A lm ρ σ s v σ' Q E rm H eq hQ
 obtain ⟨⟨t,σ₃⟩,eq1,eq2⟩:=omx eq
 cases eq2
 obtain ⟨a,i,fs,σ₁,σ₂,q1,q2,q3,q4⟩:=inObT_inv eq1
 refine wpAny_Compare1 (h1 y A lm ρ σ s a σ₁ _ _ rm H q1 fun ρ₁ s₁ va A1 Va=>?_) hm
 refine h2 y A lm ρ₁ σ₁ s₁ _ _ _ _ rm (H.step A1) q2 fun ρ₂ s₂ vb A2 Vb=>?_
 obtain ⟨hi,rfl⟩:=Vb
 obtain ⟨es,ep,I,r⟩:=A2.rel.inst hi q3
 obtain ⟨m,Fm⟩:=((H.step A1).step A2).fr
 refine in_K Fm G.ok.X I hf hfn (wpAny_call (F A ρ₂ σ₂ s₂ _ _ _ _ _ rm A2.rel (.cons (show VR ρ₂ σ₂.n (.ref i) _ from ⟨hi,rfl⟩) (.cons (Va.after A2) .nil)) q4 fun ρ' s' val A3 hv=>?_))
 cases hv
 exact wpAny_truthy_bool (hQ _ _ _ ((A1.trans A2).trans A3) rfl)
end
section
variable {G:G0} {sc:Scope} {d:Nat}
noncomputable def addLF (f g:EF):EF:=fun l σ=>(f l σ).bind fun a=>(g l a.2).bind fun b=>(asR a.1).bind fun i=>(asR b.1).bind fun j=>(asL (b.2.get i)).bind fun xs=>(asL (b.2.get j)).bind fun ys=>if xs.length+ys.length<=1000 then some (.ref b.2.n,b.2.push (.list (xs ++ ys))) else none
theorem addLF_inv {f g:EF} {l:Loc} {σ σ':Sto} {v:Val} (e:addLF f g l σ=some (v,σ')):∃ i j xs ys σ₁ σ₂,f l σ=some (.ref i,σ₁)/\g l σ₁=some (.ref j,σ₂)/\σ₂.get i=.list xs/\σ₂.get j=.list ys/\xs.length+ys.length<=1000/\v=.ref σ₂.n/\σ'=σ₂.push (.list (xs ++ ys)):=by
 refine obE e fun a h1 e=>obE e fun b h2 e=>obE e fun i h3 e=>obE e fun j h4 e=>obE e fun xs h5 e=>obE e fun ys h6 e=>itE e fun h7 e=>prE (Option.some.inj e) ?_
 exact ⟨i,j,xs,ys,a.2,b.2,prR h1 h3,prR h2 h4,bN h5,bN h6,h7,rfl,rfl⟩
theorem SE.addL {l r:Expr} {p:Pos} {f g:EF} (hl:SE G sc d l f) (hr:SE G sc d r g):SE G sc d (.BinOp l .Add r p) (addLF f g):=by
 intro x A lm ρ σ s v σ' Q E rm H e hQ
 obtain ⟨i,j,xs,ys,σ₁,σ₂,q1,q2,q3,q4,q5,rfl,rfl⟩:=addLF_inv e
 refine wpAny_BinOp (hl x A lm ρ σ s _ σ₁ _ _ rm H q1 fun ρ₁ s₁ va A1 Va=>?_)
 refine hr x A lm ρ₁ σ₁ s₁ _ _ _ _ rm (H.step A1) q2 fun ρ₂ s₂ vb A2 Vb=>?_
 obtain ⟨hi,rfl⟩:=Va.after A2
 obtain ⟨hj,rfl⟩:=Vb
 obtain ⟨vs,n,hp,r⟩:=A2.rel.plain hi q3
 obtain ⟨us,m,hp',r'⟩:=A2.rel.plain hj q4
 obtain ⟨ρ',A3,v3⟩:=fB (X:=noX) (t:=s₂.toks) (n:=0) A2.rel (r.append r')
 have hlen:vs.toArray.size+us.toArray.size<=sizeLine:=by rw [List.size_toArray,List.size_toArray,<- r.length,<- r'.length,sizeLine_eq];lia
 have e2:(vs ++ us).toArray=vs.toArray ++ us.toArray:=by simp
 rw [e2] at A3
 exact PySem.P.add_list hp hp' (hQ _ _ _ ((A1.trans A2).trans A3) v3) hlen
end
theorem mG {α:Type} (xs:List α) (a b:Nat) (hb:b<=xs.length):((List.range (b - a)).map (a+·)).filterMap (xs.toArray[·]?)=(xs.drop a).take (b - a):=by
 apply List.ext_getElem?
 intro k
 have key:∀ (n a:Nat),a+n<=xs.length->((List.range n).map (a+·)).filterMap (xs.toArray[·]?)=(xs.drop a).take n:=by
  intro n
  induction n with
  | zero=>intro a _;simp
  | succ n ih=>
   intro a h
   rw [List.range_succ,List.map_append,List.filterMap_append,ih a (by lia)]
   have hx:xs[a+n]?=some xs[a+n]:=List.getElem?_eq_getElem (by lia)
   have e1:([n].map (a+·)).filterMap (xs.toArray[·]?)=[xs[a+n]]:=by simp [hx]
   rw [e1,List.take_succ_eq_append_getElem (by simp;lia)]
   simp
 by_cases h:a<=b
 ·rw [key (b - a) a (by lia)]
 ·have:b - a=0:=by lia
  rw [this];simp
theorem oF (vs:List Value) (k:Nat):slicePick vs.toArray none (some (k:Int)) none=(vs.take k).toArray:=by
 unfold slicePick
 have e:sliceBounds none (some (k:Int)) none vs.toArray.size=(0,((min k vs.length:Nat):Int),1):=by
  unfold sliceBounds
  simp only [Option.getD_none,List.size_toArray]
  have h1:¬ (k:Int)<0:=by lia
  simp [h1]
  lia
 rw [e]
 have h2:=sliceRange_one 0 (min k vs.length)
 have h3:=mG vs 0 (min k vs.length) (Nat.min_le_right ..)
 have h4:sliceRange (0,((min k vs.length:Nat):Int),(1:Int)).1 (0,((min k vs.length:Nat):Int),(1:Int)).2.1 (0,((min k vs.length:Nat):Int),(1:Int)).2.2=(List.range (min k vs.length - 0)).map (0+·):=h2
 rw [h4,h3]
 simp
theorem pick_drop (vs:List Value) (k:Nat):slicePick vs.toArray (some (k:Int)) none none=(vs.drop k).toArray:=by
 unfold slicePick
 have e:sliceBounds (some (k:Int)) none none vs.toArray.size=(((min k vs.length:Nat):Int),(vs.length:Int),1):=by
  unfold sliceBounds
  simp only [Option.getD_none,List.size_toArray]
  have h1:¬ (k:Int)<0:=by lia
  simp [h1]
  lia
 rw [e]
 have h2:=sliceRange_one (min k vs.length) vs.length
 have h3:=mG vs (min k vs.length) vs.length (Nat.le_refl _)
 have h4:sliceRange (((min k vs.length:Nat):Int),(vs.length:Int),(1:Int)).1 (((min k vs.length:Nat):Int),(vs.length:Int),(1:Int)).2.1 (((min k vs.length:Nat):Int),(vs.length:Int),(1:Int)).2.2=(List.range (vs.length - min k vs.length)).map (min k vs.length+·):=h2
 rw [h4,h3]
 by_cases q:k<=vs.length
 ·rw [Nat.min_eq_left q,List.take_of_length_le (by simp)]
 ·rw [Nat.min_eq_right (by lia),List.drop_of_length_le (by lia),List.drop_of_length_le (by lia)];simp
section
variable {G:G0} {sc:Scope} {d:Nat}
noncomputable def cutF (take:Bool) (k:Nat) (f:EF):EF:=fun l σ=>(f l σ).bind fun a=>(asR a.1).bind fun i=>(asL (a.2.get i)).bind fun xs=>if xs.length<=1000 then some (.ref a.2.n,a.2.push (.list (if take=true then xs.take k else xs.drop k))) else none
theorem sK {take:Bool} {k:Nat} {f:EF} {l:Loc} {σ σ':Sto} {v:Val} (e:cutF take k f l σ=some (v,σ')):∃ i xs σ₁,f l σ=some (.ref i,σ₁)/\σ₁.get i=.list xs/\xs.length<=1000/\v=.ref σ₁.n/\σ'=σ₁.push (.list (if take=true then xs.take k else xs.drop k)):=by
 refine obE e fun a h1 e=>obE e fun i h2 e=>obE e fun xs h3 e=>itE e fun h4 e=>prE (Option.some.inj e) ?_
 exact ⟨i,xs,a.2,prR h1 h2,bN h3,h4,rfl,rfl⟩
theorem All2.take {α β:Type} {R:α->β->Prop} {l l'} (n:Nat) (h:All2 R l l'):All2 R (l.take n) (l'.take n):=by
 induction h generalizing n with
 | nil=>rw [List.take_nil,List.take_nil];exact .nil
 | cons a _ ih=>
  cases n with
  | zero=>exact .nil
  | succ n=>exact .cons a (ih n)
theorem All2.drop {α β:Type} {R:α->β->Prop} {l:List α} {l':List β} (n:Nat) (h:All2 R l l'):All2 R (l.drop n) (l'.drop n):=by
 induction h generalizing n with
 | nil=>rw [List.drop_nil,List.drop_nil];exact .nil
 | cons a b ih=>
  cases n with
  | zero=>exact .cons a b
  | succ n=>exact ih n
end
noncomputable def restr (fr:List String) (l:Loc):Loc:=fun y=>if fr.contains y=true then l y else none
structure Inner (sc csc csc':Scope) (fr:List String):Prop where
 clos:∀ y:Vx,(∀ x∈fr,∃ c,y.cells.lookup (Str.ofString x)=some c)->∃ cl,closureFor csc (y.env sc)=pure cl/\(∀ x c,cl.lookup x=some c->y.cells.lookup x=some c)/\(∀ x∈fr,∃ c,cl.lookup (Str.ofString x)=some c)
 out:∀ x∈fr,sc.names.lookup (Str.ofString x)=some .cell
 inn:∀ x∈fr,csc'.names.lookup (Str.ofString x)=some .cell\/csc'.names.lookup (Str.ofString x)=some .free
 only:∀ x,csc'.names.lookup x=some .cell->∃ z∈fr,x=Str.ofString z
 kind:csc.kind=.function
 kind':csc'.kind=.function
 noc:∀ x∈csc.names,x.2≠.cell
 names:∀ x∈csc.names,x.2=.local->csc.names.lookup x.1=some .local
theorem tV (env:Env):∀ (names:List (Str×NameKind)) (acc:List (Str×Addr)),(∀ x∈names,x.2=.free->∃ c,env.cells.lookup x.1=some c)->(∀ x c,acc.lookup x=some c->env.cells.lookup x=some c)->
  ∃ cl,(forIn names acc (fun (x:Str×NameKind) r=>do
   if (x.2 == NameKind.free)=true then do
    let a <- cellOf env x.1
    pure (ForInStep.yield ((x.1,a) :: r))
   else pure (ForInStep.yield r)):Sem (List (Str×Addr)))=pure cl/\(∀ x c,cl.lookup x=some c->env.cells.lookup x=some c)/\(∀ x,(∃ c,acc.lookup x=some c)\/(x,NameKind.free)∈names->∃ c,cl.lookup x=some c)
:=by
 intro names
 induction names with
 | nil=>exact fun acc _ h2=>⟨acc,rfl,h2,fun x h=>h.elim id fun z=>nomatch z⟩
 | cons nk r ih=>
  intro acc h1 h2
  rw [List.forIn_cons]
  by_cases hk:nk.2=.free
  ·obtain ⟨c,hc⟩:=h1 nk (.head _) hk
   obtain ⟨cl,e,q1,q2⟩:=ih ((nk.1,c) :: acc) (fun x hx=>h1 x (.tail _ hx)) fun x c' hx=>by
    rw [List.lookup_cons] at hx
    by_cases z:x=nk.1
    ·rw [z,beq_self_eq_true] at hx;cases hx;rw [z];exact hc
    ·rw [beq_eq_false_iff_ne.mpr z] at hx;exact h2 x c' hx
   refine ⟨cl,?_,q1,fun x hx=>q2 x ?_⟩
   ·rw [if_pos (beq_iff_eq.mpr hk)]
    unfold cellOf
    rw [hc]
    exact e
   ·by_cases z:x=nk.1
    ·exact .inl ⟨c,by rw [z,List.lookup_cons,beq_self_eq_true]⟩
    ·rcases hx with ⟨c',hx⟩ | hx
     ·exact .inl ⟨c',by rw [List.lookup_cons,beq_eq_false_iff_ne.mpr z];exact hx⟩
     ·rcases List.mem_cons.mp hx with e | hx
      ·exact absurd (congrArg Prod.fst e) z
      ·exact .inr hx
  ·obtain ⟨cl,e,q1,q2⟩:=ih acc (fun x hx=>h1 x (.tail _ hx)) h2
   refine ⟨cl,?_,q1,fun x hx=>q2 x (hx.imp id fun hx=>?_)⟩
   ·rw [if_neg (fun z=>hk (beq_iff_eq.mp z))]
    exact e
   ·rcases List.mem_cons.mp hx with e | hx
    ·exact absurd (congrArg Prod.snd e).symm hk
    ·exact hx
theorem tU {sc csc:Scope} {fr:List String} (h:∀ x,(x,NameKind.free)∈csc.names ↔ ∃ z∈fr,x=Str.ofString z) (y:Vx) (hy:∀ x∈fr,∃ c,y.cells.lookup (Str.ofString x)=some c) :
  ∃ cl,closureFor csc (y.env sc)=pure cl/\(∀ x c,cl.lookup x=some c->y.cells.lookup x=some c)/\(∀ x∈fr,∃ c,cl.lookup (Str.ofString x)=some c):=by
 obtain ⟨cl,e,q1,q2⟩:=tV (y.env sc) csc.names [] (fun x hx hk=>by
  obtain ⟨n,k⟩:=x
  cases hk
  obtain ⟨z,hz,rfl⟩:=(h n).mp hx
  exact hy z hz) (fun x c hx=>by cases hx)
 refine ⟨cl,?_,q1,fun x hx=>q2 _ (.inr ((h _).mpr ⟨x,hx,rfl⟩))⟩
 unfold closureFor
 have e':=congrArg (fun m:Sem (List (Str×Addr))=>m >>= fun r=>(pure r:Sem _)) e
 first
 | exact e
 | (simpa using e)
section
variable {base:Heap} {env cenv:Env} {lm:Loc} {ρ:Map} {σ:Sto} {s:Shared} {sc csc csc':Scope} {fr:List String}
set_option tactic.hygienic true in
theorem Here.inner {h':Heap} {t:Nat} {m:Str->Option Value} (y xi:Vx) (hxc:∀ x c,xi.cells.lookup x=some c->y.cells.lookup x=some c) (hxh:∀ x∈fr,∃ c,xi.cells.lookup (Str.ofString x)=some c) (C:Inner sc csc csc' fr)
  (H:Here base (y.env sc) lm ρ σ s) (hk:∀ b o,s.heap.get? b=some o->h'.get? b=some o) (hz:s.heap.objs.size<=h'.objs.size) (hns:h'.Ns xi.L m) (hL:s.heap.objs.size<=xi.L) :
  Here base (xi.env csc') (restr fr lm) ρ σ { s with heap:=h',toks:=t }:=by
 have B:After base noX ρ σ s ρ σ { s with heap:=h',toks:=t }:=After.grow H.rel hz hk
 have fa:∀ a,aE (xi.env csc') a->a=xi.L\/aE (y.env sc) a:=fun a ha=>ha.imp id fun ⟨x,hx⟩=>.inr ⟨x,hxc x a hx⟩
 refine ⟨B.rel,⟨m,hns,fun x v hv=>?_⟩,fun a ha ho=>?_,fun a ha=>?_,fun a ha=>?_,fun x c hc q=>?_,fun x z c hx hz'=>H.one x z c (hxc _ _ hx) (hxc _ _ hz'),fun x c hc=>?_,fun x hx=>?_⟩
 ·unfold restr at hv
  split at hv<;>first | (cases hv;done) | skip
  rename_i hfr
  have hfr:x∈fr:=by simpa using hfr
  obtain ⟨m₀,_,hl⟩:=H.locs
  obtain ⟨val,va,vr⟩:=hl x v hv
  refine ⟨val,?_,vr.after B⟩
  obtain ⟨c,hc⟩:=hxh x hfr
  rcases va with ⟨va,_⟩ | ⟨_,c',o,hc',ho,hd⟩
  ·have:=C.out x hfr
   rw [show (y.env sc).kindOf (Str.ofString x)=sc.names.lookup (Str.ofString x) from rfl,this] at va
   cases va
  ·have e:c=c':=Option.some.inj ((hxc _ _ hc).symm.trans hc')
   subst e
   exact .inr ⟨C.inn x hfr,c,o,hc,hk _ _ ho,hd⟩
 ·rcases fa a ha with rfl | ha
  ·exact absurd (H.rel.own_lt ho) (Nat.not_lt.mpr hL)
  ·exact H.own a ha ho
 ·rcases fa a ha with rfl | ha
  ·exact Nat.le_trans H.rel.size hL
  ·exact H.low a ha
 ·rcases fa a ha with rfl | ha
  ·exact hns.lt
  ·exact Nat.lt_of_lt_of_le (H.lt a ha) hz
 ·have:=H.lt c (.inr ⟨x,hxc x c hc⟩)
  exact absurd (Nat.lt_of_lt_of_le this hL) (by rw [q];exact Nat.lt_irrefl _)
 ·obtain ⟨v,o,ho,hd⟩:=H.cel x c (hxc _ _ hc)
  exact ⟨v,o,hk _ _ ho,hd⟩
 ·obtain ⟨z,hz',rfl⟩:=C.only x hx
  exact hxh z hz'
set_option tactic.hygienic true in
theorem gM {x:String} {v:Val} {val:Value} {M:Model} {A:Around} {Q:Unit->Shared->Prop} {E:Value->Shared->Prop}
  (H:Here base env lm ρ σ s) (hv:VR ρ σ.n v val) (hk:env.kindOf (Str.ofString x)=some .local) (hf:env.scope.kind=.function)
  (hQ:∀ s',After base (fun a=>a=env.locals) ρ σ s ρ σ s'->Here base env (lm.put x v) ρ σ s'->Q () s'):wpAny M A (storeName env (Str.ofString x) val) Q E s:=by
 obtain ⟨m,ns,hl⟩:=H.locs
 refine wpAny_storeName_local hk ns (fun h' ns' sb=>?_) (by rw [hf];rfl)
 have A1:After base (fun a=>a=env.locals) ρ σ s ρ σ { s with heap:=h',toks:=s.toks+1 }:=
  After.frame (a:=env.locals) H.rel (H.own _ (.inl rfl)) (H.low _ (.inl rfl)) (Nat.le_of_eq sb.1.symm) fun b o hb e=>(sb.2 b hb).trans e
 refine hQ _ A1 ⟨A1.rel,⟨_,ns',fun y u hy=>?_⟩,H.own,H.low,fun a ha=>by show a<h'.objs.size;rw [sb.1];exact H.lt a ha,H.sep,H.one,fun y c hc=>?_,H.has⟩
 ·unfold Loc.put at hy
  split at hy
  ·rename_i q;subst q;cases hy
   exact ⟨val,.inl ⟨hk,if_pos rfl⟩,hv⟩
  ·rename_i q
   obtain ⟨w,va,vr⟩:=hl y u hy
   refine ⟨w,?_,vr⟩
   rcases va with ⟨k1,k2⟩ | ⟨k1,c,o,hc,ho,hd⟩
   ·exact .inl ⟨k1,(if_neg fun z=>q (eD z)).trans k2⟩
   ·exact .inr ⟨k1,c,o,hc,(sb.2 c (H.sep _ c hc)).trans ho,hd⟩
 ·obtain ⟨v₀,o,ho,hd⟩:=H.cel y c hc
  exact ⟨v₀,o,(sb.2 c (H.sep _ c hc)).trans ho,hd⟩
end
section
variable {G:G0} {sc csc csc':Scope} {d:Nat} {fr:List String}
noncomputable def STC (G:G0) (sc:Scope) (d:Nat) (ifs:List Expr) (f:TF):Prop:=
 ∀ (x:Vx) (A:Around) (lm:Loc) (ρ:Map) (σ:Sto) (s:Shared) (b:Bool) (σ':Sto) (Q:Bool->Shared->Prop) (E:Value->Shared->Prop),
  Room A d->Here G.base (x.env sc) lm ρ σ s->f lm σ=some (b,σ')->
  (∀ ρ' s',After G.base noX ρ σ s ρ' σ' s'->Q b s')->
  wpAny (model G.prog G.w) A (forIn ifs true fun c r=>if r=true then do let ok <- isTrue c (x.env sc) (eval c (x.env sc));pure (ForInStep.yield ok) else pure (ForInStep.yield r)) Q E s
theorem STC.nil:STC G sc d [] (fun _ σ=>some (true,σ)):=by
 intro x A lm ρ σ s b σ' Q E rm H e hQ
 cases e
 exact wpAny_tests_nil (hQ _ _ (.refl H.rel))
theorem STC.one {c:Expr} {f:TF} (h:ST G sc d c f):STC G sc d [c] f:=
 fun x A lm ρ σ s b σ' Q E rm H e hQ=>wpAny_tests_one (h x A lm ρ σ s b σ' Q E rm H e hQ)
noncomputable def oV (x:String) (t:TF) (e:EF) (id acc:Nat):Nat->Nat->Loc->Sto->Option Sto
 | 0,_=>fun _ _=>none
 | n+1,i=>fun l σ=>(asL (σ.get id)).bind fun xs=>(xs[i]?).elim (some σ) fun v=>(t (l.put x v) σ).bind fun b=>if b.1=true then (e (l.put x v) b.2).bind fun y=>(nU acc y.1 y.2).bind fun τ=>oV x t e id acc n (i+1) (l.put x v) τ
     else oV x t e id acc n (i+1) (l.put x v) b.2
theorem lI {A:Around} {E:Value->Shared->Prop} {ρ:Map} {σ τ:Sto} {s:Shared} {j:Nat} {v:Val} {val:Value} {Q:Value->Shared->Prop} (R:Rel G.base ρ σ s.heap) (hj:j<σ.n) (hv:VR ρ σ.n v val) (e:nU j v σ=some τ)
  (hQ:∀ s',After G.base noX ρ σ s ρ τ s'->Q .none s'):wpAny (model G.prog G.w) A (call (.builtin "list.append") [.ref (ρ j 0),val]) Q E s:=by
 obtain ⟨zs,q1,q2,rfl⟩:=pO e
 obtain ⟨vs,n,hp,r⟩:=R.plain hj q1
 refine wpAny_call_entry slot_list_append ⟨_,hp,rfl⟩ entry_list_append ?_ (args_list_append _ _)
 show wpAny _ _ (updateSeq (ρ j 0) (·.push val) >>= fun _=>ret .none) _ _ s
 have hsz:vs.toArray.size<=100000:=by rw [List.size_toArray,<- r.length];exact q2
 refine wpAny_bind (wpAny_updateSeq hp rfl (wpAny_pure ⟨.none,rfl,hQ _ ?_⟩) (by rw [sizeLine_eq];lia) (by rw [Array.size_push,sizeLine_eq];lia))
 have q:=PySem.IsL.update hp (fun xs=>xs.push val)
 have q':vs.toArray.push val=(vs ++ [val]).toArray:=by simp
 rw [q'] at q
 exact After.put (k:=0) (t:=s.toks) R hj (by rw [q1];simp [nc]) (by rw [q1];rfl) (Heap.SameBut.update ..) ⟨vs ++ [val],⟨_,q⟩,r.append (.cons hv .nil)⟩
end
section
variable {G:G0} {sc csc csc':Scope} {d:Nat} {fr:List String}
noncomputable def cQ (G:G0) (A:Around) (env:Env) (t:Expr) (ifs:List Expr) (elt:Expr) (acc:Value) (R:Result->Shared->Prop) (I:Nat->Shared->Prop) (n:Nat):Option Value->Shared->Prop:=fun r s=>match r with
 | none=>R (.ok .next) s
 | some v=>wpAny (model G.prog G.w) A (PySem.assign t env v) (fun _ s=>wpAny (model G.prog G.w) A (forIn ifs true fun c r=>if r=true then do let ok <- isTrue c env (eval c env);pure (ForInStep.yield ok) else pure (ForInStep.yield r))
   (fun ok s=>if ok=true then wpAny (model G.prog G.w) A (eval elt env) (fun x s=>wpAny (model G.prog G.w) A (call (.builtin "list.append") [acc,x]) (fun _ s=>∃ m,m<n/\I m s) (nE G A env R) s) (nE G A env R) s else ∃ m,m<n/\I m s) (nE G A env R) s) (nE G A env R) s
theorem compC {A:Around} {env:Env} {x:Str} {px:Pos} {iter elt:Expr} {ifs:List Expr} {sp:Scope} {pos:Pos} {it acc:Value} {R:Result->Shared->Prop} {s:Shared} (I:Nat->Shared->Prop)
  (turn:∀ n s,I n s->wpAny (model G.prog G.w) A (pyNext it) (cQ G A env (.Name x px) ifs elt acc R I n) (nE G A env R) s) (n:Nat) (h:I n s):codeAny (model G.prog G.w) A (.compLoop (.ListComp elt [⟨.Name x px,iter,ifs,0⟩] sp pos) 0 it acc env) R s:=
 codeAny_compLoop_tests I turn n h
inductive CI (G:G0) (env:Env) (I a:Addr) (x:String) (t:TF) (f:EF) (id j:Nat) (ρ:Map) (σ:Sto) (s:Shared) (τ:Sto) (n:Nat) (s':Shared):Prop
 | mk (ρ':Map) (σ':Sto) (l:Loc) (k:Nat) (B:After G.base (fun b=>b=I\/b=env.locals) ρ σ s ρ' σ' s') (H:Here G.base env l ρ' σ' s') (hO:¬ Own ρ' σ' I) (lt:I<s'.heap.objs.size) (it:s'.heap.IsListIter I a k) (e:oV x t f id j n k l σ'=some τ)
theorem comp_loop {x:String} {px:Pos} {iter elt:Expr} {ifs:List Expr} {sp:Scope} {pos:Pos} {t:TF} {f:EF} {y:Vx} {A:Around} {l:Loc} {ρ:Map} {σ τ:Sto} {s:Shared} {id j n:Nat} {I:Addr} {R:Result->Shared->Prop}
  (hk:csc'.kind=.function) (hx:csc'.names.lookup (Str.ofString x)=some .local) (ht:STC G csc' d ifs t) (he:SE G csc' d elt f) (rm:Room A d) (H:Here G.base (y.env csc') l ρ σ s) (hb:G.base.objs.size<=I) (hO:¬ Own ρ σ I) (lt:I<s.heap.objs.size) (hfa:∀ a,aE (y.env csc') a->a≠I)
  (hi:id<σ.n) (hj:j<σ.n) (it:s.heap.IsListIter I (ρ id 0) 0) (eq:oV x t f id j n 0 l σ=some τ) (hR:∀ ρ' s',After G.base (fun b=>b=I\/b=y.L) ρ σ s ρ' τ s'->(∃ m,s'.heap.Ns y.L m)->¬ Own ρ' τ y.L->R (.ok .next) s') :
  codeAny (model G.prog G.w) A (.compLoop (.ListComp elt [⟨.Name (Str.ofString x) px,iter,ifs,0⟩] sp pos) 0 (.ref I) (.ref (ρ j 0)) (y.env csc')) R s:=by
 refine compC (CI G (y.env csc') I (ρ id 0) x t f id j ρ σ s τ) (fun n s₁ hi₁=>byC fun hN=>?_) n ⟨ρ,σ,l,0,.refl H.rel,H,hO,lt,it,eq⟩
 cases hi₁ with | mk ρ₁ σ₁ l₁ k B H hO lt it e=>
 cases n with
 | zero=>cases e
 | succ n=>
 refine obE e fun xs h1 e=>?_
 obtain ⟨vs,hl,rr⟩:=B.rel.isList (Nat.lt_of_lt_of_le hi B.le) (bN h1)
 rw [B.agree id hi] at hl
 refine ocE e (fun q e=>?_) fun v q e=>?_
 ·refine hN (cV (wpAny_pyNext_list_end rm.2.2 it hl (by rw [List.getElem?_toArray,List.getElem?_eq_none_iff,<- rr.length,<- List.getElem?_eq_none_iff];exact q) fun h' eb sz=>?_))
  have B2:After G.base (fun a=>a=I) ρ₁ σ₁ s₁ ρ₁ σ₁ { s₁ with heap:=h',toks:=s₁.toks }:=After.frame B.rel hO hb sz eb
  obtain ⟨m,hm,_⟩:=(H.after B2 hfa).locs
  cases e
  exact hR _ _ (B.trans (B2.weaken fun _ q=>.inl q)) ⟨m,hm⟩ (H.own _ (.inl rfl))
 ·obtain ⟨val,hv,vr⟩:=rr.get q
  refine obE e fun b h2 e=>hN ?_
  refine wpAny_pyNext_list_item it hl (by rw [List.getElem?_toArray];exact hv) fun h' it' sb=>?_
  have B2:After G.base (fun a=>a=I) ρ₁ σ₁ s₁ ρ₁ σ₁ { s₁ with heap:=h',toks:=s₁.toks }:=After.frame B.rel hO hb (Nat.le_of_eq sb.1.symm) fun b o hne e=>(sb.2 b hne).trans e
  refine wpAny_assign_Name (gM (H.after B2 hfa) vr hx hk fun s₂ B3 H3=>?_)
  refine ht y A _ ρ₁ σ₁ s₂ b.1 b.2 _ _ rm H3 h2 fun ρ₄ s₄ B4=>?_
  have B5:=((B.trans (B2.weaken fun _ q=>.inl q)).trans (B3.weaken fun _ q=>.inr q)).trans (B4.weaken (Y:=fun b=>b=I\/b=y.L) fun _ q=>q.elim)
  have B6:=B3.trans (B4.weaken (Y:=fun b=>b=y.L) fun _ q=>q.elim)
  have hIL:I≠y.L:=(hfa y.L (.inl rfl)).symm
  have lt4:=Nat.lt_of_lt_of_eq lt sb.1.symm
  have hO4:¬ Own ρ₄ b.2 I:=fun q=>hO (B6.own_back q lt4)
  have lt5:=Nat.lt_of_lt_of_le lt4 B6.size
  have it4:s₄.heap.IsListIter I (ρ id 0) (k+1):=it'.imp fun o q=>⟨B6.kept I o hIL hO q.1,q.2⟩
  have H4:=H3.step B4
  obtain ⟨b,σ₃⟩:=b
  cases b with
  | false=>exact ⟨n,Nat.lt_succ_self n,ρ₄,σ₃,_,k+1,B5,H4,hO4,lt5,it4,e⟩
  | true=>
   refine byC fun hN=>obE e fun z h3 e=>obE e fun σ₅ h4 e=>hN ?_
   refine he y A _ ρ₄ σ₃ s₄ z.1 z.2 _ _ rm H4 h3 fun ρ₆ s₆ va B7 Va=>?_
   have hj4:=Nat.lt_of_lt_of_le hj B5.le
   rw [show ρ j 0=ρ₆ j 0 from (congrFun ((B7.agree _ hj4).trans (B5.agree _ hj)) 0).symm]
   refine lI B7.rel (Nat.lt_of_lt_of_le hj4 B7.le) Va h4 fun s₈ B8=>?_
   have B9:=B7.trans B8
   exact ⟨n,Nat.lt_succ_self n,ρ₆,σ₅,_,k+1,B5.trans (B9.weaken fun _ q=>q.elim),H4.step B9,fun q=>hO4 (B9.own_back q lt5),Nat.lt_of_lt_of_le lt5 B9.size,it4.imp fun o q=>⟨B9.kept I o (fun q=>q) hO4 q.1,q.2⟩,e⟩
theorem oU {x:String} {px:Pos} {iter elt:Expr} {ifs:List Expr} {pos:Pos} {t:TF} {f:EF} {y:Vx} {A:Around} {lm:Loc} {ρ₁:Map} {σ₁ τ:Sto} {s₁:Shared} {id n:Nat} {RR:Value->Addr->Result->Shared->Prop} {E:Value->Shared->Prop} {cl:List (Str×Addr)}
  (C:Inner sc csc csc' fr) (hrel:∀ y:Vx,relabel csc (y.env sc)=csc') (hx:csc'.names.lookup (Str.ofString x)=some .local) (ht:STC G csc' d ifs t) (he:SE G csc' d elt f) (rm:Room A d)
  (H1:Here G.base (y.env sc) lm ρ₁ σ₁ s₁) (hi:id<σ₁.n) (eq:oV x t f id σ₁.n n 0 (restr fr lm) (σ₁.push (.list []))=some τ)
  (hc1:∀ x c,cl.lookup x=some c->y.cells.lookup x=some c) (hc2:∀ x∈fr,∃ c,cl.lookup (Str.ofString x)=some c)
  (hRR:∀ ρ' s' Ca,After G.base (fun a=>s₁.heap.objs.size<=a) ρ₁ σ₁ s₁ ρ' τ s'->(∃ m,s'.heap.Ns Ca m)->s₁.heap.objs.size<=Ca->¬ Own ρ' τ Ca->σ₁.n<τ.n->RR (.ref (ρ' σ₁.n 0)) Ca (.ok .next) s') :
  wpAny (model G.prog G.w) A (pyIter (.ref (ρ₁ id 0))) (fun it s₂=>wpAny (model G.prog G.w) A (newList []) (fun acc s₃=>wpAny (model G.prog G.w) A (newFunctionEnv csc (y.env sc).globals cl [] (y.env sc).qual none .none (some (y.env sc)))
   (fun cenv s₄=>codeAny (model G.prog G.w) A (.compStart (.ListComp elt [⟨.Name (Str.ofString x) px,iter,ifs,0⟩] csc pos) 0 it acc { cenv with scope:=relabel csc (y.env sc) }) (RR acc cenv.locals) s₄) E s₃) E s₂) E s₁:=by
 obtain ⟨xs₀,hl₀⟩:∃ xs,σ₁.get id=.list xs:=by
  cases n with
  | zero=>cases eq
  | succ n=>exact obE eq fun xs h1 _=>⟨xs,(if_neg (Nat.ne_of_lt hi):(σ₁.push (.list [])).get id=σ₁.get id).symm.trans (bN h1)⟩
 obtain ⟨vs₀,hl,_⟩:=H1.rel.isList hi hl₀
 refine wpAny_pyIter_list hl ?_
 let I:Addr:=s₁.heap.objs.size
 let s₂:Shared:={ s₁ with heap:=s₁.heap.push { cls:=.type "list_iterator",data:=.fields #[.ref (ρ₁ id 0),.int 0 0] } }
 have z2:s₂.heap.objs.size=s₁.heap.objs.size+1:=Heap.size_push ..
 have A2:After G.base noX ρ₁ σ₁ s₁ ρ₁ σ₁ s₂:=After.grow (t:=s₁.toks) H1.rel (by rw [Heap.size_push];exact Nat.le_succ _) fun a o e=>Heap.get?_push_of_some _ e
 have hit2:s₂.heap.IsListIter I (ρ₁ id 0) 0:=⟨_,Heap.get?_push_size _ rfl,rfl,rfl⟩
 obtain ⟨ρ₃,A3,V3⟩:=fB (X:=noX) (t:=s₂.toks) (n:=0) (xs:=[]) (vs:=[]) A2.rel .nil
 let s₃:Shared:={ s₂ with heap:=s₂.heap.push { cls:=.type "list",dict:=none,data:=.seq ([]:List Value).toArray } }
 have A3:After G.base noX ρ₁ σ₁ s₂ ρ₃ (σ₁.push (.list [])) s₃:=A3
 have z3:s₃.heap.objs.size=s₁.heap.objs.size+2:=by show (s₂.heap.push _).objs.size=_;rw [Heap.size_push,z2]
 refine wpAny_newObj_type (wpAny_newFunctionEnv C.noc (by intro y hy;simp at hy) (fun h₁ hns hsb=>?_) C.kind) (by size_fits)
 have hns:h₁.Ns s₃.heap.objs.size (fun x=>([]:List (Str×Value)).reverse.lookup x):=hns
 have hsb:Heap.SameBut s₃.heap.objs.size (s₃.heap.push { cls:=.type "dict",data:=.dict #[] }) h₁:=hsb
 let Ca:Addr:=s₃.heap.objs.size
 let s₄:Shared:={ s₃ with heap:=h₁,toks:=s₃.toks+([]:List (Str×Value)).length }
 have hk4:∀ b o,s₃.heap.get? b=some o->h₁.get? b=some o:=fun b o e=>hsb.extBut b o (Nat.ne_of_lt (Heap.lt_size e)) (Heap.get?_push_of_some _ e)
 have z4:h₁.objs.size=s₁.heap.objs.size+3:=by rw [hsb.1,Heap.size_push,z3]
 have hz4:s₃.heap.objs.size<=h₁.objs.size:=by rw [z4,z3];lia
 have A4:After G.base noX ρ₃ (σ₁.push (.list [])) s₃ ρ₃ (σ₁.push (.list [])) s₄:=After.grow (t:=s₃.toks+([]:List (Str×Value)).length) A3.rel hz4 hk4
 have A14:After G.base noX ρ₁ σ₁ s₁ ρ₃ (σ₁.push (.list [])) s₄:=(A2.trans A3).trans A4
 let xi:Vx:=⟨y.qual,Ca,none,y.cd,cl,y.frame⟩
 have Hc:Here G.base (xi.env csc') (restr fr lm) ρ₃ (σ₁.push (.list [])) s₄:=Here.inner y xi hc1 hc2 C ((H1.step A2).step A3) hk4 hz4 hns (Nat.le_refl _)
 have hIC:I≠Ca:=fun q=>by have:s₁.heap.objs.size=s₃.heap.objs.size:=q;rw [z3] at this;lia
 have eac:(.ref s₂.heap.objs.size:Value)=.ref (ρ₃ σ₁.n 0):=V3.2
 show codeAny _ _ (.compStart _ 0 (.ref I) (.ref s₂.heap.objs.size) { newEnv csc Ca mainGlobals cl y.qual none .none (some (y.env sc)) 0 with scope:=relabel csc (y.env sc) }) (RR (.ref s₂.heap.objs.size) Ca) s₄
 rw [hrel y,eac]
 show codeAny _ _ (.compStart _ 0 (.ref I) (.ref (ρ₃ σ₁.n 0)) (xi.env csc')) (RR (.ref (ρ₃ σ₁.n 0)) Ca) s₄
 have hn3:σ₁.n<(σ₁.push (.list [])).n:=Nat.lt_succ_self _
 have hO4:¬ Own ρ₃ (σ₁.push (.list [])) I:=fun q=>absurd (H1.rel.own_lt (A3.own_back q (z2▸Nat.lt_succ_self _))) (Nat.lt_irrefl _)
 have hfa:∀ a,aE (xi.env csc') a->a≠I:=fun a ha q=>by
  rcases ha with ha | ⟨z,hz⟩
  ·exact hIC (q.symm.trans ha)
  ·exact Nat.ne_of_lt (H1.lt a (.inr ⟨z,hc1 _ _ hz⟩)) q
 have hit:s₄.heap.IsListIter I (ρ₁ id 0) 0:=⟨_,hk4 _ _ (Heap.get?_push_of_some _ (Heap.get?_push_size _ rfl)),rfl,rfl⟩
 have loop:=comp_loop (px:=px) (iter:=iter) (sp:=csc) (pos:=pos) (y:=xi) (R:=RR (.ref (ρ₃ σ₁.n 0)) Ca) C.kind' hx ht he rm Hc H1.rel.size hO4 (by show s₁.heap.objs.size<h₁.objs.size;rw [z4];lia) hfa (Nat.lt_succ_of_lt hi) hn3 (by rw [A14.agree id hi];exact hit) eq
  fun ρ' s' B hns hO=>by
   rw [show ρ₃ σ₁.n 0=ρ' σ₁.n 0 from (congrFun (B.agree _ hn3) 0).symm]
   have z:s₁.heap.objs.size<=s₃.heap.objs.size:=by rw [z3];exact Nat.le_add_right _ _
   exact hRR ρ' s' Ca ((A14.weaken fun _ q=>q.elim).trans (B.weaken fun a ha=>ha.elim (fun q=>Nat.le_of_eq q.symm) fun q=>q▸z)) hns z hO (Nat.lt_of_lt_of_le hn3 B.le)
 exact codeAny_compStart_list loop (wpAny_pyIter_listiter hit loop)
end
section
variable {G:G0} {sc csc csc':Scope} {d:Nat} {fr:List String}
noncomputable def mB (x:String) (fr:List String) (it:EF) (t:TF) (f:EF) (n:Nat):EF:=fun l σ=>(it l σ).bind fun a=>(asR a.1).bind fun i=>(oV x t f i a.2.n n 0 (restr fr l) (a.2.push (.list []))).map fun τ=>(.ref a.2.n,τ)
theorem oW {x:String} {fr:List String} {it:EF} {t:TF} {f:EF} {n:Nat} {l:Loc} {σ τ:Sto} {v:Val} (e:mB x fr it t f n l σ=some (v,τ)) :
  ∃ i σ₁,it l σ=some (.ref i,σ₁)/\oV x t f i σ₁.n n 0 (restr fr l) (σ₁.push (.list []))=some τ/\v=.ref σ₁.n:=by
 refine obE e fun a h1 e=>obE e fun i h2 e=>omE e fun τ' h3 e=>prE e ?_
 exact ⟨i,a.2,prR h1 h2,h3,rfl⟩
theorem Here.clos {y:Vx} {lm:Loc} {ρ:Map} {σ:Sto} {s:Shared} {base:Heap} (C:Inner sc csc csc' fr) (H:Here base (y.env sc) lm ρ σ s) :
  ∃ cl,closureFor csc (y.env sc)=pure cl/\(∀ x c,cl.lookup x=some c->y.cells.lookup x=some c)/\(∀ x∈fr,∃ c,cl.lookup (Str.ofString x)=some c):=
 C.clos y fun x hx=>H.has _ (C.out x hx)
theorem SE.comp {x:String} {px:Pos} {iter elt:Expr} {ifs:List Expr} {pos:Pos} {t:TF} {f it:EF} (n:Nat) (C:Inner sc csc csc' fr) (hrel:∀ y:Vx,relabel csc (y.env sc)=csc') (hx:csc'.names.lookup (Str.ofString x)=some .local) (hi:SE G sc d iter it) (ht:STC G csc' d ifs t)
  (he:SE G csc' d elt f) (hs:∀ env x,foldedSetIterable iter env x=pure x):SE G sc d (.ListComp elt [⟨.Name (Str.ofString x) px,iter,ifs,0⟩] csc pos) (mB x fr it t f n):=by
 intro y A lm ρ σ s v τ Q E rm H eq hQ
 obtain ⟨i,σ₁,q1,q2,rfl⟩:=oW eq
 obtain ⟨cl,hcl,hc1,hc2⟩:=H.clos C
 rw [eval_ListComp]
 refine wpAny_comprehension_free (use:=Option.none) rfl (hs _) hcl C.kind C.names (hi y A lm ρ σ s _ _ _ _ rm H q1 fun ρ₁ s₁ va A1 Va=>?_)
 obtain ⟨hin,rfl⟩:=Va
 refine oU (RR:=fun acc Ca=>compPost (model G.prog G.w) A E Option.none Q acc Ca) C hrel hx ht he rm (H.step A1) hin q2 hc1 hc2 fun ρ' s' Ca B hns hlt hO hn=>?_
 obtain ⟨m,hm⟩:=hns
 refine ⟨m,hm,fun h' hsb=>?_⟩
 have B2:After G.base (fun a=>a=Ca) ρ' τ s' ρ' τ { s' with heap:=h',toks:=s'.toks }:=After.frame B.rel hO (Nat.le_trans A1.rel.size hlt) (Nat.le_of_eq hsb.1.symm) fun b o hne e=>(hsb.2 b hne).trans e
 have B3:=B.trans (B2.weaken (Y:=fun a=>s₁.heap.objs.size<=a) fun a ha=>by rw [ha];exact hlt)
 exact hQ ρ' _ _ (A1.trans (B3.drop fun a ha=>.inr ha)) ⟨hn,rfl⟩
theorem SS.comp {x z:String} {px pz:Pos} {iter elt:Expr} {ifs:List Expr} {pos p:Pos} {t:TF} {f it:EF} (n:Nat) (C:Inner sc csc csc' fr) (hrel:∀ y:Vx,relabel csc (y.env sc)=csc') (hx:csc'.names.lookup (Str.ofString x)=some .local) (hi:SE G sc d iter it) (ht:STC G csc' d ifs t)
  (he:SE G csc' d elt f) (hs:∀ env x,foldedSetIterable iter env x=pure x) (hk:sc.kind=.function) (hz:sc.names.lookup (Str.ofString z)=some .local)
  (hsw:∀ y:Vx,swapsWith (.ListComp elt [⟨.Name (Str.ofString x) px,iter,ifs,0⟩] csc pos) (some (.Name (Str.ofString z) pz)) p.line (y.env sc)=pure true) :
  SS G sc d (.Assign [.Name (Str.ofString z) pz] (.ListComp elt [⟨.Name (Str.ofString x) px,iter,ifs,0⟩] csc pos) p) (setF z (mB x fr it t f n)):=by
 intro y A lm ρ σ s fl lm' τ Q E rm H eq hQ
 obtain ⟨⟨v,τ'⟩,eq1,eq2⟩:=omx eq
 cases eq2
 obtain ⟨i,σ₁,q1,q2,rfl⟩:=oW eq1
 obtain ⟨cl,hcl,hc1,hc2⟩:=H.clos C
 rw [exec_Assign_Name_used _ _ _ _ (hsw y)]
 refine wpAny_bind (wpAny_standAt (wpAny_bind ?_))
 show wpAny _ A (do let _ <- comprehension (.ListComp elt [⟨.Name (Str.ofString x) px,iter,ifs,0⟩] csc pos) csc (y.env sc) _ (newList []) false (eval iter (y.env sc)) (some (PySem.assign (.Name (Str.ofString z) pz) (y.env sc)))) _ _ s
 refine wpAny_bind (wpAny_mono (wpAny_comprehension_free (use:=some (PySem.assign (.Name (Str.ofString z) pz) (y.env sc))) (Q:=fun _ s'=>Q .next s') rfl (hs _) hcl C.kind C.names (hi y A lm ρ σ s _ _ _ _ rm H q1 fun ρ₁ s₁ va A1 Va=>?_)) (fun _ s' hq=>wpAny_pure (wpAny_pure hq)) fun _ _ e=>e)
 obtain ⟨hin,rfl⟩:=Va
 have H1:=H.step A1
 refine oU (RR:=fun acc Ca=>compPost (model G.prog G.w) A E (some (PySem.assign (.Name (Str.ofString z) pz) (y.env sc))) (fun _ s'=>Q .next s') acc Ca) C hrel hx ht he rm H1 hin q2 hc1 hc2 fun ρ' s' Ca B hns hlt hO hn=>?_
 obtain ⟨m,hm⟩:=hns
 have H2:=H1.after B fun a ha q=>absurd (H1.lt a ha) (Nat.not_lt.mpr q)
 have hCF:Ca≠(y.env sc).locals:=fun q=>absurd (H1.lt _ (.inl rfl)) (Nat.not_lt.mpr (by rw [<- q];exact hlt))
 have hfa:∀ a,aE (y.env sc) a->a≠Ca:=fun a ha q=>absurd (H1.lt a ha) (Nat.not_lt.mpr (by rw [q];exact hlt))
 show wpAny _ A (PySem.assign (.Name (Str.ofString z) pz) (y.env sc) (.ref (ρ' σ₁.n 0))) _ _ _
 refine wpAny_assign_Name (gM (v:=.ref σ₁.n) H2 ⟨hn,rfl⟩ hz hk fun s₃ A3 H3=>?_)
 have hm3:s₃.heap.Ns Ca m:=by
  obtain ⟨o,es,ep,ho,r⟩:=hm
  exact ⟨o,es,ep,A3.kept Ca o hCF hO ho,r⟩
 refine ⟨m,hm3,fun h' hsb=>?_⟩
 have B2:After G.base (fun a=>a=Ca) ρ' τ' s₃ ρ' τ' { s₃ with heap:=h',toks:=s₃.toks }:=After.frame A3.rel hO (Nat.le_trans A1.rel.size hlt) (Nat.le_of_eq hsb.1.symm) fun b o hne e=>(hsb.2 b hne).trans e
 let Y:Addr->Prop:=fun a=>aE (y.env sc) a\/s₁.heap.objs.size<=a
 have B3:=(B.weaken (Y:=Y) fun a ha=>.inr ha).trans ((A3.weaken (Y:=Y) fun a ha=>.inl (.inl ha)).trans (B2.weaken (Y:=Y) fun a ha=>.inr (by rw [ha];exact hlt)))
 exact hQ ρ' _ _ ((A1.weaken fun _ q=>q.elim).trans (B3.drop fun a ha=>ha.elim .inl .inr)) (H3.after B2 hfa) rfl
end
noncomputable abbrev errC:Addr:=69
noncomputable abbrev errB:Addr:=47
noncomputable abbrev errI:Addr:=66
noncomputable abbrev errJ:Addr:=37
noncomputable abbrev errMro:List Value:=[.ref errC,.ref errB,.type "Exception",.type "BaseException",.type "object"]
structure ErrK (K:Frag):Prop where
 cls:∃ cd,clsIn K errC=some cd/\cd.mro=errMro/\cd.hasDict=true
 obj:∃ nm q bs sn sub ab col dd k0 k1 k2 k3 k5,K.lookup errC=some (excClassObj nm q errC 68 bs [.ref errB,.type "Exception",.type "BaseException",.type "object"] true sn sub ab col dd k0 k1 k2 k3 k5 "Exception.__new__")
 sa:findIn K (.ref errC) "__setattr__"=some (some (.builtin "object.__setattr__"))
 taker:takerIn K errC "message"=some none
 ga:findIn K (.ref errC) "__getattribute__"=some (some (.builtin "BaseException.__getattribute__"))
 gn:findIn K (.ref errC) "__getattr__"=some none
 msg:findIn K (.ref errC) "message"=some none
 ini:findIn K (.ref errC) "__init__"=some (some (.ref errI))
 dic:hasDictIn K errC=true
 mro:mroIn K errC (.type "object")=some true
 isExc:mroIn K errC (.type "BaseException")=some true
 isB:mroIn K errC (.ref errB)=some true
 isC:mroIn K errC (.ref errC)=some true
 sup1:ks_superIn K errC errC "__init__"=some (some (.ref errJ))
 sup2:ks_superIn K errC errB "__init__"=some (some (.builtin "Exception.__init__"))
theorem tF (self:Value):refuseLoop self "__setattr__" errMro=pure ():=by
 rw [show errMro=.ref errC :: .ref errB :: [.type "Exception",.type "BaseException",.type "object"] from rfl,refuseLoop_ref,refuseLoop_ref]
 exact PySem.F.store_Exception.passes self
noncomputable abbrev fP (D:Option Addr) (t:Value):Obj:={ cls:=.ref errC,dict:=D,data:=.fields #[t,.none,.none,.none,.bool false,.none],slots:=#[] }
inductive ExcD (h:Heap) (e:Addr) (t:Value):Option Addr->List DictEntry->Prop
 | fresh:h.get? e=some (fP none t)->ExcD h e t none []
 | laid {d:Addr} {es:List DictEntry} {ep:Nat}:h.get? e=some (fP (some d) t)->h.get? d=some (dictOf es ep)->d≠e->ExcD h e t (some d) es
section
variable {prog:Program} {w:World} {A:Around} {E:Value->Shared->Prop} {s:Shared} {K:Frag} {e:Addr} {t:Value} {D:Option Addr} {es:List DictEntry}
theorem ExcD.inst {h:Heap} (x:ExcD h e t D es):∃ ox od,InstAt h e ox errC od/\ox=fP D t/\(∀ v,getL "message" es=some (some v)->∃ es ep,od=some (dictOf es ep)/\getL "message" es=some (some v)):=by
 cases x with
 | fresh h1=>exact ⟨_,Option.none,⟨h1,rfl,rfl,trivial⟩,rfl,fun v hv=>by cases hv⟩
 | laid h1 h2 _=>exact ⟨_,_,⟨h1,rfl,rfl,h2⟩,rfl,fun v hv=>⟨_,_,rfl,hv⟩⟩
theorem exc_get {v:Value} {expr:Bool} {Q:Value->Shared->Prop} (X:K.In s.heap) (EK:ErrK K) (I:ExcD s.heap e t D es) (hl:getL "message" es=some (some v)) (hv:handedIn v=true) (h:Q v { s with toks:=s.toks+1 }) :
  wpAny (model prog w) A (getAttr (.ref e) "message" expr) Q E s:=by
 obtain ⟨ox,od,II,_,hod⟩:=I.inst
 obtain ⟨es',ep,rfl,hl'⟩:=hod v hl
 obtain ⟨hh,g,d,tk,os⟩:=s
 have L0:=II.type (M:=model prog w)
 have L1:=looks_findIn (M:=model prog w) X EK.ga
 have L2:=looks_findIn (M:=model prog w) X EK.gn
 have L3:=looks_find (M:=model prog w) X II (findObj_own EK.dic EK.msg rfl hl')
 have hx2:(Value.builtin "BaseException.__getattribute__" == Value.builtin "object.__getattribute__")=false:=by decide +kernel
 have hx1:(onTheHeap (Value.ref errC) && Value.builtin "BaseException.__getattribute__" == Value.builtin "object.__getattribute__")=false:=by rw [hx2];rfl
 have hx0:(expr && onTheHeap (Value.builtin "BaseException.__getattribute__"))=false:=by cases expr<;>rfl
 unfold getAttr getAttrBy
 refine wpAny_bind (wpAny_mkText (wpAny_holding (wpAny_bind (L0.at (wpAny_bind (L1.at ?_))))))
 dsimp only
 rw [hx1]
 show wpAny _ _ (getAttrByItsOwn _ _ _ _ _ _) _ _ _
 unfold getAttrByItsOwn
 refine wpAny_bind (show wpAny _ _ (hookBefore (.ref errC)) _ _ _ from L2.at ?_)
 refine wpAny_bind (wpAny_attempt (wpAny_holding ?_))
 show wpAny _ _ (callGetattribute (.ref e) (.str "message" tk) (.builtin "BaseException.__getattribute__") expr) _ _ _
 unfold callGetattribute
 rw [hx0]
 show wpAny _ _ (boundAndCalled _ _ _) _ _ _
 unfold boundAndCalled
 refine wpAny_bind (wpAny_of_eq (PySem.F.excAttr_ValueError.ga.bind (.ref e)) ?_)
 refine wpAny_call (codeAny_call_builtin PySem.F.excAttr_ValueError.ga.plain PySem.F.entry_bexc_ga ?_)
 have hk:builtinKind "BaseException.__getattribute__"=some .slot:=by decide +kernel
 have hsplit:splitId "BaseException.__getattribute__"=some ("BaseException","__getattribute__"):=by decide +kernel
 have sub:Looks (model prog w) hh (isInstance (.ref e) (.type "BaseException")) true:=II.type.andThen (looks_mroIn X EK.isExc)
 refine @check_slot (model prog w) _ _ ⟨hh,g,d,tk+1,os⟩ "BaseException.__getattribute__" "BaseException" "__getattribute__" (.ref e) [.str "message" tk] [] _ hk hsplit sub (PySem.F.args_bexc_ga (.ref e) (.str "message" tk)) ?_
 show wpAny _ _ (Builtin.«object.__getattribute__» ⟨[.ref e,.str "message" tk],[]⟩) _ _ _
 unfold Builtin.«object.__getattribute__»
 refine wpAny_bind (wpAny_pure (wpAny_bind (wpAny_pure (wpAny_bind (L0.at (wpAny_bind (L3.at ?_)))))))
 refine wpAny_pure ?_
 show wpAny _ _ (handedOut v) _ _ _
 rw [handedOut_of hv]
 exact wpAny_pure h
end
section
variable {prog:Program} {w:World} {A:Around} {E:Value->Shared->Prop} {s:Shared} {K:Frag} {e:Addr} {t:Value} {D:Option Addr} {es:List DictEntry}
theorem getL_put {x:Str} {hs:Int} {tk:Tok} {v:Value} {es:List DictEntry}:getL x (putL x hs (.str x tk) v es)=some (some v):=by
 have h:∃ e,(putL x hs (.str x tk) v es).find? (fun e=>e.key.isStr x)=some e/\e.val=v:=by
  induction es with
  | nil=>exact ⟨_,List.find?_cons_of_pos (show (x == x)=true from beq_self_eq_true x),rfl⟩
  | cons en r ih=>
   by_cases q:en.key.isStr x=true
   ·exact ⟨⟨en.hash,en.key,v⟩,(congrArg (List.find? _) (if_pos q)).trans (List.find?_cons_of_pos (p:=fun (e:DictEntry)=>e.key.isStr x) q),rfl⟩
   ·obtain ⟨e,h1,h2⟩:=ih
    exact ⟨e,(congrArg (List.find? _) (if_neg q)).trans ((List.find?_cons_of_neg (p:=fun (e:DictEntry)=>e.key.isStr x) q).trans h1),h2⟩
 obtain ⟨e,h1,h2⟩:=h
 unfold getL;rw [h1];exact congrArg (fun v=>some (some v)) h2
theorem qE (x:Str) (hs:Int) (k v:Value) (es:List DictEntry):(putL x hs k v es).length<=es.length+1:=by
 induction es with
 | nil=>exact Nat.le_refl _
 | cons en r this=>
  show (if en.key.isStr x then (⟨en.hash,en.key,v⟩:DictEntry) :: r else en :: putL x hs k v r).length<=r.length+1+1
  by_cases q:en.key.isStr x=true
  ·rw [if_pos q];exact Nat.le_succ _
  ·rw [if_neg q];exact Nat.succ_le_succ this
theorem mK {d:Addr} {x:Str} {v:Value} {ep:Nat} {Q:Unit->Shared->Prop} (Dd:s.heap.get? d=some (dictOf es ep)) (hl:(getL x es).isSome=true) (hlen:es.length<=900)
  (hQ:∀ h' tk es' ep',Heap.SameBut d s.heap h'->h'.get? d=some (dictOf es' ep')->getL x es'=some (some v)->es'.length<=es.length+1->Q () { s with heap:=h',toks:=tk }):wpAny (model prog w) A (nsSet d x v) (fun _ s₁=>wpAny (model prog w) A (lookBehind d (some (.str x 0))) Q E s₁) E s:=by
 unfold nsSet
 refine wpAny_bind (wpAny_bind (wpAny_askSetting (wpAny_pure (wpAny_bind (wpAny_mkText (wpAny_bind (wpAny_loadPart Dd ?_)))))))
 have c:(!es.toArray.any (·.key.isStr x) && es.toArray.any (·.refKey))=false:=by
  rw [<- Array.any_toList,<- Array.any_toList]
  exact sE hl
 dsimp only
 rw [aRefKeyMayBeTheName_at,c]
 refine wpAny_updatePart Dd ?_
 have D':(s.heap.update d (Obj.putName x (PyData.keyHash w.params x) (.str x s.toks) v)).get? d=some (dictOf (putL x (PyData.keyHash w.params x) (.str x s.toks) v es) (putN x es ep)):=by
  rw [Heap.get?_update_self _ Dd (by rw [putName_dict];rfl),putName_dict]
 have hlen':=qE x (PyData.keyHash w.params x) (.str x s.toks) v es
 refine wpAny_lookBehind D' (pastItsLine_dict (by rw [List.size_toArray,sizeLine_eq];lia)) ?_
 exact hQ _ _ _ _ (Heap.SameBut.update ..) D' getL_put hlen'
theorem exc_set {v:Value} {Q:Unit->Shared->Prop} (X:K.In s.heap) (EK:ErrK K) (I:ExcD s.heap e t D es) (hl:(getL "message" es).isSome=true) (hlen:es.length<=900)
  (hQ:∀ h' tk d es',ExcD h' e t (some d) es'->getL "message" es'=some (some v)->es'.length<=es.length+1->(D=none->s.heap.objs.size<=d)->(∀ d',D=some d'->d=d')->(∀ b o,b≠e->(∀ d',D=some d'->b≠d')->s.heap.get? b=some o->h'.get? b=some o)->s.heap.objs.size<=h'.objs.size->
   Q () { s with heap:=h',toks:=tk }):wpAny (model prog w) A (setAttr (.ref e) "message" v) Q E s:=by
 obtain ⟨ox,od,II,hox,hod⟩:=I.inst
 refine set_plain X II EK.sa ?_
 have SF:=PySem.F.store_object
 obtain ⟨cd,hc,hm,hd⟩:=EK.cls
 have sub:Looks (model prog w) s.heap (isInstance (.ref e) (.type "object")) true:=II.type.andThen (looks_mroIn X EK.mro)
 refine codeAny_call_builtin SF.slot.plain SF.entry (@check_slot (model prog w) _ _ { s with toks:=s.toks+1 } "object.__setattr__" "object" "__setattr__" (.ref e) [.str "message" s.toks,v] [] _ SF.kind SF.split sub (SF.args (.ref e) (.str "message" s.toks) v) ?_)
 have hmr:Looks (model prog w) s.heap (mroOf (.ref errC)) cd.mro:=(looks_clsIn X hc).andThen .now
 show wpAny _ _ (Builtin.«object.__setattr__» ⟨[.ref e,.str "message" s.toks,v],[]⟩) _ _ _
 rw [osa_eq,refuse_eq]
 refine wpAny_bind (wpAny_bind (II.type.here (s:={ s with toks:=s.toks+1 }) (wpAny_bind (hmr.here (s:={ s with toks:=s.toks+1 }) ?_))))
 rw [hm,tF]
 refine wpAny_pure (wpAny_bind (II.type.here (s:={ s with toks:=s.toks+1 }) (wpAny_bind ((looks_findIn X EK.msg).here (s:={ s with toks:=s.toks+1 }) (wpAny_bind (wpAny_pure ?_))))))
 show wpAny _ _ (Builtin.ObjectAttr.storeInOwnDict (.ref e) (.ref errC) (.str "message" s.toks) "message" v false) _ _ _
 subst hox
 refine wpAny_bind (wpAny_pure (wpAny_bind (wpAny_bind (wpAny_loadPart II.at_ (wpAny_bind ((looks_clsIn X hc).here (s:={ s with toks:=s.toks+1 }) ?_))))))
 rw [hd]
 cases I with
 | fresh h1=>
  have hx₁:(s.heap.push emptyDict).get? e=some (fP none t):=Heap.get?_push_of_some _ h1
  have hxs:e≠s.heap.objs.size:=Nat.ne_of_lt (Heap.lt_size h1)
  show wpAny _ _ (alloc emptyDict >>= fun d=>update e (fun o=>{ cls:=o.cls,dict:=some d,data:=o.data,slots:=o.slots }) >>= fun _=>dictMade _ e d) _ _ _
  refine wpAny_bind (wpAny_alloc' ?_)
  refine wpAny_bind (wpAny_update' hx₁ ?_)
  refine wpAny_pure ?_
  dsimp only
  let H:=(s.heap.push emptyDict).update e fun o=>{ cls:=o.cls,dict:=some s.heap.objs.size,data:=o.data,slots:=o.slots }
  have hgd:H.get? s.heap.objs.size=some (dictOf [] 0):=(Heap.get?_update_ne _ _ _ _ hxs.symm).trans (Heap.get?_push_at rfl rfl)
  have hge:H.get? e=some (fP (some s.heap.objs.size) t):=Heap.get?_update_self _ hx₁ rfl
  have hz:H.objs.size=s.heap.objs.size+1:=by show (Heap.update _ _ _).objs.size=_;rw [Heap.size_after_update,Heap.size_push]
  refine wpAny_bind (wpAny_pure (wpAny_bind (wpAny_mono (mK (s:={ s with heap:=H,toks:=s.toks+1 }) hgd hl (by simp) fun h' tk es' ep' hsb hd' hg' hn'=>?_) (fun _ s1 h1=>wpAny_bind h1) fun _ _ z=>z)))
  refine wpAny_pure ?_
  refine hQ h' tk s.heap.objs.size es' (.laid ((hsb.2 e hxs).trans hge) hd' hxs.symm) hg' hn' (fun _=>Nat.le_refl _) (fun d' z=>by cases z) (fun b o hb _ ho=>?_) (by rw [hsb.1];show _<=H.objs.size;rw [hz];exact Nat.le_succ _)
  exact (hsb.2 b (Nat.ne_of_lt (Heap.lt_size ho))).trans ((Heap.get?_update_ne _ _ _ _ hb).trans (Heap.get?_push_of_some _ ho))
 | @laid d es ep h1 h2 h3=>
  refine wpAny_pure (a:=some d) (wpAny_bind (wpAny_pure (wpAny_bind ?_)))
  refine wpAny_mono (mK (s:={ s with toks:=s.toks+1 }) h2 hl hlen fun h' tk es' ep' hsb hd' hg' hn'=>?_) (fun _ s1 h1=>wpAny_bind h1) fun _ _ z=>z
  refine wpAny_pure ?_
  refine hQ h' tk d es' (.laid ((hsb.2 e h3.symm).trans h1) hd' h3) hg' hn' (fun z=>by cases z) (fun d' z=>by cases z;rfl) (fun b o hb hbd ho=>?_) (by rw [hsb.1];exact Nat.le_refl _)
  exact (hsb.2 b (hbd d rfl)).trans ho
end
theorem slot_wd_get:Slot "wrapper_descriptor" "__get__" "wrapper_descriptor.__get__":=.of (owner:="wrapper_descriptor") (n:="__get__") (by rw [typeLookup_type,builtinLookup_eq_fast];kernel_rfl) (by decide +kernel) (by decide +kernel) (by decide +kernel)
 (by first | exact .inl (by decide +kernel) | exact .inr (by decide +kernel)) (by rw [isSubtype_type];kernel_rfl)
theorem oT:entryFor table "wrapper_descriptor.__get__"=some Builtin.«wrapper_descriptor.__get__»:=entryFor_of_tree (by kernel_rfl)
theorem qZ (a b c:Value):argsOk "wrapper_descriptor.__get__" ⟨[a,b,c],[]⟩:=by unfold argsOk;kernel_rfl
theorem typeOf_ei:typeOf (.builtin "Exception.__init__")=pure (.type "wrapper_descriptor"):=by kernel_rfl
theorem owner_ei:(".".intercalate ("Exception.__init__".cutAt '.').dropLast) = "Exception":=by
 have e0 : "Exception.__init__".cutAt '.'=["Exception","__init__"]:=by first | rfl | decide +kernel
 rw [e0];decide +kernel
section
variable {prog:Program} {w:World} {A:Around} {E:Value->Shared->Prop} {s:Shared} {h:Heap} {g:Array GenState} {d:Drawn} {t:Nat} {os:OsState}
theorem wd_get {x C:Addr} {ox:Obj} {Q:Fin->Shared->Prop} (hx:h.get? x=some ox) (hxc:ox.cls=.ref C) (hI:Looks (model prog w) h (isSubtype (.ref C) (.type "Exception")) true)
  (hq:Q (.done (.ret (.ref h.objs.size))) ⟨h.push { cls:=.type "method-wrapper",data:=.fields #[.builtin "Exception.__init__",.ref x] },g,d,t,os⟩) :
  wpAny (model prog w) A (Builtin.«wrapper_descriptor.__get__» ⟨[.builtin "Exception.__init__",.ref x,.ref C],[]⟩) Q E ⟨h,g,d,t,os⟩:=by
 have e1:=owner_ei
 unfold Builtin.«wrapper_descriptor.__get__»
 repeat (first | (with_reducible refine wpAny_loadPart_at hx ?_;rw [hxc]) | (rw [e1];with_reducible refine Looks.at hI ?_) | wp_step | dsimp only)
 all_goals exact hq
theorem sY {so D x C:Addr} {ox:Obj} {l₀ l:List Value} {K:Frag} {name:Str} {tk:Tok} {Q:Fin->Shared->Prop}
  (hso:h.get? so=some { cls:=.type "super",dict:=none,data:=.fields #[.ref D,.ref x,.ref C],slots:=#[] }) (hno:Looks (model prog w) h (opaqueClassAbove (.ref C)) none)
  (hC:Looks (model prog w) h (mroOf (.ref C)) l₀) (hl:(l₀.dropWhile (· != .ref D)).drop 1=l) (X:K.In h)
  (hf:alongIn K name l=some (some (.builtin "Exception.__init__"))) (hx:h.get? x=some ox) (hxc:ox.cls=.ref C) (hI:Looks (model prog w) h (isSubtype (.ref C) (.type "Exception")) true) (hxC:x≠C) (hn:(name == ("__class__":Str))=false)
  (hq:Q (.done (.ret (.ref h.objs.size))) ⟨h.push { cls:=.type "method-wrapper",data:=.fields #[.builtin "Exception.__init__",.ref x] },g,d,t,os⟩) :
  wpAny (model prog w) A (Builtin.«super.__getattribute__» ⟨[.ref so,.str name tk],[]⟩) Q E ⟨h,g,d,t,os⟩:=by
 have hlk:=slot_wd_get.lookup
 have hne:(Value.ref x == Value.ref C)=false:=by simp [hxC]
 have hTf:(⟨h,g,d,t,os⟩:Shared).TypeIs (.builtin "Exception.__init__") "wrapper_descriptor":=typeOf_ei
 have hdt:({ cls:=.type "super",dict:=none,data:=.fields #[.ref D,.ref x,.ref C],slots:=#[] }:Obj).data=.fields #[.ref D,.ref x,.ref C]:=rfl
 have f0:(#[.ref D,.ref x,.ref C]:Array Value)[0]?=some (.ref D):=rfl
 have f1:(#[.ref D,.ref x,.ref C]:Array Value)[1]?=some (.ref x):=rfl
 have f2:(#[.ref D,.ref x,.ref C]:Array Value)[2]?=some (.ref C):=rfl
 unfold Builtin.«super.__getattribute__»
 repeat (first
  | (with_reducible refine wpAny_field hso hdt f0 ?_) | (with_reducible refine wpAny_field hso hdt f1 ?_) | (with_reducible refine wpAny_field hso hdt f2 ?_)
  | (with_reducible refine ks_wpAny_notOpaque hno ?_)
  | (with_reducible refine Looks.at hC ?_;rw [hl])
  | (refine ks_forIn_along X (fun _ _=>rfl) rfl ?_ hf)
  | (with_reducible refine wpAny_typeOf hTf ?_)
  | (with_reducible refine wpAny_call_entry slot_wd_get hTf oT ?_ (qZ _ _ _))
  | (refine wd_get hx hxc hI ?_)
  | (with_reducible refine ⟨_,rfl,?_⟩)
  | (rewrite [hn]) | (rewrite [hne]) | (rewrite [Bool.or_false]) | (rewrite [if_neg Bool.false_ne_true])
  | wp_step
  | dsimp only)
 all_goals exact hq
end
section
variable {prog:Program} {w:World} {A:Around} {E:Value->Shared->Prop} {s:Shared} {h:Heap} {g:Array GenState} {d:Drawn} {t:Nat} {os:OsState}
theorem jR {so D x C:Addr} {ox:Obj} {l₀ l:List Value} {K:Frag} {name:Str} {pl:Sem Bool} {Q:Value×List Value->Shared->Prop}
  (hso:h.get? so=some { cls:=.type "super",dict:=none,data:=.fields #[.ref D,.ref x,.ref C],slots:=#[] }) (hno:Looks (model prog w) h (opaqueClassAbove (.ref C)) none)
  (hC:Looks (model prog w) h (mroOf (.ref C)) l₀) (hl:(l₀.dropWhile (· != .ref D)).drop 1=l) (X:K.In h)
  (hf:alongIn K name l=some (some (.builtin "Exception.__init__"))) (hx:h.get? x=some ox) (hxc:ox.cls=.ref C) (hI:Looks (model prog w) h (isSubtype (.ref C) (.type "Exception")) true) (hxC:x≠C) (hn:(name == ("__class__":Str))=false)
  (hq:Q (.ref h.objs.size,[]) ⟨h.push { cls:=.type "method-wrapper",data:=.fields #[.builtin "Exception.__init__",.ref x] },g,d,t+1,os⟩) :
  wpAny (model prog w) A (getMethod (.ref so) name pl) Q E ⟨h,g,d,t,os⟩:=by
 have hlk:=PySem.F.ks_slot_super_ga.lookup
 have hcan:=PySem.F.ks_canon_super_ga
 have hT:∀ t',(⟨h,g,d,t',os⟩:Shared).TypeIs (.ref so) "super":=fun _=>⟨_,hso,rfl⟩
 unfold getMethod
 refine wpAny_bind (wpAny_specialOf (hT _) hlk ?_)
 show wpAny _ _ (if (Manifest.canonical "super.__getattribute__" != "object.__getattribute__")=true then _ else _) _ _ _
 rw [if_pos hcan]
 unfold getAttr getAttrBy
 refine wpAny_bind (wpAny_bind (wpAny_mkText (wpAny_holding (wpAny_bind (wpAny_typeOf (hT _) (wpAny_bind (wpAny_of_eq hlk ?_)))))))
 show wpAny _ _ (getAttrByItsOwn (.ref so) (.str name t) (.type "super") (.builtin "super.__getattribute__") true false) _ _ _
 unfold getAttrByItsOwn hookBefore callGetattribute boundAndCalled
 refine wpAny_bind (wpAny_of_eq (show (if onTheHeap (.type "super") then typeLookup (.type "super") "__getattr__" else pure none)=pure none from rfl) ?_)
 refine wpAny_bind (wpAny_attempt (wpAny_holding ?_))
 show wpAny _ _ (bindSpecial (.builtin "super.__getattribute__") (.ref so) >>= _) _ _ _
 refine wpAny_bind (wpAny_of_eq (PySem.F.ks_slot_super_ga.bind _) ?_)
 refine wpAny_mono (Q:=fun v s'=>v=.ref h.objs.size/\s'=⟨h.push { cls:=.type "method-wrapper",data:=.fields #[.builtin "Exception.__init__",.ref x] },g,d,t+1,os⟩) (E:=fun _ _=>False)
  (wpAny_call_entry PySem.F.ks_slot_super_ga (hT _) PySem.F.ks_entry_super_ga (sY hso hno hC hl X hf hx hxc hI hxC hn ⟨_,rfl,rfl,rfl⟩) (PySem.F.ks_gaArgs_super _ _)) (fun v s' hv=>?_) fun _ _ z=>z.elim
 obtain ⟨rfl,rfl⟩:=hv
 exact wpAny_pure (wpAny_pure hq)
theorem check_ei {nm q:Str} {C N e:Addr} {bs bm:List Value} {hdct:Bool} {sn:List Str} {sub:List Value} {ab:Bool} {col:Option Bool} {dd:Option Addr} {k0 k1 k2 k3 k5:Option Value} {newId:String} {M:Model} {oe:Obj} {m:Value} {Q:Unit->Shared->Prop}
  (hC:h.get? C=some (excClassObj nm q C N bs bm hdct sn sub ab col dd k0 k1 k2 k3 k5 newId)) (hbm:bm.contains (.type "Exception")=true) (he:h.get? e=some oe) (hcls:oe.cls=.ref C) (hq:Q () ⟨h,g,d,t,os⟩) :
  wpAny M A (checkBoundCall "Exception.__init__" ⟨[.ref e,m],[]⟩) Q E ⟨h,g,d,t,os⟩:=by
 have F:=PySem.F.excBase_Exception
 have hshort:=F.noStar
 have hcB:(Value.ref C :: bm).contains (.type "Exception")=true:=by rw [List.contains_cons,hbm,Bool.or_true]
 delta checkBoundCall
 rewrite [F.initRow,F.initKind]
 dsimp only
 rw [if_pos (by decide)]
 repeat (first | (with_reducible refine wpAny_loadPart_at he ?_;rw [hcls]) | with_reducible refine wpAny_loadPart_at hC ?_ | (with_reducible refine wpAny_isSubtype_exc hC ?_;rw [hcB]) | wp_step)
 exact hq
theorem quiet_ei (args:Args):(Code.builtin "Exception.__init__" args).quiet=true:=plainId_quiet (by decide +kernel) _
theorem code_ei {e:Addr} {D:Option Addr} {t0 m:Value} {R:Result->Shared->Prop} (he:s.heap.get? e=some (fP D t0))
  (hq:∀ h',h'.get? e=some (fP D (.ref s.heap.objs.size))->(∀ b o,b≠e->s.heap.get? b=some o->h'.get? b=some o)->s.heap.objs.size<=h'.objs.size->R (.ok (.ret .none)) { s with heap:=h' }) :
  codeAny (model prog w) A (.builtin "Exception.__init__" ⟨[.ref e,m],[]⟩) R s:=by
 refine codeAny_builtin PySem.F.excBase_Exception.initEntry ?_
 show wpAny _ _ (newTuple [m] >>= fun v=>Builtin.BaseException.bexcPut (.ref e) 0 v >>= fun _=>ret .none) _ _ s
 refine wpAny_bind (wpAny_newObj_type ?_ (by size_fits))
 have he1:(s.heap.push { cls:=.type "tuple",data:=.seq ([m]:List Value).toArray }).get? e=some (fP D t0):=Heap.get?_push_of_some _ he
 unfold Builtin.BaseException.bexcPut
 refine wpAny_bind (wpAny_bind (wpAny_field he1 rfl (x:=t0) rfl (wpAny_bind (wpAny_setField he1 rfl (by simp) ?_))))
 have fin:R (.ok (.ret .none)) { s with heap:=(s.heap.push { cls:=.type "tuple",data:=.seq ([m]:List Value).toArray }).update e (Obj.mapFields (·.setIfInBounds 0 (.ref s.heap.objs.size))) }:=by
  refine hq _ (Heap.get?_update_self _ he1 rfl) (fun b o hb ho=>(Heap.get?_update_ne _ _ _ _ hb).trans (Heap.get?_push_of_some _ ho)) ?_
  rw [Heap.size_after_update,Heap.size_push];exact Nat.le_succ _
 cases t0<;>first | exact wpAny_pure (wpAny_pure fin) | skip
 show wpAny _ _ (letGo [_]) _ _ _
 wp_walk
 exact fin
end
structure ExcS (h₀:Heap) (e:Addr) (t:Value) (D:Option Addr) (es:List DictEntry) (h:Heap):Prop where
 kept:∀ b o,h₀.get? b=some o->h.get? b=some o
 at_:ExcD h e t D es
 new:h₀.get? e=none
 newD:∀ d,D=some d->h₀.get? d=none
 size:h₀.objs.size<=h.objs.size
theorem ExcD.keep {h h':Heap} {e:Addr} {t:Value} {D:Option Addr} {es:List DictEntry} (x:ExcD h e t D es) (k:∀ b o,h.get? b=some o->h'.get? b=some o):ExcD h' e t D es:=by
 cases x with
 | fresh h1=>exact .fresh (k _ _ h1)
 | laid h1 h2 h3=>exact .laid (k _ _ h1) (k _ _ h2) h3
theorem ExcD.lt {h:Heap} {e:Addr} {t:Value} {D:Option Addr} {es:List DictEntry} (x:ExcD h e t D es):e<h.objs.size:=by
 cases x with
 | fresh h1=>exact Heap.lt_size h1
 | laid h1 h2 h3=>exact Heap.lt_size h1
theorem ExcD.ltD {h:Heap} {e d:Addr} {t:Value} {es:List DictEntry} (x:ExcD h e t (some d) es):d<h.objs.size:=by
 cases x with
 | laid h1 h2 h3=>exact Heap.lt_size h2
theorem ExcS.keep {h₀ h h':Heap} {e:Addr} {t:Value} {D:Option Addr} {es:List DictEntry} (x:ExcS h₀ e t D es h) (k:∀ b o,h.get? b=some o->h'.get? b=some o) (z:h.objs.size<=h'.objs.size):ExcS h₀ e t D es h':=
 ⟨fun b o e=>k b o (x.kept b o e),x.at_.keep k,x.new,x.newD,Nat.le_trans x.size z⟩
section
variable {G:G0} {A:Around} {s:Shared} {h₀:Heap} {e:Addr} {t m:Value} {D:Option Addr} {es:List DictEntry}
noncomputable abbrev nG (p1 p2 p3 p4 p5 p6 p7 p8 p9 p10 p11:Pos):List Stmt:=
 [.Assign [.Attribute (.Name "self" p1) "message" p2] (.Name "message" p3) p4,
 .Expr (.Call (.Attribute (.Call (.Name "super" p5) [] [] p6) "__init__" p7) [.Attribute (.Name "self" p8) "message" p9] [] p10) p11]
theorem rZ {name qual file:Str} {params:Arguments} {p1 p2 p3 p4 p5 p6 p7 p8 p9 p10 p11:Pos} {scope:Scope} {dV kV doc pm ct oc ccl cl:Value} {an od cdd cld:Option Addr} {osl ccs csl:Array (Option Value)} {f cc cda Dc:Addr}
  {vs:Array Value} {tf:Tok} {ar:Arg} {cdD:ClassData} {cD:Value} {dD:Option Addr} {sD:Array (Option Value)} {R:Result->Shared->Prop}
  (ho:G.K.lookup f=some ⟨oc,od,.func (ksFn name qual params (nG p1 p2 p3 p4 p5 p6 p7 p8 p9 p10 p11) scope dV kV doc pm an (.ref cda) ct cc),osl⟩) (hcd:codeIn G.K (.ref cda) qual=true)
  (hcode:G.K.lookup cda=some ⟨ccl,cdd,.fields vs,ccs⟩) (hvs:vs[2]?=some (.str file tf)) (hfile:((G.prog.main.file:Str) == file)=true) (hcell:G.K.lookup cc=some ⟨cl,cld,.cell (some (.ref Dc)),csl⟩) (hD:G.K.lookup Dc=some ⟨cD,dD,.cls cdD,sD⟩)
  (hb:∀ vals:List Value,vals.length=2->bindArgs (ksFn name qual params (nG p1 p2 p3 p4 p5 p6 p7 p8 p9 p10 p11) scope dV kV doc pm an (.ref cda) ct cc) ⟨vals,[]⟩=pure ((["self","message"].map Str.ofString).zip vals))
  (hp:(params.posonlyargs ++ params.args).head?=some ar) (har:ar.arg=("self":Str)) (hself:scope.names.lookup ("self":Str)=some .local) (hmsg:scope.names.lookup ("message":Str)=some .local) (hks:scope.names.lookup ("super":Str)=some .globalImplicit)
  (hkc:scope.names.lookup ("__class__":Str)=some .free) (hnc:∀ x∈scope.names,x.2≠.cell) (hk:scope.kind=.function) (hco:scope.isCoroutine=false) (hgen:scope.isGenerator=false) (hin:∀ y:Vx,interactive (y.env scope)=false) (hsuper:nsIn G.K mainGlobals "super"=some none)
  (htop:(G.prog.main.scope.names.lookup ("super":Str)).isSome=false) (hmc:∀ env,∃ pl,eval (.Call (.Attribute (.Call (.Name "super" p5) [] [] p6) "__init__" p7) [.Attribute (.Name "self" p8) "message" p9] [] p10) env=(do
   let ov <- attributeBase (.Call (.Name "super" p5) [] [] p6) "__init__" env (eval (.Call (.Name "super" p5) [] [] p6) env)
   standAt p7.atName
   let (f,first) <- holding [ov] (getMethod ov "__init__" pl)
   callWith p10 f first (backTo p10 (starEach [.Attribute (.Name "self" p8) "message" p9] env)) []))
  (hsub:mroIn G.K errC (.ref Dc)=some true) (EK:ErrK G.K)
  (hroom:A.depth<recursionLimit) (hbase:∀ a o,G.base.get? a=some o->h₀.get? a=some o) (S:ExcS h₀ e t D es s.heap) (hl:(getL "message" es).isSome=true) (hlen:es.length<=100) (hm:handedIn m=true)
  (hnext:∀ (env:Env) (h₂:Heap) (tk:Nat) (d so:Addr) (es':List DictEntry) (pl:Sem Bool),ExcS h₀ e t (some d) es' h₂->getL "message" es'=some (some m)->es'.length<=es.length+1->h₂.get? so=some (ks_superObj Dc e errC)->h₀.get? so=none->
   wpAny (model G.prog G.w) (A.deeper env) (getMethod (.ref so) "__init__" pl) (fun fx s₂=>fx.2=[]/\∃ (f':Addr),fx.1=.ref f'/\(∀ b o,h₂.get? b=some o->s₂.heap.get? b=some o)/\
    (∃ k,(k=Keeper.frame\/k=Keeper.machine\/k=Keeper.boundFrame)/\∀ h',(∀ b o,s₂.heap.get? b=some o->h'.get? b=some o)->Looks (model G.prog G.w) h' (keeperOf (.ref f')) k)/\
    ∀ tk',wpAny (model G.prog G.w) (A.deeper env) (call (.ref f') [m]) (fun _ s'=>R (.ok (.ret .none)) s') (fun _ _=>False) { s₂ with toks:=tk' }) (fun _ _=>False) { s with heap:=h₂,toks:=tk }) :
  codeAny (model G.prog G.w) A (.call (.ref f) ⟨[.ref e,m],[]⟩) R s:=by
 have KB:∀ {h:Heap},(∀ b o,h₀.get? b=some o->h.get? b=some o)->∀ a o,G.base.get? a=some o->h.get? a=some o:=fun k a o e=>k a o (hbase a o e)
 have KX:∀ {h:Heap},(∀ b o,h₀.get? b=some o->h.get? b=some o)->G.K.In h:=fun k=>G.ok.X.keeps (KB k)
 have X:=KX S.kept
 refine ks_codeAny_call_defAt (fd:=ksFn name qual params (nG p1 p2 p3 p4 p5 p6 p7 p8 p9 p10 p11) scope dV kV doc pm an (.ref cda) ct cc) (binds:=(["self","message"].map Str.ofString).zip [.ref e,m]) hroom (X _ _ ho) rfl (G.ok.nolimit.keeps (KB S.kept)) (codeRec_of X hcd) rfl
  (.of_eq (hb _ rfl)) hnc (fun y hy=>?_) (fun h₁ hns hk₁=>?_) hco hgen hk
 ·rcases List.mem_cons.mp hy with rfl | hy
  ·exact hself
  ·rcases List.mem_cons.mp hy with rfl | hy
   ·exact hmsg
   ·cases hy
 let L:=s.heap.objs.size
 let env:=ksEnv qual scope L f (.ref cda) cc
 show PySem.wpAt _ (A.deeper env) (.func _ env) (execs _ env) _ _ _
 have hns:h₁.Ns L (fun x=>((["self","message"].map Str.ofString).zip [Value.ref e,m]).reverse.lookup x):=hns
 have hv1:(fun x=>((["self","message"].map Str.ofString).zip [Value.ref e,m]).reverse.lookup x) ("self":Str)=some (.ref e):=by rfl
 have hv2:(fun x=>((["self","message"].map Str.ofString).zip [Value.ref e,m]).reverse.lookup x) ("message":Str)=some m:=by rfl
 generalize (fun x=>((["self","message"].map Str.ofString).zip [Value.ref e,m]).reverse.lookup x)=mm at hns hv1 hv2
 have hz1:s.heap.objs.size<=h₁.objs.size:=Nat.le_of_lt hns.lt
 have S1:=S.keep hk₁ hz1
 refine ks_wpAt_execs_cons (ks_wpAt_Assign_Attr (wpAt_of_wpAny (wpAny_Name (wpAny_loadName_local hk hmsg hns hv2 (wpAny_Name (wpAny_loadName_local hk hself hns hv1 ?_) (by decide))) (by decide))) rfl)
 refine exc_set (s:={ s with heap:=h₁,toks:=_ }) (KX S1.kept) EK S1.at_ hl (by lia) fun h₂ tk d es' I2 hg2 hn2 hd1 hd2 hk2 hz2=>?_
 have hLe:L≠e:=fun q=>by have:=S.at_.lt;rw [<- q] at this;exact Nat.lt_irrefl _ this
 have hLd:∀ d',D=some d'->L≠d':=fun d' q z=>by subst q;have:=S.at_.ltD;rw [<- z] at this;exact Nat.lt_irrefl _ this
 have S2:ExcS h₀ e t (some d) es' h₂:=by
  refine ⟨fun b o hb=>hk2 b o (fun q=>?_) (fun d' q z=>?_) (S1.kept b o hb),I2,S.new,fun d' q=>?_,Nat.le_trans S1.size hz2⟩
  ·rw [q,S.new] at hb;cases hb
  ·rw [z,S.newD d' q] at hb;cases hb
  ·cases q
   cases hD':D with
   | none=>exact Heap.get?_none_of_le (Nat.le_trans S1.size (hd1 hD'))
   | some d'=>rw [hd2 d' hD'];exact S.newD d' hD'
 have ns2:h₂.Ns L mm:=by
  obtain ⟨o,es3,ep3,ho3,r⟩:=hns
  exact ⟨o,es3,ep3,hk2 L o hLe hLd ho3,r⟩
 have X2:=KX S2.kept
 have B2:=KB S2.kept
 have hD1:=X2 _ _ hD
 refine byC fun hN=>?_
 obtain ⟨oe,ode,II,hoe,_⟩:=I2.inst
 obtain ⟨pl,hmc⟩:=hmc env
 refine hN (ks_wpAt_execs_cons (ks_wpAt_Expr_any (ks_wpAt_MethodCall (pl:=pl) ?_ hmc) (hin (vx qual L f (.ref cda) [("__class__",cc)])) rfl))
 refine ks_wpAt_super_base (env:=env) hks hkc (by decide) rfl (X2 _ _ ho) rfl hp rfl (X2 _ _ hcode) rfl hvs hfile htop ?_
 refine ks_loadName_global hk hks (loadGlobal_builtin (env:=env) (G.ok.g.keeps B2) (mg_none_of G.ok.X G.ok.g hsuper) (G.ok.b.keeps B2) ((G.ok.builtins _ (by decide +kernel)).trans (show bootBuiltins "super"=some (.type "super") by decide +kernel)) ⟨rfl,?_⟩)
 refine wpAny_loadName_free hk hkc rfl ⟨_,X2 _ _ hcell,rfl⟩ ?_
 rw [har]
 refine wpAny_loadName_local hk hself ns2 hv1 ?_
 refine ks_wpAny_isType_cls hD1 rfl ⟨rfl,?_⟩
 refine ks_wpAny_call_super hD1 rfl II.at_ II.cls (fun c q=>?_) (looks_mroIn X2 hsub) (fun h₃ h3e h3k=>?_)
 ·rw [hoe] at q;cases q
 have z3:h₂.objs.size<=h₃.objs.size:=Nat.le_of_lt (Heap.lt_size h3e)
 have S3:=S2.keep h3k z3
 refine wpAny_mono (hnext env h₃ _ d h₂.objs.size es' _ S3 hg2 hn2 h3e (Heap.get?_none_of_le S2.size)) (fun fx s₂ hfx=>?_) fun _ _ z=>z.elim
 obtain ⟨f1,f2⟩:=fx
 obtain ⟨rfl,f',rfl,k2,⟨k,hkk,hlk⟩,hcall⟩:=hfx
 refine callWith_of (P:=fun h=>∀ b o,s₂.heap.get? b=some o->h.get? b=some o) (by rfl) (fun h hP=>⟨k,hkk,hlk h hP⟩) ?_
 refine evalArgs_plain (Calls.spliced_cons ?_)
 have ns4:s₂.heap.Ns L mm:=(ns2.keeps h3k).keeps k2
 have S4:ExcD s₂.heap e t (some d) es':=S3.at_.keep k2
 refine Attribute_any_ (wpAny_Name (wpAny_loadName_local hk hself ns4 hv1 ?_) (by decide)) rfl
 refine exc_get (KX fun b o hb=>k2 b o (S3.kept b o hb)) EK S4 hg2 hm ?_
 refine Calls.spliced_nil ⟨fun _ _ z=>z,?_⟩
 refine wpAny_mono (hcall (s₂.toks+1)) (fun _ s' hr=>?_) fun _ _ z=>z.elim
 exact wpAt_of_wpAny (wpAny_execs_nil hr)
end
structure ErrK2 (K:Frag):Prop extends ErrK K where
 isE:mroIn K errC (.type "Exception")=some true
 noOp:nsIn K cStatics "thirdparty.any"=some none
 fnJ:∃ oc od fd sl,K.lookup errJ=some ⟨oc,od,.func fd,sl⟩/\oc=.type "function"
 fnI:∃ oc od fd sl,K.lookup errI=some ⟨oc,od,.func fd,sl⟩/\oc=.type "function"
noncomputable def pR (G:G0) (f:Addr) (n:Nat):Prop:=
 ∀ (A:Around) (s:Shared) (h₀:Heap) (e:Addr) (t m:Value) (D:Option Addr) (es:List DictEntry) (R:Result->Shared->Prop),A.depth+n<recursionLimit->(∀ a o,G.base.get? a=some o->h₀.get? a=some o)->
  ExcS h₀ e t D es s.heap->(getL "message" es).isSome=true->es.length+n<=100->handedIn m=true->
  (∀ h' tk t' D' es',ExcS h₀ e t' D' es' h'->R (.ok (.ret .none)) { s with heap:=h',toks:=tk })->codeAny (model G.prog G.w) A (.call (.ref f) ⟨[.ref e,m],[]⟩) R s
section
variable {G:G0} {A:Around} {s:Shared} {h₀:Heap} {e:Addr} {t m:Value} {D:Option Addr} {es:List DictEntry}
theorem ErrK2.ne {K:Frag} {h:Heap} (EK:ErrK2 K) (X:K.In h) (I:ExcD h e t D es):e≠errC:=by
 obtain ⟨nm,q,bs,sn,sub,ab,col,dd,k0,k1,k2,k3,k5,ho⟩:=EK.obj
 intro q
 have h1:=X _ _ ho
 rw [<- q] at h1
 cases I with
 | fresh h2=>rw [h2] at h1;cases h1
 | laid h2 _ _=>rw [h2] at h1;cases h1
theorem kU {K:Frag} {C Dc:Addr} {name:Str} {r:Option Value} (h:ks_superIn K C Dc name=some r):∃ cd,clsIn K C=some cd/\alongIn K name ((cd.mro.dropWhile (· != .ref Dc)).drop 1)=some r:=by
 unfold ks_superIn at h
 obtain ⟨cd,h1,h2⟩:=obx h
 exact ⟨cd,h1,h2⟩
theorem next_b {h₂:Heap} {tk:Nat} {d so Dc:Addr} {es':List DictEntry} {pl:Sem Bool} {R:Result->Shared->Prop} (EK:ErrK2 G.K) (hs:ks_superIn G.K errC Dc "__init__"=some (some (.builtin "Exception.__init__"))) (hbase:∀ a o,G.base.get? a=some o->h₀.get? a=some o)
  (S:ExcS h₀ e t (some d) es' h₂) (hso:h₂.get? so=some (ks_superObj Dc e errC)) (hR:∀ h' tk t' D' es',ExcS h₀ e t' D' es' h'->R (.ok (.ret .none)) { s with heap:=h',toks:=tk }) :
  wpAny (model G.prog G.w) A (getMethod (.ref so) "__init__" pl) (fun fx s₂=>fx.2=[]/\∃ (f':Addr),fx.1=.ref f'/\(∀ b o,h₂.get? b=some o->s₂.heap.get? b=some o)/\
    (∃ k,(k=Keeper.frame\/k=Keeper.machine\/k=Keeper.boundFrame)/\∀ h',(∀ b o,s₂.heap.get? b=some o->h'.get? b=some o)->Looks (model G.prog G.w) h' (keeperOf (.ref f')) k)/\
    ∀ tk',wpAny (model G.prog G.w) A (call (.ref f') [m]) (fun _ s'=>R (.ok (.ret .none)) s') (fun _ _=>False) { s₂ with toks:=tk' }) (fun _ _=>False) { s with heap:=h₂,toks:=tk }:=by
 have X:G.K.In h₂:=G.ok.X.keeps fun a o q=>S.kept a o (hbase a o q)
 obtain ⟨cd,hc,hal⟩:=kU hs
 obtain ⟨ox,od,II,hox,_⟩:=S.at_.inst
 refine jR hso (looks_opaque X EK.noOp) ((looks_clsIn X hc).andThen .now) rfl X hal II.at_ II.cls (looks_mroIn X EK.isE) (EK.ne X S.at_) (by decide) ?_
 refine ⟨rfl,h₂.objs.size,rfl,fun b o q=>Heap.get?_push_of_some _ q,⟨.machine,.inr (.inl rfl),fun h' k=>?_⟩,fun tk'=>?_⟩
 ·exact (Looks.ld (part:=none) (k _ _ (Heap.get?_push_size _ rfl))).andThen .now
 ·have S2:ExcS h₀ e t (some d) es' (h₂.push { cls:=.type "method-wrapper",data:=.fields #[.builtin "Exception.__init__",.ref e] }):=S.keep (fun b o q=>Heap.get?_push_of_some _ q) (by rw [Heap.size_push];exact Nat.le_succ _)
  have X2:G.K.In (h₂.push { cls:=.type "method-wrapper",data:=.fields #[.builtin "Exception.__init__",.ref e] }):=G.ok.X.keeps fun a o q=>S2.kept a o (hbase a o q)
  obtain ⟨nm,q,bs,sn,sub,ab,col,dd,k0,k1,k2,k3,k5,ho⟩:=EK.obj
  have he2:(h₂.push { cls:=.type "method-wrapper",data:=.fields #[.builtin "Exception.__init__",.ref e] }).get? e=some (fP (some d) t):=by
   cases S2.at_ with | laid h1 _ _=>exact h1
  refine wpAny_call (codeAny_of_tree ?_)
  show wpAny _ A.in1 (callAny (.ref h₂.objs.size) ⟨[m],[]⟩) _ _ _
  unfold callAny
  refine wpAny_bind (wpAny_load (Heap.get?_push_size _ rfl) ?_)
  show wpAny _ _ (checkBoundCall "Exception.__init__" ⟨[.ref e,m],[]⟩ >>= fun _=>again (.builtin "Exception.__init__" ⟨[.ref e,m],[]⟩)) _ _ _
  refine wpAny_bind (check_ei (X2 _ _ ho) (by decide) he2 rfl ?_)
  refine wpAny_pure ⟨quiet_ei _,code_ei (s:={ s with heap:=_,toks:=tk' }) he2 fun h' he' hk' hz'=>?_⟩
  have k3:∀ b o,h₀.get? b=some o->h'.get? b=some o:=fun b o hb=>hk' b o (fun q=>by rw [q,S.new] at hb;cases hb) (S2.kept b o hb)
  obtain ⟨tv,he'⟩:∃ tv,h'.get? e=some (fP (some d) tv):=⟨_,he'⟩
  have at3:ExcD h' e tv (some d) es':=by cases S2.at_ with | laid h1 h2 h3=>exact .laid he' (hk' _ _ h3 h2) h3
  exact hR h' tk' tv (some d) es' ⟨k3,at3,S.new,S.newD,Nat.le_trans S2.size hz'⟩
theorem next_f {h₂:Heap} {tk n:Nat} {d so Dc f:Addr} {es':List DictEntry} {pl:Sem Bool} {R:Result->Shared->Prop} (EK:ErrK2 G.K) (hs:ks_superIn G.K errC Dc "__init__"=some (some (.ref f))) (hf:∃ oc od fd sl,G.K.lookup f=some ⟨oc,od,.func fd,sl⟩/\oc=.type "function") (I:pR G f n) (hn:A.depth+n<recursionLimit) (hbase:∀ a o,G.base.get? a=some o->h₀.get? a=some o)
  (S:ExcS h₀ e t (some d) es' h₂) (hlen:es'.length+n<=100) (hl:getL "message" es'=some (some m)) (hm:handedIn m=true) (hso:h₂.get? so=some (ks_superObj Dc e errC)) (hR:∀ h' tk t' D' es',ExcS h₀ e t' D' es' h'->R (.ok (.ret .none)) { s with heap:=h',toks:=tk }) :
  wpAny (model G.prog G.w) A (getMethod (.ref so) "__init__" pl) (fun fx s₂=>fx.2=[]/\∃ (f':Addr),fx.1=.ref f'/\(∀ b o,h₂.get? b=some o->s₂.heap.get? b=some o)/\
    (∃ k,(k=Keeper.frame\/k=Keeper.machine\/k=Keeper.boundFrame)/\∀ h',(∀ b o,s₂.heap.get? b=some o->h'.get? b=some o)->Looks (model G.prog G.w) h' (keeperOf (.ref f')) k)/\
    ∀ tk',wpAny (model G.prog G.w) A (call (.ref f') [m]) (fun _ s'=>R (.ok (.ret .none)) s') (fun _ _=>False) { s₂ with toks:=tk' }) (fun _ _=>False) { s with heap:=h₂,toks:=tk }:=by
 have X:G.K.In h₂:=G.ok.X.keeps fun a o q=>S.kept a o (hbase a o q)
 obtain ⟨cd,hc,hal⟩:=kU hs
 obtain ⟨ox,od,II,hox,_⟩:=S.at_.inst
 obtain ⟨oc,odf,fd,sl,hof,rfl⟩:=hf
 refine ks_wpAny_getMethod_super hso (looks_opaque X EK.noOp) ((looks_clsIn X hc).andThen .now) rfl X hal (X _ _ hof) rfl (EK.ne X S.at_) (by decide) ?_
 refine ⟨rfl,h₂.objs.size,rfl,fun b o q=>Heap.get?_push_of_some _ q,⟨.boundFrame,.inr (.inr rfl),fun h' k=>?_⟩,fun tk'=>?_⟩
 ·refine (Looks.ld (part:=none) (k _ _ (Heap.get?_push_size _ rfl))).andThen ?_
  exact (Looks.ld (part:=none) (k _ _ (Heap.get?_push_of_some _ (X _ _ hof)))).andThen .now
 ·have S2:ExcS h₀ e t (some d) es' (h₂.push { cls:=.type "method",data:=.fields #[.ref f,.ref e] }):=S.keep (fun b o q=>Heap.get?_push_of_some _ q) (by rw [Heap.size_push];exact Nat.le_succ _)
  refine wpAny_call (ks_codeAny_call_bound (Heap.get?_push_size _ rfl) ?_)
  exact I A { s with heap:=_,toks:=tk' } h₀ e t m (some d) es' _ hn hbase S2 (by rw [hl];rfl) hlen hm fun h' tk'' t' D' es'' S3=>hR h' tk'' t' D' es'' S3
end
noncomputable abbrev gC:List Value:=[.ref errB,.type "Exception",.type "BaseException",.type "object"]
section
variable {prog:Program} {w:World} {M:Model} {A:Around} {E:Value->Shared->Prop} {h:Heap} {g:Array GenState} {d:Drawn} {t:Nat} {os:OsState}
 {nm q:Str} {N:Addr} {bs:List Value} {hdct:Bool} {sn:List Str} {sub:List Value} {ab:Bool} {col:Option Bool} {dd:Option Addr} {k0 k1 k2 k3 k5:Option Value}
theorem nM {rest:List Value} {Q:Unit->Shared->Prop} (hC:h.get? errC=some (excClassObj nm q errC N bs gC hdct sn sub ab col dd k0 k1 k2 k3 k5 "Exception.__new__"))
  (hq:Q () ⟨h,g,d,t,os⟩):wpAny M A (checkBuiltinCall "Exception.__new__" ⟨.ref errC :: rest,[]⟩) Q E ⟨h,g,d,t,os⟩:=by
 have F:=PySem.F.excBase_Exception
 have hcont:(Value.ref errC :: gC).contains (.type "Exception")=true:=by decide
 have hstar:=F.noStar
 delta checkBuiltinCall
 rewrite [F.newKind,F.newSplit,F.newRow]
 dsimp only
 repeat (first | refine wpAny_loadPart_at hC ?_ | (refine wpAny_isSubtype_exc hC ?_;rw [hcont]) | refine wpAny_staticBase_exc hC ?_ | refine wpAny_madeBy_exc hC ?_ | (rewrite [bne_self_eq_false,if_neg Bool.false_ne_true]) | wp_step)
 exact hq
theorem new_err {m:Value} {R:Result->Shared->Prop} (hC:h.get? errC=some (excClassObj nm q errC N bs gC hdct sn sub ab col dd k0 k1 k2 k3 k5 "Exception.__new__"))
  (hq:R (.ok (.ret (.ref (h.objs.size+1)))) ⟨(h.push { cls:=.type "tuple",data:=.seq ([m]:List Value).toArray }).push (fP none (.ref h.objs.size)),g,d,t,os⟩) :
  codeAny (model prog w) A (.builtin "Exception.__new__" ⟨[.ref errC,m],[]⟩) R ⟨h,g,d,t,os⟩:=by
 have F:=PySem.F.excBase_Exception
 have hends:=F.ends
 have hcB:(Value.ref errC :: gC).contains (.type "Exception")=true:=by decide
 have hcA:(Value.ref errC :: gC).contains (.type "AttributeError")=false:=by decide
 have hcN:(Value.ref errC :: gC).contains (.type "NameError")=false:=by decide
 refine codeAny_builtinAt F.entry ?_
 unfold Builtin.«BaseException.__new__»
 refine PySem.wpAt_bind ?_
 show PySem.wpAt _ _ _ (stack >>= _) _ _ _
 refine PySem.wpAt_bind (PySem.wpAt_stack fun p below=>PySem.wpAt_of_wpAny ?_)
 wp_walk
 refine PySem.wpAt_of_wpAny ?_
 rw [F.owner]
 repeat (first | with_reducible refine wpAny_madeHere_exc F.canon hC ?_ | with_reducible refine wpAny_loadPart_at hC ?_ | (with_reducible refine wpAny_isSubtype_exc hC ?_;first | rw [hcB] | rw [hcA] | rw [hcN]) | wp_step)
 show R _ _
 rw [Heap.size_push]
 exact hq
end
section
variable {G:G0} {A:Around} {E:Value->Shared->Prop} {s:Shared}
theorem exc_make {m:Value} {Q:Value->Shared->Prop} (EK:ErrK2 G.K) (I:pR G errI 2) (hroom:A.depth+10<recursionLimit) (hbase:∀ a o,G.base.get? a=some o->s.heap.get? a=some o) (hm:handedIn m=true)
  (hQ:∀ h' tk e t D es,ExcS s.heap e t D es h'->Q (.ref e) { s with heap:=h',toks:=tk }):wpAny (model G.prog G.w) A (call (.ref errC) [m]) Q E s:=by
 have F:=PySem.F.excBase_Exception
 obtain ⟨nm,q,bs,sn,sub,ab,col,dd,k0,k1,k2,k3,k5,ho⟩:=EK.obj
 obtain ⟨oc,odf,fd,sl,hoI,rfl⟩:=EK.fnI
 have X:=G.ok.X.keeps hbase
 obtain ⟨h,g,d,t,os⟩:=s
 have hC:h.get? errC=some (excClassObj nm q errC 68 bs gC true sn sub ab col dd k0 k1 k2 k3 k5 "Exception.__new__"):=X _ _ ho
 have f1:=tc_lookup
 have f2:=tc_bind (.ref errC)
 have hT:(⟨h,g,d,t,os⟩:Shared).TypeIs (.ref errC) "type":=⟨_,hC,rfl⟩
 refine wpAny_call (codeAny_of_tree ?_)
 show wpAny _ _ (callAny (.ref errC) _) _ _ _
 repeat (any_goals (first | assumption | with_reducible refine wpAny_loadPart_at hC ?_ | wp_step))
 refine ⟨rfl,?_⟩
 refine codeAny_call_builtin_at (Code.quiet_builtin _ (by decide +kernel)) entry_typeCall (wpAny_check_type_call_sub hC ?_)
 repeat (first | with_reducible refine wpAny_loadPart_at hC ?_ | with_reducible refine wpAny_madeBy_exc hC ?_ | wp_step)
 refine codeAny_call_builtin_code (Code.quiet_builtin _ F.quiet) (nM hC ?_)
 refine new_err hC ?_
 show wpAny _ _ _ _ _ _
 have k2:∀ b o,h.get? b=some o->((h.push { cls:=.type "tuple",data:=.seq ([m]:List Value).toArray }).push (fP none (.ref h.objs.size))).get? b=some o:=fun b o q=>Heap.get?_push_of_some _ (Heap.get?_push_of_some _ q)
 have hC₁:=k2 _ _ hC
 have X1:=G.ok.X.keeps fun a o q=>k2 a o (hbase a o q)
 have hget:((h.push { cls:=.type "tuple",data:=.seq ([m]:List Value).toArray }).push (fP none (.ref h.objs.size))).get? (h.objs.size+1)=some (fP none (.ref h.objs.size)):=by heap_get
 have hcC:(Value.ref errC :: gC).contains (.ref errC)=true:=by decide
 unfold isInstance
 repeat (first | with_reducible refine wpAny_loadPart_at hget ?_ | (with_reducible refine wpAny_isSubtype_exc hC₁ ?_;rw [hcC]) | wp_step)
 show wpAny _ _ (typeLookup (.ref errC) _) _ _ _
 refine (looks_findIn X1 EK.ini).at ?_
 refine wpAny_holding (wpAny_bind ?_)
 unfold bindSpecial
 refine wpAny_bind (wpAny_typeOf (T:="function") ⟨_,X1 _ _ hoI,rfl⟩ ?_)
 rw [if_pos (by decide)]
 refine wpAny_pure (wpAny_bind (wpAny_mono (Q:=fun r s'=>r=.none/\∃ h' tk t' D' es',s'=⟨h',g,d,tk,os⟩/\ExcS h (h.objs.size+1) t' D' es' h') (wpAny_call (I _ _ h (h.objs.size+1) _ m none [] _ ?_ hbase ⟨k2,.fresh hget,Heap.get?_none_of_le (Nat.le_succ _),(fun d q=>by cases q),?_⟩ rfl (by simp) hm fun h' tk t' D' es' S=>?_)) (fun r s' hr=>?_) fun _ _ x=>x))
 ·show A.depth+1+2<recursionLimit;lia
 ·rw [Heap.size_push,Heap.size_push];lia
 ·exact ⟨rfl,_,_,_,_,_,rfl,S⟩
 ·obtain ⟨rfl,h',tk,t',D',es',rfl,S⟩:=hr
  wp_walk
  exact hQ h' tk _ _ _ _ S
end
noncomputable abbrev frs (l:List Env):List Addr:=l.filterMap (·.frame)
noncomputable def Fun (base:Heap) (l:List Env) (ρ:Map) (σ:Sto) (h:Heap):Prop:=
 ∀ env∈l,env.scope.kind≠.module/\∃ L o,env.frame=some L/\base.get? L=none/\h.get? L=some o/\(∀ vs,o.data≠.fields vs)/\¬ Own ρ σ L
theorem mem_frs {l:List Env} {a:Addr} (h:a∈frs l):∃ env∈l,env.frame=some a:=List.mem_filterMap.mp h
theorem Fun.mem {base:Heap} {l:List Env} {ρ:Map} {σ:Sto} {h:Heap} (F:Fun base l ρ σ h) {a:Addr} (ha:a∈frs l):base.get? a=none/\(∃ o,h.get? a=some o/\∀ vs,o.data≠.fields vs)/\¬ Own ρ σ a:=by
 obtain ⟨env,he,hf⟩:=mem_frs ha
 obtain ⟨_,L,o,hf',hb,ho,hd,hO⟩:=F env he
 rw [hf] at hf';cases hf'
 exact ⟨hb,⟨o,ho,hd⟩,hO⟩
theorem Fun.after {base:Heap} {X:Addr->Prop} {l:List Env} {ρ ρ':Map} {σ σ':Sto} {s s':Shared} (F:Fun base l ρ σ s.heap) (A:After base X ρ σ s ρ' σ' s') (hX:∀ a∈frs l,¬ X a):Fun base l ρ' σ' s'.heap:=by
 intro env he
 obtain ⟨hk,L,o,hf,hb,ho,hd,hO⟩:=F env he
 have hm:L∈frs l:=List.mem_filterMap.mpr ⟨env,he,hf⟩
 exact ⟨hk,L,o,hf,hb,A.kept L o (hX L hm) hO ho,hd,fun q=>hO (A.own_back q (Heap.lt_size ho))⟩
theorem Fun.step {base:Heap} {l:List Env} {ρ ρ':Map} {σ σ':Sto} {s s':Shared} (F:Fun base l ρ σ s.heap) (A:After base noX ρ σ s ρ' σ' s'):Fun base l ρ' σ' s'.heap:=F.after A fun _ _ h=>h
theorem Fun.frames {base B:Heap} {ρ:Map} {σ:Sto} {h:Heap} {l:List Env} (F:Fun base l ρ σ h) (hB:∀ a∈frs l,B.get? a=none):h.FunFrames B l:=by
 induction l with
 | nil=>exact trivial
 | cons env l ih=>
  obtain ⟨hk,L,o,hf,_,ho,hd,_⟩:=F env (.head _)
  refine ⟨hk,⟨L,o,hf,hB L (List.mem_filterMap.mpr ⟨env,.head _,hf⟩),ho,hd⟩,ih (fun e he=>F e (.tail _ he)) fun a ha=>hB a ?_⟩
  obtain ⟨e',he',hf'⟩:=mem_frs ha
  exact List.mem_filterMap.mpr ⟨e',.tail _ he',hf'⟩
noncomputable def FrSame (l:List Env) (h h':Heap):Prop:=∀ a∈frs l,∀ o,h.get? a=some o->∃ sl,h'.get? a=some { o with slots:=sl }
theorem FrSame.refl {l:List Env} {h:Heap}:FrSame l h h:=fun a _ o e=>⟨o.slots,e⟩
theorem FrSame.trans {l:List Env} {h₁ h₂ h₃:Heap} (x:FrSame l h₁ h₂) (y:FrSame l h₂ h₃):FrSame l h₁ h₃:=fun a ha o e=>by
 obtain ⟨sl,e1⟩:=x a ha o e
 obtain ⟨sl2,e2⟩:=y a ha _ e1
 exact ⟨sl2,e2⟩
theorem FrSame.after {base:Heap} {X:Addr->Prop} {l:List Env} {ρ ρ':Map} {σ σ':Sto} {s s':Shared} (F:Fun base l ρ σ s.heap) (A:After base X ρ σ s ρ' σ' s') (hX:∀ a∈frs l,¬ X a):FrSame l s.heap s'.heap:=
 fun a ha o e=>⟨o.slots,A.kept a o (hX a ha) (F.mem ha).2.2 e⟩
theorem FrSame.slots {base:Heap} {l:List Env} {ρ:Map} {σ:Sto} {h h':Heap} (F:Fun base l ρ σ h) (k:h.UpToSlots h'):FrSame l h h':=fun a ha o e=>by
 obtain ⟨_,⟨o',ho',hd⟩,_⟩:=F.mem ha
 rw [e] at ho';cases ho'
 exact k a o e hd
structure Bad (base:Heap) (X:Addr->Prop) (l l':List Env) (ρ:Map) (σ:Sto) (s:Shared) (ρ':Map) (σ':Sto) (s':Shared) (e:Addr):Prop where
 of:∃ B a0,After base X ρ σ s ρ' σ' { s' with heap:=B }/\Heap.FlyingW B l e (.ref errC) a0 s'.heap/\B.objs.size<=s'.heap.objs.size
 same:FrSame l' s.heap s'.heap
section
variable {base:Heap} {X Y:Addr->Prop} {l l':List Env} {ρ ρ₁ ρ':Map} {σ σ₁ σ':Sto} {s s₁ s':Shared} {e:Addr}
theorem After.toB {B:Heap} {t:Nat} (A:After base X ρ σ s ρ' σ' s') (hb:∀ a o,base.get? a=some o->B.get? a=some o) (hO:∀ a,Own ρ' σ' a->∀ o,s'.heap.get? a=some o->B.get? a=some o) (hz:s'.heap.objs.size<=B.objs.size)
  (hk:∀ a o,¬ Y a->¬ Own ρ σ a->s.heap.get? a=some o->s'.heap.get? a=some o->B.get? a=some o) (hXY:∀ a,X a->Y a\/s.heap.objs.size<=a):After base Y ρ σ s ρ' σ' { s' with heap:=B,toks:=t }:=
 ⟨A.rel.move hb hO hz,A.le,A.agree,A.shape,fun a o hY hn ha=>hk a o hY hn ha (A.kept a o (fun q=>(hXY a q).elim hY fun z=>absurd (Heap.lt_size ha) (Nat.not_lt.mpr z)) hn ha),A.new,Nat.le_trans A.size hz,A.gens,A.bare,A.os⟩
theorem Bad.step (A:After base noX ρ σ s ρ₁ σ₁ s₁) (F:Fun base l' ρ σ s.heap) (b:Bad base Y l l' ρ₁ σ₁ s₁ ρ' σ' s' e):Bad base Y l l' ρ σ s ρ' σ' s' e:=by
 obtain ⟨⟨B,a0,b1,b2,b3⟩,b4⟩:=b
 exact ⟨⟨B,a0,(A.weaken fun _ q=>q.elim).trans b1,b2,b3⟩,(FrSame.after F A fun _ _ q=>q).trans b4⟩
theorem Bad.drop (b:Bad base X l l' ρ σ s ρ' σ' s' e) (h:∀ a,X a->Y a\/s.heap.objs.size<=a):Bad base Y l l' ρ σ s ρ' σ' s' e:=by
 obtain ⟨⟨B,a0,b1,b2,b3⟩,b4⟩:=b
 exact ⟨⟨B,a0,b1.drop h,b2,b3⟩,b4⟩
theorem Bad.landed {h':Heap} {t:Nat} {B:Heap} (b1:After base X ρ σ s ρ' σ' { s' with heap:=B }) (hs:B.StaysIn h') (hz:B.objs.size<=h'.objs.size):After base X ρ σ s ρ' σ' { s' with heap:=h',toks:=t }:=
 ⟨b1.rel.move (fun a o q=>hs a o (b1.rel.stays a o q)) (fun a ho o q=>hs a o q) hz,b1.le,b1.agree,b1.shape,fun a o hX hO e=>hs a o (b1.kept a o hX hO e),b1.new,Nat.le_trans b1.size hz,b1.gens,b1.bare,b1.os⟩
end
noncomputable def Rsd (base:Heap) (X:Addr->Prop) (env:Env) (l:List Env) (ρ:Map) (σ:Sto) (s:Shared) (ρ':Map) (σ':Sto) (s':Shared) (e:Addr):Prop:=
 (∃ s₁ h tk t D es,After base X ρ σ s ρ' σ' s₁/\Fun base (env :: l) ρ' σ' s₁.heap/\s'={ s₁ with heap:=h,toks:=tk }/\ExcS s₁.heap e t D es h)\/Bad base (fun a=>X a\/a∈frs (env :: l)) (env :: l) l ρ σ s ρ' σ' s' e
section
variable {base:Heap} {X Y:Addr->Prop} {env:Env} {l:List Env} {ρ ρ₁ ρ':Map} {σ σ₁ σ':Sto} {s s₀ s₁ s':Shared} {e L:Addr} {M:Model} {A:Around} {E:Value->Shared->Prop} {Q:Unit->Shared->Prop}
theorem fN (hf:env.frame=some L):frs (env :: l)=L :: frs l:=by show List.filterMap _ _=_;rw [List.filterMap_cons,hf]
theorem Rsd.from (A:After base X ρ σ s ρ₁ σ₁ s₁) (F:Fun base l ρ σ s.heap) (hX:∀ a∈frs l,¬ X a) (b:Rsd base X env l ρ₁ σ₁ s₁ ρ' σ' s' e):Rsd base X env l ρ σ s ρ' σ' s' e:=by
 rcases b with ⟨s₂,h,tk,t,D,es,a,f,r,S⟩ | ⟨⟨B,a0,b1,b2,b3⟩,b4⟩
 ·exact .inl ⟨s₂,h,tk,t,D,es,A.trans a,f,r,S⟩
 ·exact .inr ⟨⟨B,a0,(A.weaken fun _=>.inl).trans b1,b2,b3⟩,(FrSame.after F A hX).trans b4⟩
theorem rU (hfr:A.frames=some (env :: l)) (hf:env.frame=some L) (A0:After base noX ρ σ s₀ ρ σ s) (F0:Fun base l ρ σ s₀.heap) (hL:s₀.heap.objs.size<=L) (hX:∀ a,X a->a∈frs l\/s₀.heap.objs.size<=a) (hXl:∀ a∈frs l,¬ X a)
  (R:Rsd base X env l ρ σ s ρ' σ' s' e) (hQ:∀ s'',Bad base (·∈frs l) l l ρ σ s₀ ρ' σ' s'' e->Q () s''):wpAny M A (leaving env (.ref e)) Q E s':=by
 rcases R with ⟨s₁,h,tk,t,D,es,a,F1,rfl,S⟩ | ⟨⟨B,a0,b1,b2,b3⟩,b4⟩
 ·obtain ⟨ox,od,II,hox,_⟩:=S.at_.inst
  subst hox
  have hBn:∀ a∈frs (env :: l),(hideAll s₁.heap (frs (env :: l))).get? a=none:=fun a ha=>hideAll_none _ ha
  have hst:(hideAll s₁.heap (frs (env :: l))).StaysIn h:=fun b o q=>S.kept b o (of_hideAll _ q)
  have hen:(hideAll s₁.heap (frs (env :: l))).get? e=none:=by
   cases q:(hideAll s₁.heap (frs (env :: l))).get? e with
   | none=>rfl
   | some o=>have:=of_hideAll _ q;rw [S.new] at this;cases this
  have hl:h.FunFrames (hideAll s₁.heap (frs (env :: l))) (env :: l):=(F1.frames hBn).of_keeps fun b o q _=>⟨o,S.kept b o q,rfl⟩
  refine cV (wpAny_leaving_firstW (s:={ s₁ with heap:=h,toks:=tk }) (base:=hideAll s₁.heap (frs (env :: l))) (a0:=t) hfr hl hf II.at_ hst hen rfl rfl rfl fun h' hLW hz=>?_)
  obtain ⟨k1,⟨_,_,k2⟩,k3,k4⟩:=hLW
  refine hQ _ ⟨⟨_,t,?_,⟨k1,hen,k2,k3⟩,?_⟩,?_⟩
  ·have A1:=(A0.weaken (Y:=X) fun _ q=>q.elim).trans a
   refine After.toB (s':=s₁) (B:=hideAll s₁.heap (frs (env :: l))) (t:=tk) A1 (fun b o q=>hideAll_get _ (A1.rel.stays b o q) fun hm=>?_) (fun b ho o q=>hideAll_get _ q fun hm=>(F1.mem hm).2.2 ho) (by rw [hideAll_size];exact Nat.le_refl _) (fun b o hY hn h0 h1=>hideAll_get _ h1 fun hm=>?_) hX
   ·have:=(F1.mem hm).1;rw [q] at this;cases this
   ·rw [fN hf] at hm
    rcases List.mem_cons.mp hm with rfl | hm
    ·exact absurd (Heap.lt_size h0) (Nat.not_lt.mpr hL)
    ·exact hY hm
  ·rw [hideAll_size];exact Nat.le_trans S.size hz
  ·have f1:=FrSame.after F0 ((A0.weaken (Y:=X) fun _ q=>q.elim).trans a) hXl
   have f2:FrSame l s₁.heap h:=fun b hb o q=>⟨o.slots,S.kept b o q⟩
   refine (f1.trans f2).trans fun b hb o q=>?_
   have hb':b∈frs (env :: l):=by rw [fN hf];exact .tail _ hb
   obtain ⟨_,⟨o',ho',hd⟩,_⟩:=F1.mem hb'
   have:o=o':=Option.some.inj (q.symm.trans (S.kept b o' ho'))
   subst this
   exact k4 b o q hd
 ·refine cV (wpAny_leaves_onW hfr hf b2 fun h' k1 k2 hz=>?_)
  refine hQ _ ⟨⟨B,a0,((A0.weaken (Y:=fun a=>X a\/a∈frs (env :: l)) fun _ q=>q.elim).trans b1).drop (fun a ha=>ha.elim (hX a) fun hm=>?_),k1,Nat.le_trans b3 hz⟩,?_⟩
  ·rw [fN hf] at hm
   rcases List.mem_cons.mp hm with rfl | hm
   ·exact .inr hL
   ·exact .inl hm
  have f0:=FrSame.after F0 A0 fun _ _ q=>q
  have f1:FrSame l s.heap s'.heap:=b4
  refine (f0.trans f1).trans fun b hb o q=>?_
  obtain ⟨_,⟨o₀,ho₀,hd⟩,_⟩:=F0.mem hb
  obtain ⟨sl,e1⟩:=(f0.trans f1) b hb o₀ ho₀
  have:o=_:=Option.some.inj (q.symm.trans e1)
  subst this
  exact k2 b _ q hd
end
noncomputable abbrev BX:=Loc->Sto->Option Sto
noncomputable abbrev BF:=List Val->Sto->Option Sto
noncomputable def FnBad (G:G0) (d:Nat) (fa:Addr) (g:BF):Prop:=
 ∀ (A:Around) (ρ:Map) (σ:Sto) (s:Shared) (vs:List Val) (vals:List Value) (σ':Sto) (l:List Env) (R:Result->Shared->Prop),
  Room A d->A.frames=some l->Fun G.base l ρ σ s.heap->Rel G.base ρ σ s.heap->All2 (VR ρ σ.n) vs vals->g vs σ=some σ'->
  (∀ ρ' s' e,Bad G.base (·∈frs l) l l ρ σ s ρ' σ' s' e->R (.error (.ref e)) s')->codeAny (model G.prog G.w) A (.call (.ref fa) ⟨vals,[]⟩) R s
noncomputable def SEX (G:G0) (sc:Scope) (d:Nat) (e:Expr) (f:BX):Prop:=
 ∀ (x:Vx) (A:Around) (lm:Loc) (ρ:Map) (σ:Sto) (s:Shared) (σ':Sto) (l:List Env) (Q:Value->Shared->Prop) (E:Value->Shared->Prop),
  Room A d->A.frames=some l->Fun G.base l ρ σ s.heap->Here G.base (x.env sc) lm ρ σ s->f lm σ=some σ'->
  (∀ ρ' s' e,Bad G.base (·∈frs l) l l ρ σ s ρ' σ' s' e->E (.ref e) s')->wpAny (model G.prog G.w) A (eval e (x.env sc)) Q E s
structure Fr1 (sc:Scope) (x:Vx) (A:Around) (l:List Env):Prop where
 frames:A.frames=some (x.env sc :: l)
 frame:x.frame=some x.L
 nocells:x.cells=[]
 notin:x.L ∉ frs l
theorem Fr1.fa {sc:Scope} {x:Vx} {A:Around} {l:List Env} (F:Fr1 sc x A l) {a:Addr} (h:aE (x.env sc) a):a=x.L:=by
 rcases h with h | ⟨y,h⟩
 ·exact h
 ·have h:x.cells.lookup y=some a:=h
  rw [F.nocells] at h;cases h
theorem Fr1.out {sc:Scope} {x:Vx} {A:Around} {l:List Env} (F:Fr1 sc x A l):∀ a∈frs l,¬ aE (x.env sc) a:=fun a ha h=>F.notin (F.fa h▸ha)
noncomputable def SSX (G:G0) (sc:Scope) (d:Nat) (st:Stmt) (f:BX):Prop:=
 ∀ (x:Vx) (A:Around) (lm:Loc) (ρ:Map) (σ:Sto) (s:Shared) (σ':Sto) (l:List Env) (Q:Flow->Shared->Prop) (E:Value->Shared->Prop),
  Room A d->Fr1 sc x A l->Fun G.base l ρ σ s.heap->Here G.base (x.env sc) lm ρ σ s->f lm σ=some σ'->
  (∀ ρ' s' e,Rsd G.base (aE (x.env sc)) (x.env sc) l ρ σ s ρ' σ' s' e->E (.ref e) s')->wpAny (model G.prog G.w) A (exec st (x.env sc)) Q E s
noncomputable def SBX (G:G0) (sc:Scope) (d:Nat) (st:List Stmt) (f:BX):Prop:=
 ∀ (x:Vx) (A:Around) (lm:Loc) (ρ:Map) (σ:Sto) (s:Shared) (σ':Sto) (l:List Env) (Q:Flow->Shared->Prop) (E:Value->Shared->Prop),
  Room A d->Fr1 sc x A l->Fun G.base l ρ σ s.heap->Here G.base (x.env sc) lm ρ σ s->f lm σ=some σ'->
  (∀ ρ' s' e,Rsd G.base (aE (x.env sc)) (x.env sc) l ρ σ s ρ' σ' s' e->E (.ref e) s')->wpAny (model G.prog G.w) A (execs st (x.env sc)) Q E s
section
variable {G:G0} {sc:Scope} {d:Nat}
theorem Here.fun_ {base:Heap} {x:Vx} {lm:Loc} {ρ:Map} {σ:Sto} {s:Shared} (hk:sc.kind=.function) (hf:x.frame=some x.L) (H:Here base (x.env sc) lm ρ σ s):sc.kind≠.module/\∃ L o,x.frame=some L/\base.get? L=none/\s.heap.get? L=some o/\(∀ vs,o.data≠.fields vs)/\¬ Own ρ σ L:=by
 obtain ⟨m,⟨o,es,ep,ho,hd,_⟩,_⟩:=H.locs
 refine ⟨fun q=>(nomatch (hk.symm.trans q)),x.L,o,hf,Heap.get?_none_of_le (H.low x.L (.inl rfl)),ho,fun vs q=>?_,H.own x.L (.inl rfl)⟩
 rw [hd] at q;cases q
theorem Fun.cons {base:Heap} {x:Vx} {lm:Loc} {ρ:Map} {σ:Sto} {s:Shared} {l:List Env} (hk:sc.kind=.function) (hf:x.frame=some x.L) (H:Here base (x.env sc) lm ρ σ s) (F:Fun base l ρ σ s.heap):Fun base (x.env sc :: l) ρ σ s.heap:=by
 intro env he
 rcases List.mem_cons.mp he with rfl | he
 ·exact H.fun_ hk hf
 ·exact F env he
noncomputable def seqX (f:SF) (g:BX):BX:=fun l σ=>(f l σ).bind fun a=>match a.1 with
 | .next=>g a.2.1 a.2.2
 | _=>none
theorem SBX.seq {st:Stmt} {r:List Stmt} {f:SF} {g:BX} (h:SS G sc d st f) (hr:SBX G sc d r g):SBX G sc d (st :: r) (seqX f g):=by
 intro x A lm ρ σ s σ' l Q E rm F1 Fn H e hE
 obtain ⟨⟨fl,l₁,σ₁⟩,h1,e⟩:=obx e
 cases fl<;>first | (cases e;done) | skip
 refine wpAny_execs_cons (h x A lm ρ σ s _ _ _ _ _ rm H h1 fun ρ₁ s₁ flw A1 H1 F2=>?_)
 cases F2
 exact hr x A _ _ _ _ _ _ _ _ rm F1 (Fn.after A1 F1.out) H1 e fun ρ' s' e' R=>hE ρ' s' e' (R.from A1 Fn F1.out)
theorem SBX.here {st:Stmt} {r:List Stmt} {f:BX} (h:SSX G sc d st f):SBX G sc d (st :: r) f:=fun x A lm ρ σ s σ' l Q E rm F1 Fn H e hE=>
 wpAny_execs_cons (h x A lm ρ σ s σ' l _ E rm F1 Fn H e hE)
noncomputable def iteX (t:TF) (f g:BX):BX:=fun l σ=>(t l σ).bind fun b=>if b.1 then f l b.2 else g l b.2
theorem SSX.ite {p:Pos} {t:Expr} {b1 b2:List Stmt} {ft:TF} {f g:BX} (ht:ST G sc d t ft) (hf:SBX G sc d b1 f) (hg:SBX G sc d b2 g):SSX G sc d (.If t b1 b2 p) (iteX ft f g):=by
 intro x A lm ρ σ s σ' l Q E rm F1 Fn H e hE
 obtain ⟨⟨b,σ₁⟩,h1,e⟩:=obx e
 refine wpAny_If (ht x A lm ρ σ s b _ _ _ rm H h1 fun ρ₁ s₁ A1=>?_)
 have A1':=A1.weaken (Y:=aE (x.env sc)) fun _ h=>h.elim
 cases b
 ·exact hg x A _ _ _ _ _ _ _ _ rm F1 (Fn.step A1) (H.step A1) e fun ρ' s' e' R=>hE ρ' s' e' (R.from A1' Fn F1.out)
 ·exact hf x A _ _ _ _ _ _ _ _ rm F1 (Fn.step A1) (H.step A1) e fun ρ' s' e' R=>hE ρ' s' e' (R.from A1' Fn F1.out)
theorem SBX.dead {st:List Stmt}:SBX G sc d st (fun _ _=>none):=fun _ _ _ _ _ _ _ _ _ _ _ _ _ _ h=>by cases h
theorem SSX.expr {p:Pos} {e:Expr} {f:BX} (hk:sc.kind=.function) (h:SEX G sc d e f) (hi:∀ y:Vx,interactive (y.env sc)=false) (hs:∀ env,swapsWith e none p.line env=pure false):SSX G sc d (.Expr e p) f:=by
 intro x A lm ρ σ s σ' l Q E rm F1 Fn H eq hE
 have Fc:=Fun.cons hk F1.frame H Fn
 refine wpAny_Expr_any (h x A lm ρ σ s σ' _ _ _ rm F1.frames Fc H eq fun ρ' s' e' b=>hE ρ' s' e' (.inr ?_)) (hi x) (hs _)
 obtain ⟨⟨B,a0,b1,b2,b3⟩,b4⟩:=b
 exact ⟨⟨B,a0,b1.weaken fun _=>.inr,b2,b3⟩,fun a ha o q=>b4 a (by rw [fN F1.frame];exact .tail _ ha) o q⟩
noncomputable def SA (G:G0) (sc:Scope) (d:Nat) (e:Expr) (f:BX):Prop:=
 ∀ (x:Vx) (A:Around) (lm:Loc) (ρ:Map) (σ:Sto) (s:Shared) (σ':Sto) (Q:Value->Shared->Prop) (E:Value->Shared->Prop),
  Room A d->Here G.base (x.env sc) lm ρ σ s->f lm σ=some σ'->(∀ ρ' s' val,After G.base noX ρ σ s ρ' σ' s'->handedIn val=true->Q val s')->wpAny (model G.prog G.w) A (eval e (x.env sc)) Q E s
theorem SA.of {e:Expr} {f:EF} (h:SE G sc d e f):SA G sc d e (fun l σ=>(f l σ).map (·.2)):=by
 intro x A lm ρ σ s σ' Q E rm H eq hQ
 obtain ⟨⟨v,σ₁⟩,h1,e2⟩:=omx eq
 cases e2
 exact h x A lm ρ σ s v _ _ _ rm H h1 fun ρ' s' val A1 V=>hQ _ _ _ A1 V.handed
end
section
variable {G:G0} {sc:Scope} {d:Nat}
theorem raise_err {env:Env} {M:Model} {A:Around} {E:Value->Shared->Prop} {s:Shared} {x:Sem Value} {Q:Flow->Shared->Prop} (EK:ErrK2 G.K) (hh:A.handled=none)
  (h:wpAny M A x (fun v s₁=>∃ e t D es,v=.ref e/\ExcD s₁.heap e t D es/\G.K.In s₁.heap/\E (.ref e) s₁) E s):wpAny M A (raiseStmt env (some x) none) Q E s:=by
 have hcB:(Value.ref errC :: gC).contains (.type "BaseException")=true:=by decide
 unfold raiseStmt
 refine wpAny_bind (wpAny_mono h (fun v s₁ h₁=>?_) fun _ _ x=>x)
 obtain ⟨e,t,D,es,rfl,I,X,hE⟩:=h₁
 obtain ⟨ox,od,II,hox,_⟩:=I.inst
 subst hox
 have he:=II.at_
 obtain ⟨nm,q,bs,sn,sub,ab,col,dd,k0,k1,k2,k3,k5,ho⟩:=EK.obj
 have hC:=X _ _ ho
 obtain ⟨hp,g,dr,tk,os⟩:=s₁
 repeat (first | with_reducible refine wpAny_loadPart_at he ?_ | with_reducible refine wpAny_loadPart_at hC ?_ | (with_reducible refine wpAny_isSubtype_exc hC ?_;rw [hcB]) | wp_step)
 exact wpAny_raiseNew_none hh hE
theorem SSX.raise {np cp pos:Pos} {arg:Expr} {f:BX} (hk:sc.kind=.function) (EK:ErrK2 G.K) (I:pR G errI 2) (hn:SE G sc d (.Name "QuotientFilterError" np) (kF (.fn errC))) (hkeep:keepIn G.K (.ref errC)=true) (ha:SA G sc d arg f)
  (hs:∀ env,starEach [arg] env=[(false,eval arg env)])
  (hc:∀ env,eval (.Call (.Name "QuotientFilterError" np) [arg] [] cp) env=(do callWith cp (<- eval (.Name "QuotientFilterError" np) env) [] (backTo cp (starEach [arg] env)) (backToKw cp (keywordEach [] env)))) :
  SSX G sc d (.Raise (some (.Call (.Name "QuotientFilterError" np) [arg] [] cp)) none pos) f:=by
 intro x A lm ρ σ s σ' l Q E rm F1 Fn H eq hE
 rw [arm_exec_Raise]
 refine wpAny_bind (wpAny_standAt ?_)
 show wpAny _ _ (raiseStmt _ (some (do let v <- eval (.Call (.Name "QuotientFilterError" np) [arg] [] cp) (x.env sc);standAt pos;pure v)) none) _ _ _
 refine raise_err (G:=G) EK rm.2.2 (wpAny_bind ?_)
 refine Call_ (hn x A lm ρ σ s _ _ _ _ rm H rfl fun ρ₀ s₀ va A0 Va=>?_) (hc _)
 cases Va
 refine cF (K:=G.K) hkeep (fun env=>by rw [hs];rfl) ?_
 rw [hs]
 refine Calls.spliced_cons (ha x A lm ρ₀ σ s₀ _ _ _ rm (H.step A0) eq fun ρ₁ s₁ val A1 hv=>Calls.spliced_nil ⟨G.ok.X.keeps A1.rel.stays,?_⟩)
 refine exc_make EK I (by have:=rm.1;unfold recursionLimit;lia) A1.rel.stays hv fun h' tk e t D es S=>?_
 refine wpAny_bind (wpAny_standAt (wpAny_pure ⟨e,t,D,es,rfl,S.at_,G.ok.X.keeps fun a o q=>S.kept a o (A1.rel.stays a o q),?_⟩))
 have A01:=A0.trans A1
 exact hE ρ₁ _ e (.inl ⟨s₁,h',tk,t,D,es,A01.weaken fun _ q=>q.elim,Fun.cons hk F1.frame (H.step A01) (Fn.step A01),rfl,S⟩)
noncomputable def lH (C:Addr) (x:String) (g:BF) (f:EF) (fa:LF):BX:=fun l σ=>(f l σ).bind fun o=>(asR o.1).bind fun i=>(asO C (o.2.get i)).bind fun fs=>(noV (getF fs x)).bind fun _=>(fa l o.2).bind fun a=>g (.ref i :: a.1) a.2
theorem methX_inv {C:Addr} {x:String} {g:BF} {f:EF} {fa:LF} {l:Loc} {σ σ':Sto} (e:lH C x g f fa l σ=some σ') :
  ∃ i fs σ₁ vs σ₂,f l σ=some (.ref i,σ₁)/\σ₁.get i=.inst C fs/\getF fs x=none/\fa l σ₁=some (vs,σ₂)/\g (.ref i :: vs) σ₂=some σ':=by
 refine obE e fun o h1 e=>obE e fun i h2 e=>obE e fun fs h3 e=>obE e fun _ h4 e=>obE e fun a h5 e=>?_
 exact ⟨i,fs,o.2,a.1,a.2,prR h1 h2,dF h3,kP h4,h5,e⟩
theorem SEX.meth {C:Addr} {x:String} {e:Expr} {args:List Expr} {ap p:Pos} {fa:Addr} {g:BF} {f:EF} {fl:LF} (hC:Cls G.K C) (hf:findIn G.K (.ref C) (Str.ofString x)=some (some (.ref fa))) (hfn:isFn G.K (.ref fa)=true)
  (hk:keepIn G.K (.ref fa)=true) (F:FnBad G d fa g) (he:SE G sc d e f) (ha:SL G sc d args fl)
  (hm:∀ env,∃ pl,eval (.Call (.Attribute e (Str.ofString x) ap) args [] p) env=(do
   let ov <- eval e env
   standAt ap.atName
   let (f,first) <- holding [ov] (getMethod ov (Str.ofString x) pl)
   callWith p f first (backTo p (starEach args env)) []))
  (hs:∀ env,starEach args env=args.map fun e=>(false,eval e env)):SEX G sc d (.Call (.Attribute e (Str.ofString x) ap) args [] p) (lH C x g f fl):=by
 intro y A lm ρ σ s σ' l Q E rm hfr Fn H eq hE
 obtain ⟨i,fs,σ₁,vs,σ₂,h1,h2,h3,h4,h5⟩:=methX_inv eq
 obtain ⟨pl,hm⟩:=hm (y.env sc)
 refine MethodCall_ (pl:=pl) (he y A lm ρ σ s _ _ _ _ rm H h1 fun ρ₁ s₁ va A1 Va=>?_) hm
 obtain ⟨hi,rfl⟩:=Va
 obtain ⟨es,ep,I,r⟩:=A1.rel.inst hi h2
 have gl:=r.get (x:=x)
 rw [h3] at gl
 refine method_fn (G.ok.X.keeps A1.rel.stays) I hC.ga hC.gn hf (beq_iff_eq.mp hfn) (by show (lookIn _ (dictOf es ep)).map _=_;rw [lookIn_dict,gl];rfl) ?_
 refine cF hk hs (ha y p A lm ρ₁ σ₁ s₁ _ _ _ _ rm (H.step A1) h4 fun ρ₂ s₂ vals A2 Vs=>⟨G.ok.X.keeps A2.rel.stays,?_⟩)
 have A12:=A1.trans A2
 refine wpAny_call (F A ρ₂ σ₂ s₂ _ _ σ' l _ rm hfr (Fn.step A12) A2.rel (.cons (show VR ρ₂ σ₂.n (.ref i) _ from VR.after (show VR ρ₁ σ₁.n (.ref i) _ from ⟨hi,rfl⟩) A2) Vs) h5 fun ρ' s' e' b=>?_)
 exact hE ρ' s' e' (b.step A12 Fn)
noncomputable def newX (C:Addr) (g:BF) (f:LF):BX:=fun l σ=>(f l σ).bind fun a=>g (.ref a.2.n :: a.1) (a.2.push (.inst C []))
theorem SEX.new {C fa:Addr} {g:BF} {f:LF} {e:Expr} {args:List Expr} {p:Pos} (he:SE G sc d e (kF (.fn C))) (hk:keepIn G.K (.ref C)=true) (hm:makesIn G.K C=true)
  (hi:findIn G.K (.ref C) "__init__"=some (some (.ref fa))) (hf:typeIn G.K (.ref fa)=some (.type "function")) (F:FnBad G d fa g) (ha:SL G sc (d+1) args f)
  (hc:∀ env,eval (.Call e args [] p) env=(do callWith p (<- eval e env) [] (backTo p (starEach args env)) (backToKw p (keywordEach [] env))))
  (hs:∀ env,starEach args env=args.map fun e=>(false,eval e env)):SEX G sc (d+1) (.Call e args [] p) (newX C g f):=by
 intro x A lm ρ σ s σ' l Q E rm hfr Fn H eq hE
 obtain ⟨⟨vs,σ₁⟩,h1,h2⟩:=obx eq
 refine Call_ (he x A lm ρ σ s _ _ _ _ (rm.mono (Nat.le_succ _)) H rfl fun ρ₀ s₀ va A0 Va=>?_) (hc _)
 cases Va
 refine cF hk hs (ha x p A lm ρ₀ σ s₀ _ _ _ _ rm (H.step A0) h1 fun ρ₁ s₁ vals A1 Vs=>⟨G.ok.X.keeps A1.rel.stays,?_⟩)
 have X:=G.ok.X.keeps A1.rel.stays
 obtain ⟨ρ₂,A2,V2⟩:=oD (X:=noX) (C:=C) (s:=s₁) A1.rel
 have A02:=(A0.trans A1).trans A2
 obtain ⟨hh,gg,dd,tt,oo⟩:=s₁
 refine wpAny_call (make_core (makes_of X hm) (looks_findIn X hi) (fun self=>bind_fn X self hf) (.inl rfl) ?_)
 refine F _ ρ₂ _ _ _ _ σ' l _ rm.under hfr (Fn.step A02) A2.rel (.cons V2 (VRs.after Vs A2)) h2 fun ρ' s' e' b=>?_
 exact hE ρ' s' e' (b.step A02 Fn)
end
section
variable {G:G0} {sc:Scope} {d:Nat}
noncomputable def kM (ps:List String) (dv:List Val) (b:BX):BF:=fun vs σ=>if (vs ++ dv).length=ps.length then b (aJ ps (vs ++ dv)) σ else none
theorem FnBad.mono {d d':Nat} {fa:Addr} {g:BF} (h:FnBad G d fa g) (hd:d<=d'):FnBad G d' fa g:=fun A ρ σ s vs vals σ' l R r=>h A ρ σ s vs vals σ' l R (r.mono hd)
set_option tactic.hygienic true in
theorem FnBad.ofD {name qual:Str} {params:Arguments} {body:List Stmt} {scope:Scope} {dV kV doc pm cdv ct oc:Value} {an od:Option Addr} {osl:Array (Option Value)} {fa:Addr} {ps:List String} {dv:List Val} {dvv:List Value} {b:BX}
  (ho:G.K.lookup fa=some ⟨oc,od,.func (fnX name qual params body scope [] dV kV doc pm an cdv ct),osl⟩) (hcd:codeIn G.K cdv qual=true)
  (hdv:∀ ρ n,All2 (VR ρ n) dv dvv)
  (hb:∀ (s:Shared) (vals:List Value),G.K.In s.heap->vals.length+dv.length=ps.length->BindsTo s (fnX name qual params body scope [] dV kV doc pm an cdv ct) ⟨vals,[]⟩ ((ps.map Str.ofString).zip (vals ++ dvv)))
  (hloc:∀ p∈ps,scope.names.lookup (Str.ofString p)=some .local) (hcell:∀ x∈scope.names,x.2≠.cell)
  (hco:scope.isCoroutine=false) (hgen:scope.isGenerator=false) (hk:scope.kind=.function) (B:SBX G scope d body b):FnBad G (d+1) fa (kM ps dv b):=by
 intro A ρ σ s vs₀ vals₀ σ' l R rm hfr Fn Rl Vs₀ eq hR
 unfold kM at eq
 have Vs:=Vs₀.append (hdv ρ σ.n)
 split at eq
 ·rename_i hlen
  have X:=G.ok.X.keeps Rl.stays
  refine codeAny_call_def (fd:=fnX name qual params body scope [] dV kV doc pm an cdv ct) (body:=body) (binds:=(ps.map Str.ofString).zip (vals₀ ++ dvv)) rm.limit (X _ _ ho) rfl (G.ok.nolimit.keeps Rl.stays) (codeRec_of X hcd) rfl
   (hb s vals₀ X (by rw [List.length_append] at hlen;rw [<- Vs₀.length];exact hlen)) hcell (fun y hy=>by obtain ⟨p,hp,e⟩:=bJ hy;rw [e];exact hloc p hp) (fun h₁ hns hk₁=>?_) hco hgen hk
  have hsz:s.heap.objs.size<=h₁.objs.size:=by obtain ⟨_,_,_,e,_⟩:=hns;exact Nat.le_of_lt (Heap.lt_size e)
  have A0:After G.base noX ρ σ s ρ σ { s with heap:=h₁,toks:=s.toks+((ps.map Str.ofString).zip (vals₀ ++ dvv)).length }:=After.grow Rl hsz hk₁
  let x:Vx:=vx qual s.heap.objs.size fa cdv []
  have fx:∀ a,aE (x.env scope) a->a=s.heap.objs.size:=fun a ha=>by
   rcases ha with h | ⟨y,h⟩
   ·exact h
   ·cases h
  have H:Here G.base (x.env scope) (aJ ps (vs₀ ++ dv)) ρ σ { s with heap:=h₁,toks:=s.toks+((ps.map Str.ofString).zip (vals₀ ++ dvv)).length }:=by
   refine ⟨A0.rel,⟨_,hns,fun y u hy=>?_⟩,fun a ha ho=>?_,fun a ha=>by rw [fx a ha];exact Rl.size,fun a ha=>by rw [fx a ha];obtain ⟨_,_,_,e,_⟩:=hns;exact Heap.lt_size e,fun y c hc=>(nomatch hc),fun y z c hc=>(nomatch hc),fun y c hc=>(nomatch hc),fun y hy=>absurd rfl (hcell _ (bT hy))⟩
   ·obtain ⟨val,hv,vr⟩:=iG (iW ps Vs).reverse hy
    refine ⟨val,.inl ⟨?_,hv⟩,vr⟩
    have hm:=List.mem_reverse.mp (bT hv)
    obtain ⟨p,hp,e⟩:=bJ hm
    show scope.names.lookup _=_
    have e:Str.ofString y=Str.ofString p:=e
    rw [e];exact hloc p hp
   ·rw [fx a ha] at ho
    exact absurd (Rl.own_lt ho) (Nat.lt_irrefl _)
  have hdf:(A.deeper (x.env scope)).frames=some (x.env scope :: l):=by show A.frames.map _=_;rw [hfr];rfl
  have F1:Fr1 scope x (A.deeper (x.env scope)) l:=⟨hdf,rfl,rfl,fun hm=>by
   obtain ⟨_,⟨o,ho',_⟩,_⟩:=Fn.mem hm
   exact absurd (Heap.lt_size ho') (Nat.lt_irrefl _)⟩
  refine B x (A.deeper (x.env scope)) (aJ ps (vs₀ ++ dv)) ρ σ _ σ' l _ _ rm.deeper F1 (Fn.step A0) H eq fun ρ' s' e Rz=>?_
  exact rU (L:=s.heap.objs.size) hdf rfl A0 Fn (Nat.le_refl _) (fun a ha=>.inr (Nat.le_of_eq (fx a ha).symm)) F1.out Rz fun s'' b=>hR ρ' s'' e b
 ·cases eq
end
section
variable {G:G0} {sc:Scope} {d:Nat}
theorem tC (i:Int) (h:i=2\/i=32):(toString i:Str).length<=10:=by
 rcases h with rfl | rfl<;>decide +kernel
noncomputable def fstrX (a b:Str) (f:EF):BX:=fun l σ=>(f l σ).bind fun v=>(toI v.1).bind fun i=>if (i=2\/i=32)/\a.length<=1000/\b.length<=1000 then some v.2 else none
theorem SA.fstr {a b:Str} {e:Expr} {k1 k2:Nat} {p1 p2 p3 p:Pos} {f:EF} (h:SE G sc d e f):SA G sc d (.JoinedStr [.Constant (.str a) k1 p1,.FormattedValue e (-1) none p2,.Constant (.str b) k2 p3] p) (fstrX a b f):=by
 intro x A lm ρ σ s σ' Q E rm H eq hQ
 refine obE eq fun v h1 eq=>obE eq fun i h2 eq=>itE eq fun hc e2=>?_
 obtain ⟨v,σ₁⟩:=v
 cases eB h2
 cases e2
 obtain ⟨hi,ha,hb⟩:=hc
 have hd:i.natAbs.log2<1920:=by rcases hi with rfl | rfl<;>decide
 have ht:=tC i hi
 refine wpAny_JoinedStr ?_
 show Joins _ _ _ [eval (.Constant (.str a) k1 p1) (x.env sc),eval (.FormattedValue e (-1) none p2) (x.env sc),eval (.Constant (.str b) k2 p3) (x.env sc)] _ _ _
 refine Calls.Constant_str ⟨a,_,rfl,by rw [strLen_append,sizeLine_eq];show 0+_<=_;lia,?_⟩
 refine wpAny_FormattedValue_plain (h x A lm ρ σ _ _ _ _ _ rm (H.step (After.toks (X:=noX) H.rel)) h1 fun ρ₁ s₁ va A1 Va=>?_)
 obtain ⟨t,rfl⟩:=Va
 refine wpAny_formatField_int hd ⟨_,_,rfl,by rw [strLen_append,strLen_append,sizeLine_eq];show 0+_+_<=_;lia,?_⟩
 refine Calls.Constant_str ⟨b,_,rfl,by rw [strLen_append,strLen_append,strLen_append,sizeLine_eq];show 0+_+_+_<=_;lia,?_⟩
 refine ⟨by rw [strLen_append,strLen_append,strLen_append,sizeLine_eq];show 0+_+_+_<=_;lia,?_⟩
 exact hQ ρ₁ _ _ (((After.toks (X:=noX) H.rel).trans A1).trans (After.toks (X:=noX) A1.rel)) rfl
end
theorem FrSame.more {base:Heap} {l:List Env} {ρ:Map} {σ:Sto} {h h₁ h₂:Heap} (F:Fun base l ρ σ h) (x:FrSame l h h₁) (k:h₁.UpToSlots h₂):FrSame l h h₂:=by
 refine x.trans fun b hb o q=>?_
 obtain ⟨_,⟨o₀,ho₀,hd⟩,_⟩:=F.mem hb
 obtain ⟨sl,e1⟩:=x b hb o₀ ho₀
 have:o=_:=Option.some.inj (q.symm.trans e1)
 subst this
 exact k b _ q hd
section
variable {G:G0} {d:Nat}
noncomputable abbrev qD (np p1 p2 p3 p4 p5 p6 p7 p8 p9:Pos) (k1 k2:Nat):List Stmt:=
 [.Try [.Expr (.Call (.Name "deed" np) [] [] p1) p2,.Return (some (.Constant (.bool false) k1 p3)) p4] [.ExceptHandler (some (.Name "QuotientFilterError" p5)) none [.Return (some (.Constant (.bool true) k2 p6)) p7] p8] [] [] p9]
noncomputable def Deed (G:G0) (d:Nat) (fo:Addr) (b:Bool) (ρ:Map) (σ σ':Sto) (s:Shared):Prop:=
 ∀ (A:Around) (l:List Env) (s₁:Shared) (R:Result->Shared->Prop),Room A d->A.frames=some l->Fun G.base l ρ σ s₁.heap->After G.base noX ρ σ s ρ σ s₁->(∀ a o,s.heap.get? a=some o->s₁.heap.get? a=some o)->
  (b=false->∀ ρ' s' val,After G.base noX ρ σ s₁ ρ' σ' s'->R (.ok (.ret val)) s')->(b=true->∀ ρ' s' e,Bad G.base (·∈frs l) l l ρ σ s₁ ρ' σ' s' e->R (.error (.ref e)) s')->
  codeAny (model G.prog G.w) A (.call (.ref fo) ⟨[],[]⟩) R s₁
theorem oB {name qual:Str} {params:Arguments} {np p1 p2 p3 p4 p5 p6 p7 p8 p9:Pos} {k1 k2:Nat} {scope:Scope} {dV kV doc pm cdv ct oc:Value} {an od:Option Addr} {osl:Array (Option Value)} {fa:Addr}
  (ho:G.K.lookup fa=some ⟨oc,od,.func (fnX name qual params (qD np p1 p2 p3 p4 p5 p6 p7 p8 p9 k1 k2) scope [] dV kV doc pm an cdv ct),osl⟩) (hcd:codeIn G.K cdv qual=true)
  (hb:∀ vals:List Value,vals.length=1->bindArgs (fnX name qual params (qD np p1 p2 p3 p4 p5 p6 p7 p8 p9 k1 k2) scope [] dV kV doc pm an cdv ct) ⟨vals,[]⟩=pure ((["deed"].map Str.ofString).zip vals))
  (hdeed:scope.names.lookup ("deed":Str)=some .local) (hq:scope.names.lookup ("QuotientFilterError":Str)=some .globalImplicit) (hcell:∀ x∈scope.names,x.2≠.cell) (hco:scope.isCoroutine=false) (hgen:scope.isGenerator=false) (hk:scope.kind=.function)
  (hin:∀ y:Vx,interactive (y.env scope)=false) (hen:nsIn G.K mainGlobals "QuotientFilterError"=some (some (.ref errC))) (EK:ErrK2 G.K)
  {A:Around} {ρ:Map} {σ σ':Sto} {s:Shared} {l:List Env} {fo:Addr} {ofo:Obj} {fdo:FuncData} {b:Bool} {R:Result->Shared->Prop} (rm:Room A (d+1)) (hfr:A.frames=some l) (Fn:Fun G.base l ρ σ s.heap) (Rl:Rel G.base ρ σ s.heap)
  (hfo:s.heap.get? fo=some ofo) (hfd:ofo.data=.func fdo) (D:Deed G d fo b ρ σ σ' s) (hR:∀ ρ' s',After G.base (·∈frs l) ρ σ s ρ' σ' s'->FrSame l s.heap s'.heap->R (.ok (.ret (.bool b))) s') :
  codeAny (model G.prog G.w) A (.call (.ref fa) ⟨[.ref fo],[]⟩) R s:=by
 have X:=G.ok.X.keeps Rl.stays
 refine codeAny_call_def (fd:=fnX name qual params (qD np p1 p2 p3 p4 p5 p6 p7 p8 p9 k1 k2) scope [] dV kV doc pm an cdv ct) (binds:=(["deed"].map Str.ofString).zip [.ref fo]) rm.limit (X _ _ ho) rfl (G.ok.nolimit.keeps Rl.stays) (codeRec_of X hcd) rfl
  (.of_eq (hb _ rfl)) hcell (fun y hy=>?_) (fun h₁ hns hk₁=>?_) hco hgen hk
 ·rcases List.mem_cons.mp hy with rfl | hy
  ·exact hdeed
  ·cases hy
 have hsz:s.heap.objs.size<=h₁.objs.size:=Nat.le_of_lt hns.lt
 let L:=s.heap.objs.size
 let x:Vx:=vx qual L fa cdv []
 let env:=x.env scope
 let s₁:Shared:={ s with heap:=h₁,toks:=s.toks+((["deed"].map Str.ofString).zip [Value.ref fo]).length }
 have A0:After G.base noX ρ σ s ρ σ s₁:=After.grow (t:=s.toks+((["deed"].map Str.ofString).zip [Value.ref fo]).length) Rl hsz hk₁
 have hns:h₁.Ns L (fun x=>((["deed"].map Str.ofString).zip [Value.ref fo]).reverse.lookup x):=hns
 have hv:(fun x=>((["deed"].map Str.ofString).zip [Value.ref fo]).reverse.lookup x) ("deed":Str)=some (.ref fo):=by rfl
 generalize (fun x=>((["deed"].map Str.ofString).zip [Value.ref fo]).reverse.lookup x)=mm at hns hv
 have hLo:¬ Own ρ σ L:=fun q=>absurd (Rl.own_lt q) (Nat.lt_irrefl _)
 have hLn:L ∉ frs l:=fun hm=>by
  obtain ⟨_,⟨o,ho',_⟩,_⟩:=Fn.mem hm
  exact absurd (Heap.lt_size ho') (Nat.lt_irrefl _)
 have Fn1:=Fn.step A0
 have Fc:Fun G.base (env :: l) ρ σ s₁.heap:=by
  intro e he
  rcases List.mem_cons.mp he with rfl | he
  ·obtain ⟨o,es,ep,ho',hd',_⟩:=hns
   exact ⟨fun q=>(nomatch (hk.symm.trans q)),L,o,rfl,Heap.get?_none_of_le Rl.size,ho',(fun vs q=>by rw [hd'] at q;cases q),hLo⟩
  ·exact Fn1 e he
 have hdf:(A.deeper env).frames=some (env :: l):=by show A.frames.map _=_;rw [hfr];rfl
 have hfrs:frs (env :: l)=L :: frs l:=fN rfl
 show wpAny _ (A.deeper env) (execs _ env) _ _ s₁
 refine wpAny_execs_cons (wpAny_Try_except ?_)
 refine wpAny_execs_cons (wpAny_Expr_any (Call_ (wpAny_Name (wpAny_loadName_local hk hdeed hns hv ?_) (by decide)) rfl) (hin x) rfl)
 refine callWith_of (P:=fun h=>h.get? fo=some ofo) rfl (fun h hP=>⟨.frame,.inl rfl,(Looks.ld (part:=none) hP).andThen (by rw [hfd];exact .now)⟩) (evalArgs_nil3 ⟨hk₁ _ _ hfo,?_⟩)
 refine wpAny_call (D (A.deeper env) (env :: l) s₁ _ rm.deeper hdf Fc A0 hk₁ (fun hbf ρ' s' val A1=>?_) (fun hbt ρ' s' e bad=>?_))
 ·refine wpAny_execs_cons (wpAny_Return_some (wpAny_Constant_bool ?_))
  have A2:=A0.trans A1
  rw [<- hbf];exact hR ρ' s' (A2.weaken fun _ q=>q.elim) (FrSame.after Fn A2 fun _ _ q=>q)
 ·refine byC fun hN=>?_
  obtain ⟨⟨B,a0,b1,b2,b3⟩,b4⟩:=bad
  have b4':FrSame l s₁.heap s'.heap:=fun a ha o q=>b4 a (by rw [hfrs];exact .tail _ ha) o q
  refine hN (cV (wpAny_looks_onW hdf rfl b2 fun h₄ hh₄ k4 z4=>cV (wpAny_landsW hh₄ fun h₅ f5 k5 z5=>byC fun hN=>?_)))
  have k45:=k4.trans k5
  have X5:G.K.In h₅:=G.ok.X.keeps fun a o q=>f5.1 a o (b1.rel.stays a o q)
  obtain ⟨ob,hob,hobc⟩:=f5.there
  obtain ⟨nm,q,bs,sn,sub,ab,col,dd,c0,c1,c2,c3,c5,hoC⟩:=EK.obj
  refine hN (wpAny_handleBy_cons (codeAny_handlers_test (Name_function_global (env:=env) hk hq (loadGlobal_global (env:=env) (G.ok.g.keeps fun a o q=>f5.1 a o (b1.rel.stays a o q)) (mg_of G.ok.X G.ok.g hen) ?_) (by decide))) (by intro q;cases q))
  refine wpAny_excMatches_sub_self (X5 _ _ hoC) hob hobc (by decide) (codeAny_handlers_suite ?_)
  refine cV (lands_againW f5 fun h₆ f6 k6 z6=>?_)
  refine wpAny_execs_cons (wpAny_Return_some (wpAny_Constant_bool ?_))
  have hz:B.objs.size<=h₆.objs.size:=Nat.le_trans b3 (Nat.le_trans z4 (Nat.le_trans z5 z6))
  have A3:After G.base (·∈frs (env :: l)) ρ σ s₁ ρ' σ' { s' with heap:=h₆,toks:=s'.toks }:=Bad.landed b1 f6.1 hz
  have A4:=((A0.weaken (Y:=(·∈frs (env :: l))) fun _ q=>q.elim).trans A3).drop (Y:=(·∈frs l)) fun a ha=>by
   rw [hfrs] at ha
   rcases List.mem_cons.mp ha with rfl | ha
   ·exact .inr (Nat.le_refl _)
   ·exact .inl ha
  rw [<- hbt];exact hR ρ' _ A4 ((FrSame.after Fn A0 fun _ _ q=>q).trans (FrSame.more Fn1 b4' (k45.trans k6)))
end
set_option tactic.hygienic true in
theorem uD {pos:Pos} {a b:Int} {c cv:Value}:∀ (l:List Value),TriplesOk l->codeAmong pos (l ++ [rawInt a,rawInt b,c])=some cv->codeAmong pos l=some cv\/cv=c:=by
 intro l h e
 fun_induction TriplesOk l with
 | case1=>
  simp only [List.nil_append,rawInt,codeAmong] at e
  split at e<;>cases e
  exact .inr rfl
 | case2 i t j u x rest ih=>
  simp only [List.cons_append,codeAmong] at e |-
  split at e
  ·rename_i q;rw [if_pos q];exact .inl e
  ·rename_i q;rw [if_neg q];exact ih h e
 | case3=>exact h.elim
noncomputable abbrev lawC:Addr:=503
noncomputable abbrev lawP:Addr:=501
structure LawCtx (G:G0) (sc:Scope) (x:Vx) (A:Around):Prop where
 room:Room A 40
 frames:A.frames=some [x.env sc]
 frame:x.frame=some x.L
 code:x.cd=.ref lawC
 kind:sc.kind=.function
 hd:∀ h:Heap,(∀ a o,G.base.get? a=some o->h.get? a=some o)->CodeHd h lawC lawP
 bat:∀ h:Heap,(∀ a o,G.base.get? a=some o->h.get? a=some o)->h.BuiltinsAt G.mg lawP
 low:lawP<G.base.objs.size
 none:G.base.get? lawP=none
noncomputable def TabOK (sc:Scope) (x:Vx) (ρ:Map) (σ:Sto) (h:Heap):Prop:=
 ∃ ps:Array Value,h.get? lawP=some (tabObj ps)/\TriplesOk ps.toList/\∀ pos cv,codeAmong pos ps.toList=some cv->∃ c',cv=.ref c'/\h.CodeRec (.ref c') (x.qual ++ "<lambda>")/\¬ Own ρ σ c'/\¬ aE (x.env sc) c'/\c'≠lawP
section
variable {G:G0} {sc:Scope} {x:Vx} {A:Around} {lm:Loc} {ρ ρ':Map} {σ σ':Sto} {s s':Shared} {X:Addr->Prop}
theorem LawCtx.notP (C:LawCtx G sc x A) (H:Here G.base (x.env sc) lm ρ σ s):¬ aE (x.env sc) lawP/\¬ Own ρ σ lawP:=
 ⟨fun q=>absurd (H.low _ q) (Nat.not_le.mpr C.low),fun q=>absurd (H.rel.above _ q) (Nat.not_le.mpr C.low)⟩
theorem TabOK.after (C:LawCtx G sc x A) (H:Here G.base (x.env sc) lm ρ σ s) (T:TabOK sc x ρ σ s.heap) (B:After G.base X ρ σ s ρ' σ' s') (hX:∀ a,X a->aE (x.env sc) a):TabOK sc x ρ' σ' s'.heap:=by
 obtain ⟨ps,h1,h2,h3⟩:=T
 obtain ⟨n1,n2⟩:=C.notP H
 refine ⟨ps,B.kept _ _ (fun q=>n1 (hX _ q)) n2 h1,h2,fun pos cv e=>?_⟩
 obtain ⟨c',rfl,⟨c₂,o,vs,t,e2,ho,r⟩,ho2,hf,hne⟩:=h3 pos cv e
 cases e2
 exact ⟨c',rfl,⟨c',o,vs,t,rfl,B.kept _ _ (fun q=>hf (hX _ q)) ho2 ho,r⟩,fun q=>ho2 (B.own_back q (Heap.lt_size ho)),hf,hne⟩
theorem After.frameN {base:Heap} {a:Addr} {h':Heap} {t:Nat} (R:Rel base ρ σ s.heap) (hO:¬ Own ρ σ a) (hb:base.get? a=none) (hz:s.heap.objs.size<=h'.objs.size)
  (hk:∀ b o,b≠a->s.heap.get? b=some o->h'.get? b=some o):After base (fun x=>x=a) ρ σ s ρ σ { s with heap:=h',toks:=t }:=
 ⟨R.move (fun b o e=>hk b o (fun q=>by rw [q,hb] at e;cases e) (R.stays b o e)) (fun b ho x e=>hk b x (fun q=>hO (q▸ho)) e) hz,Nat.le_refl _,fun _ _=>rfl,fun _ _=>rfl,
  fun b o hX _ e=>hk b o hX e,fun i _ h h'=>absurd h' (Nat.not_lt.mpr h),hz,fun _ _ e=>e,id,rfl⟩
theorem lam_eval {body:Expr} {lsc:Scope} {pos:Pos} {params:Arguments} {clos:List (Str×Addr)} {Q:Value->Shared->Prop} {E:Value->Shared->Prop} {M:Model} (C:LawCtx G sc x A) (H:Here G.base (x.env sc) lm ρ σ s) (T:TabOK sc x ρ σ s.heap)
  (hdef:defaultsOf params (x.env sc)=([],[])) (hcl:closureFor lsc (x.env sc)=pure clos)
  (hQ:∀ s' fo pm ctv c',After G.base (·=lawP) ρ σ s ρ σ s'->Here G.base (x.env sc) lm ρ σ s'->TabOK sc x ρ σ s'.heap->s'.heap.get? fo=some (kla_obj "<lambda>" (x.qual ++ "<lambda>") params body lsc clos pm c' ctv)->s'.heap.CodeRec (.ref c') (x.qual ++ "<lambda>")->Q (.ref fo) s') :
  wpAny M A (eval (.Lambda params body lsc pos) (x.env sc)) Q E s:=by
 obtain ⟨ps,h1,h2,h3⟩:=T
 obtain ⟨n1,n2⟩:=C.notP H
 have hg:=G.ok.g.keeps H.rel.stays
 refine kla_eval hdef ?_
 have hgP:mainGlobals≠lawP:=by decide
 have bat:=C.bat _ H.rel.stays
 have hd:=C.hd _ H.rel.stays
 have up:∀ {h':Heap} {tk:Nat},Heap.ExtBut lawP s.heap h'->s.heap.objs.size<=h'.objs.size->After G.base (·=lawP) ρ σ s ρ σ { s with heap:=h',toks:=tk }:=fun hx hz=>After.frameN H.rel n2 C.none hz fun b o hb e=>hx b o hb e
 have HX:∀ a,aE (x.env sc) a->a≠lawP:=fun a ha q=>n1 (q▸ha)
 have rest:∀ {h':Heap} {tk:Nat} {ps':Array Value},Heap.ExtBut lawP s.heap h'->s.heap.objs.size<=h'.objs.size->h'.get? lawP=some (tabObj ps')->TriplesOk ps'.toList->
   (∀ pos cv,codeAmong pos ps'.toList=some cv->∃ c',cv=.ref c'/\h'.CodeRec (.ref c') (x.qual ++ "<lambda>")/\¬ Own ρ σ c'/\¬ aE (x.env sc) c'/\c'≠lawP)->
   ∀ o,Here G.base (x.env sc) lm ρ σ { s with heap:=h'.push o,toks:=tk }/\After G.base (·=lawP) ρ σ s ρ σ { s with heap:=h'.push o,toks:=tk }/\TabOK sc x ρ σ (h'.push o):=fun {h' tk ps'} hx hz hp ht hcs o=>by
  have A1:After G.base (·=lawP) ρ σ s ρ σ { s with heap:=h'.push o,toks:=tk }:=up (fun b ob hb e=>Heap.get?_push_of_some _ (hx b ob hb e)) (by rw [Heap.size_push];lia)
  refine ⟨H.after A1 HX,A1,ps',Heap.get?_push_of_some _ hp,ht,fun pos cv e=>?_⟩
  obtain ⟨c',r1,r2,r3,r4,r5⟩:=hcs pos cv e
  exact ⟨c',r1,r2.push o,r3,r4,r5⟩
 cases hf:codeAmong pos ps.toList with
 | none=>
  refine kla_makeFunction hcl rfl hg C.code hd h1 h2 hf hgP bat fun c' ctv h' tk hx hge hlt hrec htb=>?_
  have hz:s.heap.objs.size<=h'.objs.size:=Nat.le_trans hge (Nat.le_of_lt hlt)
  obtain ⟨r1,r2,r3⟩:=rest (tk:=tk) hx hz htb (by
   have e:(ps ++ #[rawInt pos.line,rawInt pos.col,.ref c']).toList=ps.toList ++ [rawInt pos.line,rawInt pos.col,.ref c']:=by simp
   rw [e];exact TriplesOk_snoc _ _ _ _ h2) (fun pos' cv e=>by
   have e2:(ps ++ #[rawInt pos.line,rawInt pos.col,.ref c']).toList=ps.toList ++ [rawInt pos.line,rawInt pos.col,.ref c']:=by simp
   rw [e2] at e
   rcases uD _ h2 e with e | rfl
   ·obtain ⟨c2,rfl,⟨c3,o,vs,t,q,ho,r⟩,ho2,hf2,hne⟩:=h3 pos' cv e
    cases q
    exact ⟨c2,rfl,⟨c2,o,vs,t,rfl,hx _ _ hne ho,r⟩,ho2,hf2,hne⟩
   ·exact ⟨c',rfl,hrec,fun q=>absurd (H.rel.own_lt q) (Nat.not_lt.mpr hge),fun q=>absurd (H.lt _ q) (Nat.not_lt.mpr hge),fun q=>absurd (Nat.lt_of_lt_of_le C.low H.rel.size) (Nat.not_lt.mpr (q▸hge))⟩) (kla_obj "<lambda>" (x.qual ++ "<lambda>") params body lsc clos ((G.mg "__name__").getD .none) c' ctv)
  exact hQ _ _ _ _ c' r2 r1 r3 (Heap.get?_push_size _ rfl) (hrec.push _)
 | some cv=>
  obtain ⟨c',rfl,hrec,hc2,hc3,hc4⟩:=h3 pos cv hf
  refine kla_makeFunctionHit hcl rfl hg C.code hd h1 h2 hf bat fun ctv h' tk hk hz=>?_
  obtain ⟨r1,r2,r3⟩:=rest (tk:=tk) (fun b o _ e=>hk b o e) hz (hk _ _ h1) h2 (fun pos' cv e=>by
   obtain ⟨c2,q1,q2,q3,q4,q5⟩:=h3 pos' cv e
   exact ⟨c2,q1,q2.keeps hk,q3,q4,q5⟩) (kla_obj "<lambda>" (x.qual ++ "<lambda>") params body lsc clos ((G.mg "__name__").getD .none) c' ctv)
  exact hQ _ _ _ _ c' r2 r1 r3 (Heap.get?_push_size _ rfl) ((hrec.keeps hk).push _)
end
noncomputable def refO (fr:List String) (ef:EF) (bx:BX) (l:Loc) (σ:Sto):Option (Bool×Sto):=match bx (restr fr l) σ with
 | some σ'=>some (true,σ')
 | none=>(ef (restr fr l) σ).map fun a=>(false,a.2)
section
variable {G:G0} {sc lsc:Scope} {x:Vx} {A:Around} {lm:Loc} {ρ ρ':Map} {σ σ':Sto} {s s':Shared} {d:Nat} {fr:List String}
set_option tactic.hygienic true in
theorem deed_lam {body:Expr} {params:Arguments} {q:Str} {cl:List (Str×Addr)} {pm ctv:Value} {c' fo:Addr} {ef:EF} {bx:BX} {b:Bool} (In:Inner sc lsc lsc fr) (H:Here G.base (x.env sc) lm ρ σ s)
  (hc1:∀ z c,cl.lookup z=some c->x.cells.lookup z=some c) (hc2:∀ z∈fr,∃ c,cl.lookup (Str.ofString z)=some c) (hfo:s.heap.get? fo=some (kla_obj "<lambda>" q params body lsc cl pm c' ctv)) (hrec:s.heap.CodeRec (.ref c') q)
  (hbind:bindArgs (kla_fn "<lambda>" q params body lsc cl pm (.ref c') ctv) ⟨[],[]⟩=pure []) (hco:lsc.isCoroutine=false) (hgen:lsc.isGenerator=false) (he:SE G lsc d body ef) (hx:SEX G lsc d body bx) (out:refO fr ef bx lm σ=some (b,σ')) :
  Deed G (d+1) fo b ρ σ σ' s:=by
 intro A l s₁ R rm hfr Fn A1 hk hn hr
 have H1:=H.step A1
 refine kla_callFunE rm.limit (hk _ _ hfo) rfl hco hgen rfl (hrec.keeps hk) ?_
 rw [hbind]
 refine wpAny_pure (wpAny_newFunctionEnv In.noc (by intro y hy;simp at hy) (fun h₂ hns hsb=>⟨(G.ok.nolimit.keeps A1.rel.stays).fresh _ hsb,?_⟩) In.kind)
 let L:Addr:=s₁.heap.objs.size
 let xi:Vx:=⟨q ++ ".<locals>.",L,some fo,.ref c',cl,some L⟩
 have hk2:∀ b o,s₁.heap.get? b=some o->h₂.get? b=some o:=fun b o e=>hsb.extBut b o (Nat.ne_of_lt (Heap.lt_size e)) (Heap.get?_push_of_some _ e)
 have hz2:s₁.heap.objs.size<=h₂.objs.size:=Nat.le_of_lt hns.lt
 have Hi:Here G.base (xi.env lsc) (restr fr lm) ρ σ { s₁ with heap:=h₂,toks:=s₁.toks+([]:List (Str×Value)).length }:=Here.inner x xi hc1 hc2 In H1 hk2 hz2 hns (Nat.le_refl _)
 have A2:After G.base noX ρ σ s₁ ρ σ { s₁ with heap:=h₂,toks:=s₁.toks+([]:List (Str×Value)).length }:=After.grow H1.rel hz2 hk2
 show codeAny _ _ (.expr body (xi.env lsc)) R _
 refine kla_codeExpr ?_
 unfold refO at out
 split at out
 ·rename_i σ₂ hb
  cases out
  have hdf:(A.deeper (xi.env lsc)).frames=some (xi.env lsc :: l):=by show A.frames.map _=_;rw [hfr];rfl
  refine hx xi (A.deeper (xi.env lsc)) (restr fr lm) ρ σ _ σ' _ _ _ rm.deeper hdf (Fun.cons In.kind rfl Hi (Fn.step A2)) Hi hb fun ρ' s' e bad=>?_
  have Rz:Rsd G.base noX (xi.env lsc) l ρ σ { s₁ with heap:=h₂,toks:=s₁.toks+([]:List (Str×Value)).length } ρ' σ' s' e:=by
   obtain ⟨⟨B,a0,b1,b2,b3⟩,b4⟩:=bad
   exact .inr ⟨⟨B,a0,b1.weaken fun _=>.inr,b2,b3⟩,fun a ha o z=>b4 a (by rw [fN rfl];exact .tail _ ha) o z⟩
  exact rU (L:=L) hdf rfl A2 Fn (Nat.le_refl _) (fun a ha=>ha.elim) (fun a _ q=>q) Rz fun s'' b=>hr rfl ρ' s'' e b
 ·obtain ⟨⟨v,σ₂⟩,h1,h2⟩:=omx out
  cases h2
  exact he xi (A.deeper (xi.env lsc)) (restr fr lm) ρ σ _ v _ _ _ rm.deeper Hi h1 fun ρ' s' val A3 V=>hn rfl ρ' s' val (A2.trans A3)
theorem Here.slots {base:Heap} (hf:x.frame=some x.L) (H:Here base (x.env sc) lm ρ σ s) (B:After base (·∈frs [x.env sc]) ρ σ s ρ' σ' s') (S:FrSame [x.env sc] s.heap s'.heap):Here base (x.env sc) lm ρ' σ' s':=by
 have hfr:frs [x.env sc]=[x.L]:=by rw [fN hf];rfl
 have ce:∀ c o,c≠x.L->aE (x.env sc) c->s.heap.get? c=some o->s'.heap.get? c=some o:=fun c o hne hc e=>B.kept c o (fun q=>hne (by rw [hfr] at q;simpa using q)) (H.own c hc) e
 refine ⟨B.rel,?_,fun a ha q=>H.own a ha (B.own_back q (H.lt a ha)),H.low,fun a ha=>Nat.lt_of_lt_of_le (H.lt a ha) B.size,H.sep,H.one,fun z c hc=>?_,H.has⟩
 ·obtain ⟨m,⟨oL,es,ep,hL,hd,r⟩,hl⟩:=H.locs
  obtain ⟨sl,hL'⟩:=S x.L (by rw [hfr];exact .head _) oL hL
  refine ⟨m,⟨_,es,ep,hL',hd,r⟩,fun z v hz=>?_⟩
  obtain ⟨val,va,vr⟩:=hl z v hz
  refine ⟨val,?_,vr.after B⟩
  rcases va with va | ⟨kd,c,o,hc,ho,hd'⟩
  ·exact .inl va
  ·exact .inr ⟨kd,c,o,hc,ce c o (H.sep _ c hc) (.inr ⟨_,hc⟩) ho,hd'⟩
 ·obtain ⟨v,o,ho,hd'⟩:=H.cel z c hc
  exact ⟨v,o,ce c o (H.sep _ c hc) (.inr ⟨_,hc⟩) ho,hd'⟩
noncomputable def LX (sc:Scope) (x:Vx):Addr->Prop:=fun a=>aE (x.env sc) a\/a=lawP
structure LH (base:Heap) (sc:Scope) (x:Vx) (lm:Loc) (ρ:Map) (σ:Sto) (s:Shared):Prop where
 here:Here base (x.env sc) lm ρ σ s
 tab:TabOK sc x ρ σ s.heap
noncomputable def LSE (G:G0) (sc:Scope) (x:Vx) (A:Around) (e:Expr) (f:EF):Prop:=
 ∀ (lm:Loc) (ρ:Map) (σ:Sto) (s:Shared) (v:Val) (σ':Sto) (Q:Value->Shared->Prop) (E:Value->Shared->Prop),LH G.base sc x lm ρ σ s->f lm σ=some (v,σ')->
  (∀ ρ' s' val,After G.base (LX sc x) ρ σ s ρ' σ' s'->LH G.base sc x lm ρ' σ' s'->VR ρ' σ'.n v val->Q val s')->wpAny (model G.prog G.w) A (eval e (x.env sc)) Q E s
noncomputable def LST (G:G0) (sc:Scope) (x:Vx) (A:Around) (e:Expr) (f:TF):Prop:=
 ∀ (lm:Loc) (ρ:Map) (σ:Sto) (s:Shared) (b:Bool) (σ':Sto) (Q:Bool->Shared->Prop) (E:Value->Shared->Prop),LH G.base sc x lm ρ σ s->f lm σ=some (b,σ')->
  (∀ ρ' s',After G.base (LX sc x) ρ σ s ρ' σ' s'->LH G.base sc x lm ρ' σ' s'->Q b s')->wpAny (model G.prog G.w) A (isTrue e (x.env sc) (eval e (x.env sc))) Q E s
noncomputable def LSS (G:G0) (sc:Scope) (x:Vx) (A:Around) (st:Stmt) (f:SF):Prop:=
 ∀ (lm:Loc) (ρ:Map) (σ:Sto) (s:Shared) (fl:Fl) (lm':Loc) (σ':Sto) (Q:Flow->Shared->Prop) (E:Value->Shared->Prop),LH G.base sc x lm ρ σ s->f lm σ=some (fl,lm',σ')->
  (∀ ρ' s' flw,After G.base (LX sc x) ρ σ s ρ' σ' s'->LH G.base sc x lm' ρ' σ' s'->FlR ρ' σ'.n fl flw->Q flw s')->wpAny (model G.prog G.w) A (exec st (x.env sc)) Q E s
noncomputable def LSB (G:G0) (sc:Scope) (x:Vx) (A:Around) (st:List Stmt) (f:SF):Prop:=
 ∀ (lm:Loc) (ρ:Map) (σ:Sto) (s:Shared) (fl:Fl) (lm':Loc) (σ':Sto) (Q:Flow->Shared->Prop) (E:Value->Shared->Prop),LH G.base sc x lm ρ σ s->f lm σ=some (fl,lm',σ')->
  (∀ ρ' s' flw,After G.base (LX sc x) ρ σ s ρ' σ' s'->LH G.base sc x lm' ρ' σ' s'->FlR ρ' σ'.n fl flw->Q flw s')->wpAny (model G.prog G.w) A (execs st (x.env sc)) Q E s
theorem LSE.of {e:Expr} {f:EF} (C:LawCtx G sc x A) (hd:d<=40) (h:SE G sc d e f):LSE G sc x A e f:=fun lm ρ σ s v σ' Q E H e hQ=>
 h x A lm ρ σ s v σ' Q E (C.room.mono hd) H.here e fun ρ' s' val A1 V=>hQ ρ' s' val (A1.weaken fun _ q=>q.elim) ⟨H.here.step A1,H.tab.after C H.here A1 fun _ q=>q.elim⟩ V
theorem LST.of {e:Expr} {f:TF} (C:LawCtx G sc x A) (hd:d<=40) (h:ST G sc d e f):LST G sc x A e f:=fun lm ρ σ s v σ' Q E H e hQ=>
 h x A lm ρ σ s v σ' Q E (C.room.mono hd) H.here e fun ρ' s' A1=>hQ ρ' s' (A1.weaken fun _ q=>q.elim) ⟨H.here.step A1,H.tab.after C H.here A1 fun _ q=>q.elim⟩
theorem LSS.of {e:Stmt} {f:SF} (C:LawCtx G sc x A) (hd:d<=40) (h:SS G sc d e f):LSS G sc x A e f:=fun lm ρ σ s fl lm' σ' Q E H e hQ=>
 h x A lm ρ σ s fl lm' σ' Q E (C.room.mono hd) H.here e fun ρ' s' flw A1 H1 F=>hQ ρ' s' flw (A1.weaken fun _=>.inl) ⟨H1,H.tab.after C H.here A1 fun _ q=>q⟩ F
theorem LSB.nil (C:LawCtx G sc x A):LSB G sc x A [] nilB:=by
 intro lm ρ σ s fl lm' σ' Q E H e hQ
 cases e
 exact wpAny_execs_nil (hQ _ _ _ (.refl H.here.rel) H rfl)
theorem LSB.cons {st:Stmt} {r:List Stmt} {f g:SF} (h:LSS G sc x A st f) (hr:LSB G sc x A r g):LSB G sc x A (st :: r) (seqB f g):=by
 intro lm ρ σ s fl lm' σ' Q E H e hQ
 obtain ⟨⟨fl₁,l₁,σ₁⟩,h1,e⟩:=obx e
 refine wpAny_execs_cons (h lm ρ σ s _ _ _ _ _ H h1 fun ρ₁ s₁ flw A1 H1 F1=>?_)
 cases fl₁ with
 | next=>cases F1;exact hr _ _ _ _ _ _ _ _ _ H1 e fun ρ' s' flw A2 H2 F2=>hQ _ _ _ (A1.trans A2) H2 F2
 | brk=>cases F1;cases e;exact hQ _ _ _ A1 H1 rfl
 | cont=>cases F1;cases e;exact hQ _ _ _ A1 H1 rfl
 | ret v=>obtain ⟨val,rfl,vr⟩:=F1;cases e;exact hQ _ _ _ A1 H1 ⟨_,rfl,vr⟩
theorem LSB.one {st:Stmt} {f:SF} (h:LSS G sc x A st f):LSB G sc x A [st] f:=by
 intro lm ρ σ s fl lm' σ' Q E H e hQ
 refine wpAny_execs_cons (h lm ρ σ s _ _ _ _ _ H e fun ρ₁ s₁ flw A1 H1 F1=>?_)
 cases fl with
 | next=>cases F1;exact wpAny_execs_nil (hQ _ _ _ A1 H1 rfl)
 | brk=>cases F1;exact hQ _ _ _ A1 H1 rfl
 | cont=>cases F1;exact hQ _ _ _ A1 H1 rfl
 | ret v=>obtain ⟨val,rfl,vr⟩:=F1;exact hQ _ _ _ A1 H1 ⟨_,rfl,vr⟩
theorem LSS.ite {p:Pos} {t:Expr} {b1 b2:List Stmt} {ft:TF} {f g:SF} (ht:LST G sc x A t ft) (hf:LSB G sc x A b1 f) (hg:LSB G sc x A b2 g):LSS G sc x A (.If t b1 b2 p) (ifS ft f g):=by
 intro lm ρ σ s fl lm' σ' Q E H e hQ
 obtain ⟨⟨b,σ₁⟩,h1,e⟩:=obx e
 refine wpAny_If (ht lm ρ σ s b _ _ _ H h1 fun ρ₁ s₁ A1 H1=>?_)
 cases b
 ·exact hg _ _ _ _ _ _ _ _ _ H1 e fun ρ' s' flw A2 H2 F2=>hQ _ _ _ (A1.trans A2) H2 F2
 ·exact hf _ _ _ _ _ _ _ _ _ H1 e fun ρ' s' flw A2 H2 F2=>hQ _ _ _ (A1.trans A2) H2 F2
theorem LST.not {e:Expr} {p:Pos} {f:TF} (h:LST G sc x A e f):LST G sc x A (.UnaryOp .Not e p) (notT f):=by
 intro lm ρ σ s v σ' Q E H e hQ
 obtain ⟨⟨a,σ₁⟩,h1,e⟩:=omx e
 cases e
 exact wpAny_isTrue_Not (h lm ρ σ s a _ _ _ H h1 fun ρ₁ s₁ A1 H1=>hQ _ _ A1 H1)
theorem LST.val {e:Expr} {f:EF} (h:LSE G sc x A e f) (he:∀ env whole,isTrue e env whole=(do let v <- whole;standAt e.pos;holding [v] (truthy v))):LST G sc x A e (valT f):=by
 intro lm ρ σ s v σ' Q E H e hQ
 obtain ⟨⟨a,σ₁⟩,h1,e⟩:=obx e
 obtain ⟨v₀,h3,e⟩:=omx e
 cases e
 exact wpAny_isTrue_value (h lm ρ σ s a σ₁ _ _ H h1 fun ρ₁ s₁ va A1 H1 Va=>pT (G:=G) h3 Va (hQ _ _ A1 H1)) (he _ _)
theorem LST.cmp {op:CmpOp} {l r:Expr} {p:Pos} {f g:EF} (hl:LSE G sc x A l f) (hr:LSE G sc x A r g) (hm:behindInMarks op r=false):LST G sc x A (.Compare l [op] [r] p) (cmpT op f g):=by
 intro lm ρ σ s v σ' Q E H e hQ
 obtain ⟨⟨a,σ₁⟩,h1,e⟩:=obx e
 obtain ⟨⟨b,σ₂⟩,h2,e⟩:=obx e
 obtain ⟨v₀,h3,e⟩:=omx e
 cases e
 refine wpAny_isTrue_Compare1 (hl lm ρ σ s a σ₁ _ _ H h1 fun ρ₁ s₁ va A1 H1 Va=>?_) hm
 refine hr lm ρ₁ σ₁ s₁ b _ _ _ H1 h2 fun ρ₂ s₂ vb A2 H2 Vb=>?_
 exact qR (G:=G) h3 (Va.after A2) Vb (wpAny_truthy_bool (hQ _ _ (A1.trans A2) H2))
inductive LSTs (G:G0) (sc:Scope) (x:Vx) (A:Around):List Expr->List TF->Prop
 | nil:LSTs G sc x A [] []
 | cons {e r f fs}:LST G sc x A e f->LSTs G sc x A r fs->LSTs G sc x A (e :: r) (f :: fs)
theorem LSTs.or {es:List Expr} {fs:List TF} (h:LSTs G sc x A es fs):∀ (lm:Loc) (ρ:Map) (σ:Sto) (s:Shared) (b:Bool) (σ':Sto) (Q:Bool->Shared->Prop) (E:Value->Shared->Prop),
  LH G.base sc x lm ρ σ s->orT fs lm σ=some (b,σ')->
  (∀ ρ' s',After G.base (LX sc x) ρ σ s ρ' σ' s'->LH G.base sc x lm ρ' σ' s'->Q b s')->wpAny (model G.prog G.w) A (allTrue .Or es (x.env sc)) Q E s:=by
 induction h with
 | nil=>intro lm ρ σ s b σ' Q E H e hQ;cases e;exact wpAny_allTrue_Or_nil (hQ _ _ (.refl H.here.rel) H)
 | cons h1 h2 ih=>
  intro lm ρ σ s b σ' Q E H e hQ
  obtain ⟨⟨a,σ₁⟩,e1,e⟩:=obx e
  refine wpAny_allTrue_Or_cons (h1 lm ρ σ s a _ _ _ H e1 fun ρ₁ s₁ A1 H1=>?_)
  cases a
  ·exact ih lm _ _ _ _ _ _ _ H1 e fun ρ' s' A2 H2=>hQ _ _ (A1.trans A2) H2
  ·cases e;exact hQ _ _ A1 H1
theorem LST.or {es:List Expr} {p:Pos} {fs:List TF} (h:LSTs G sc x A es fs):LST G sc x A (.BoolOp .Or es p) (orT fs):=
 fun lm ρ σ s b σ' Q E H e hQ=>wpAny_isTrue_BoolOp (h.or lm ρ σ s b σ' Q E H e hQ)
end
noncomputable def RefFn (G:G0) (d:Nat) (fa:Addr):Prop:=∀ (A:Around) (ρ:Map) (σ σ':Sto) (s:Shared) (l:List Env) (fo:Addr) (ofo:Obj) (fdo:FuncData) (b:Bool) (R:Result->Shared->Prop),Room A (d+1)->A.frames=some l->Fun G.base l ρ σ s.heap->Rel G.base ρ σ s.heap->
  s.heap.get? fo=some ofo->ofo.data=.func fdo->Deed G d fo b ρ σ σ' s->(∀ ρ' s',After G.base (·∈frs l) ρ σ s ρ' σ' s'->FrSame l s.heap s'.heap->R (.ok (.ret (.bool b))) s')->
  codeAny (model G.prog G.w) A (.call (.ref fa) ⟨[.ref fo],[]⟩) R s
section
variable {G:G0} {sc lsc:Scope} {x:Vx} {A:Around} {d:Nat} {fr:List String}
noncomputable def refF (fr:List String) (ef:EF) (bx:BX):EF:=fun l σ=>(refO fr ef bx l σ).map fun r=>(.bool r.1,r.2)
theorem LSE.refused {body:Expr} {params:Arguments} {lp np p:Pos} {fa:Addr} {ef:EF} {bx:BX} (C:LawCtx G sc x A) (hd:d+2<=40) (R:RefFn G (d+1) fa) (hk:keepIn G.K (.ref fa)=true) (hn:SE G sc d (.Name "_law_refused" np) (kF (.fn fa))) (In:Inner sc lsc lsc fr)
  (hdef:∀ env,defaultsOf params env=([],[])) (hbind:∀ q cl pm c' ctv,bindArgs (kla_fn "<lambda>" q params body lsc cl pm c' ctv) ⟨[],[]⟩=pure []) (hco:lsc.isCoroutine=false) (hgen:lsc.isGenerator=false) (he:SE G lsc d body ef) (hx:SEX G lsc d body bx)
  (hc:∀ env,eval (.Call (.Name "_law_refused" np) [.Lambda params body lsc lp] [] p) env=(do callWith p (<- eval (.Name "_law_refused" np) env) [] (backTo p (starEach [.Lambda params body lsc lp] env)) (backToKw p (keywordEach [] env))))
  (hs:∀ env,starEach [.Lambda params body lsc lp] env=[(false,eval (.Lambda params body lsc lp) env)]) :
  LSE G sc x A (.Call (.Name "_law_refused" np) [.Lambda params body lsc lp] [] p) (refF fr ef bx):=by
 intro lm ρ σ s v σ' Q E H eq hQ
 obtain ⟨⟨b,σ₁⟩,h1,h2⟩:=omx eq
 cases h2
 refine Call_ (hn x A lm ρ σ s _ _ _ _ (C.room.mono (by lia)) H.here rfl fun ρ₀ s₀ va A0 Va=>?_) (hc _)
 cases Va
 have H0:=H.here.step A0
 have T0:=H.tab.after C H.here A0 fun _ q=>q.elim
 obtain ⟨cl,hcl,hc1,hc2⟩:=H0.clos In
 refine cF (K:=G.K) hk (fun env=>by rw [hs];rfl) ?_
 rw [hs]
 refine Calls.spliced_cons (lam_eval C H0 T0 (hdef _) hcl fun s₁ fo pm ctv c' A1 H1 T1 hfo hrec=>Calls.spliced_nil ⟨G.ok.X.keeps A1.rel.stays,?_⟩)
 have Fn:Fun G.base [x.env sc] ρ₀ σ s₁.heap:=fun e he=>by
  rcases List.mem_cons.mp he with rfl | he
  ·exact H1.fun_ C.kind C.frame
  ·cases he
 have hfrs:frs [x.env sc]=[x.L]:=by rw [fN C.frame];rfl
 have hfa:∀ a,a∈frs [x.env sc]->aE (x.env sc) a:=fun a ha=>by rw [hfrs] at ha;exact .inl (by simpa using ha)
 refine wpAny_call (R A ρ₀ σ σ₁ s₁ [x.env sc] fo _ _ b _ (C.room.mono (by lia)) C.frames Fn H1.rel hfo rfl (deed_lam In H1 hc1 hc2 hfo hrec (hbind _ _ _ _ _) hco hgen he hx h1) fun ρ' s' A2 F2=>?_)
 have H2:=Here.slots C.frame H1 A2 F2
 have T2:=T1.after C H1 A2 hfa
 refine hQ ρ' s' _ (((A0.weaken fun _ q=>q.elim).trans (A1.weaken fun _=>Or.inr)).trans (A2.weaken fun a ha=>Or.inl (hfa a ha))) ⟨H2,T2⟩ rfl
theorem LH.iter {lm:Loc} {ρ:Map} {σ:Sto} {s s':Shared} {I b:Addr} {k:Nat} (C:LawCtx G sc x A) (H:LH G.base sc x lm ρ σ s) (hIF:∀ a,aE (x.env sc) a->a≠I) (hIP:I≠lawP) (hit:s.heap.IsListIter I b k)
  (B:After G.base (fun a=>a=I) ρ σ s ρ σ s'):LH G.base sc x lm ρ σ s':=by
 refine ⟨H.here.after B hIF,byC fun hN=>?_⟩
 obtain ⟨ps,t1,t2,t3⟩:=H.tab
 obtain ⟨n1,n2⟩:=C.notP H.here
 refine hN ⟨ps,B.kept _ _ (fun q=>hIP q.symm) n2 t1,t2,fun pos cv e=>byC fun hN=>?_⟩
 obtain ⟨c',rfl,⟨c₂,o,vs,tt,e2,ho,r⟩,ho2,hf,hne⟩:=t3 pos cv e
 cases e2
 refine hN ⟨c',rfl,⟨c',o,vs,tt,rfl,B.kept _ _ (fun q=>?_) ho2 ho,r⟩,ho2,hf,hne⟩
 obtain ⟨oi,hoi,hoc,hod⟩:=hit
 rw [q,hoi] at ho
 cases ho
 rw [hod] at r
 cases r.1
 cases r.2
theorem LSS.forL {z:String} {e:Expr} {b:List Stmt} {p px:Pos} {f:EF} {g:SF} (n:Nat) (C:LawCtx G sc x A) (hd:d<=40) (hx:sc.names.lookup (Str.ofString z)=some .local) (h:SE G sc d e f) (hb':LSB G sc x A b g)
  (hs:∀ env v,foldedSetIterable e env v=pure v):LSS G sc x A (.For (.Name (Str.ofString z) px) e b [] p) (kK z f g n):=by
 intro lm ρ σ s fl lm' σ' Q E H eq hQ
 refine obE eq fun a q1 eq1=>obE eq1 fun id q2 eq1=>?_
 refine wpAny_For (h x A lm ρ σ s _ _ _ _ (C.room.mono hd) H.here (prR q1 q2) fun ρ₁ s₁ va A1 Va=>?_) (hs _)
 obtain ⟨hi,rfl⟩:=Va
 have H1:=H.here.step A1
 have T1:=H.tab.after C H.here A1 fun _ q=>q.elim
 obtain ⟨xs,hl₀⟩:∃ xs,a.2.get id=.list xs:=by
  cases n with
  | zero=>cases eq1
  | succ n=>exact obE eq1 fun xs h1 _=>⟨xs,bN h1⟩
 obtain ⟨vs₀,hl,_⟩:=A1.rel.isList hi hl₀
 refine wpAny_pyIter_list hl ?_
 obtain ⟨G1,hO,lt⟩:=iE (X:=noX) (o:={ cls:=.type "list_iterator",data:=.fields #[.ref (ρ₁ id 0),.int 0 0] }) (t:=s₁.toks) A1.rel
 have hIF:∀ a,aE (x.env sc) a->a≠s₁.heap.objs.size:=fun a ha=>Nat.ne_of_lt (H1.lt a ha)
 have hIP:s₁.heap.objs.size≠lawP:=fun q=>absurd (Nat.lt_of_lt_of_le C.low A1.rel.size) (by rw [<- q];exact Nat.lt_irrefl _)
 exact loopC (X:=fun a=>LX sc x a\/a=s₁.heap.objs.size) (P:=LH G.base sc x) A1.rel.size (.inr rfl) (fun _=>.inl) (fun q=>q.elim (fun q=>hIF _ q rfl) hIP) (fun it k=>it.imp fun o q=>⟨k o q.1,q.2⟩) (fun H it B=>H.iter C hIF hIP it B) (fun H=>H.here.rel)
  (fun B it e=>oR C.room.2.2 B.rel (Nat.lt_of_lt_of_le hi B.le) (congrFun (B.agree id hi) 0) it e)
  (fun H vr h1 kk=>wpAny_assign_Name (gM H.here vr hx C.kind fun s₃ A3 H4=>hb' _ _ _ _ _ _ _ _ _ ⟨H4,H.tab.after C H.here A3 fun _ q=>.inl q⟩ h1 fun ρ₅ s₅ flw A5 H5 F5=>kk _ _ _ ((A3.weaken fun _ q=>.inl (.inl q)).trans A5) H5 F5))
  (fun f l τ ρ' s' flw e B=>trE e.symm (hQ ρ' s' flw) ((A1.weaken fun _ h=>h.elim).trans (B.drop fun a ha=>ha.elim .inl fun q=>.inr (Nat.le_of_eq q.symm)))) C.room.2.2 n
  ⟨ρ₁,a.2,lm,0,G1.weaken fun _ q=>q.elim,⟨H1.step G1,T1.after C H1 G1 fun _ q=>q.elim⟩,hO,lt,⟨_,Heap.get?_push_size _ rfl,rfl,rfl⟩,eq1⟩
end
section
variable {G:G0} {sc:Scope} {d:Nat}
theorem sJ {A:Around} {E:Value->Shared->Prop} {ρ:Map} {σ:Sto} {s:Shared} {ys:List Val} {vs:List Value} {i:Nat} {value slice:Expr} {vl vu:Value} {lo hi:Option Int} {ys':List Value} {Q:Value->Shared->Prop} (R:Rel G.base ρ σ s.heap) (hl:s.heap.IsList (ρ i 0) vs.toArray) (r:All2 (VR ρ σ.n) ys ys')
  (hp:slicePick vs.toArray lo hi Option.none=ys'.toArray) (pl:IsPart vl lo) (pu:IsPart vu hi) (hsz:vs.length<=1000) (hs:∀ o p,subscripted slice false o p=operate [p,o] (getItem o p)) (ht:∀ o r,letTemporaryGo value o r=pure ())
  (hQ:∀ ρ' s',After G.base noX ρ σ s ρ' (σ.push (.list ys)) s'->VR ρ' (σ.n+1) (.ref σ.n) (.ref (ρ' σ.n 0))->Q (.ref (ρ' σ.n 0)) s') :
  wpAny (model G.prog G.w) A (subscriptTail value slice (.ref (ρ i 0)) (.ref s.heap.objs.size)) Q E { s with heap:=s.heap.push { cls:=.type "slice",data:=.fields #[vl,vu,.none] } }:=by
 refine slice_listK hl pl pu ?_ (hs _ _) (ht _) (by rw [List.size_toArray,sizeLine_eq];lia)
 rw [hp]
 let s₁:Shared:={ s with heap:=s.heap.push { cls:=.type "slice",data:=.fields #[vl,vu,.none] } }
 have A1:After G.base noX ρ σ s ρ σ s₁:=After.grow (t:=s.toks) R (by rw [Heap.size_push];exact Nat.le_succ _) fun a o e=>Heap.get?_push_of_some _ e
 obtain ⟨ρ',A2,v2⟩:=fB (X:=noX) (t:=s₁.toks) (n:=0) A1.rel r
 have z:s₁.heap.objs.size=s.heap.objs.size+1:=Heap.size_push ..
 have e:=v2.2
 rw [z] at e
 rw [e]
 exact hQ ρ' _ (A1.trans A2) ⟨Nat.lt_succ_self _,rfl⟩
theorem SE.upto {e:Expr} {k:Nat} {c:Nat} {p1 p2 p3:Pos} {f:EF} (h:SE G sc d e f) (hs:∀ o p,subscripted (.Slice Option.none (some (.Constant (.int (k:Int)) c p1)) Option.none p2) false o p=operate [p,o] (getItem o p)) (ht:∀ o r,letTemporaryGo e o r=pure ()) :
  SE G sc d (.Subscript e (.Slice Option.none (some (.Constant (.int (k:Int)) c p1)) Option.none p2) p3) (cutF true k f):=by
 intro y A lm ρ σ s v σ' Q E rm H eq hQ
 obtain ⟨i,xs,σ₁,q1,q2,q3,rfl,rfl⟩:=sK eq
 refine Subscript_ (h y A lm ρ σ s _ _ _ _ rm H q1 fun ρ₁ s₁ va A1 Va=>?_)
 obtain ⟨hi,rfl⟩:=Va
 obtain ⟨vs,hl,r⟩:=A1.rel.isList hi q2
 refine wpAny_Slice (wpAny_pure (wpAny_Constant_int (k:=c) (pos:=p1) (wpAny_pure ?_)))
 have A2:=A1.trans (After.toks (X:=noX) (t:=s₁.toks+1) A1.rel)
 refine sJ (G:=G) (s:={ s₁ with toks:=s₁.toks+1 }) A2.rel hl (All2.take k r) (oF vs k) .none (.int _ _) (by rw [<- r.length];exact q3) hs ht fun ρ' s' A3 v3=>?_
 exact hQ ρ' s' _ (A2.trans A3) v3
theorem SE.beyond {e:Expr} {k:Nat} {c:Nat} {p1 p2 p3:Pos} {f:EF} (h:SE G sc d e f) (hs:∀ o p,subscripted (.Slice (some (.Constant (.int (k:Int)) c p1)) Option.none Option.none p2) false o p=operate [p,o] (getItem o p)) (ht:∀ o r,letTemporaryGo e o r=pure ()) :
  SE G sc d (.Subscript e (.Slice (some (.Constant (.int (k:Int)) c p1)) Option.none Option.none p2) p3) (cutF false k f):=by
 intro y A lm ρ σ s v σ' Q E rm H eq hQ
 obtain ⟨i,xs,σ₁,q1,q2,q3,rfl,rfl⟩:=sK eq
 refine Subscript_ (h y A lm ρ σ s _ _ _ _ rm H q1 fun ρ₁ s₁ va A1 Va=>?_)
 obtain ⟨hi,rfl⟩:=Va
 obtain ⟨vs,hl,r⟩:=A1.rel.isList hi q2
 refine wpAny_Slice (wpAny_Constant_int (k:=c) (pos:=p1) (wpAny_pure (wpAny_pure ?_)))
 have A2:=A1.trans (After.toks (X:=noX) (t:=s₁.toks+1) A1.rel)
 refine sJ (G:=G) (s:={ s₁ with toks:=s₁.toks+1 }) A2.rel hl (All2.drop k r) (pick_drop vs k) (.int _ _) .none (by rw [<- r.length];exact q3) hs ht fun ρ' s' A3 v3=>?_
 exact hQ ρ' s' _ (A2.trans A3) v3
end
noncomputable def relab (csc sc:Scope):Scope:={ csc with names:=csc.names.map fun (n,k)=>if (k == NameKind.free && sc.kind == .function && sc.names.lookup n == some .cell) then (n,NameKind.cell) else (n,k) }
theorem rel_eq (csc sc:Scope) (y:Vx):relabel csc (y.env sc)=relab csc sc:=rfl
noncomputable def nD (sc csc csc':Scope) (fr:List String):Bool:=
 csc.names.all (fun p=>p.2 != .free || fr.any fun z=>p.1 == Str.ofString z) && fr.all (fun z=>csc.names.contains (Str.ofString z,NameKind.free)) && fr.all (fun z=>sc.names.lookup (Str.ofString z) == some .cell) &&
 fr.all (fun z=>csc'.names.lookup (Str.ofString z) == some .cell || csc'.names.lookup (Str.ofString z) == some .free) && csc'.names.all (fun p=>p.2 != .cell || fr.any fun z=>p.1 == Str.ofString z) && csc.names.all (fun p=>p.2 != .cell) &&
 csc.names.all (fun p=>p.2 != .local || csc.names.lookup p.1 == some .local) && csc.kind == .function && csc'.kind == .function
theorem Inner.of {sc csc csc':Scope} {fr:List String} (h:nD sc csc csc' fr=true):Inner sc csc csc' fr:=by
 unfold nD at h
 simp only [Bool.and_eq_true,List.all_eq_true,beq_iff_eq,Bool.or_eq_true,bne_iff_ne,ne_eq,List.any_eq_true,List.contains_iff_mem] at h
 obtain ⟨⟨⟨⟨⟨⟨⟨⟨h1,h2⟩,h3⟩,h4⟩,h5⟩,h6⟩,h7⟩,h8⟩,h9⟩:=h
 refine ⟨tU fun x=>⟨fun hx=>?_,fun ⟨z,hz,e⟩=>e▸h2 z hz⟩,h3,h4,fun x hx=>?_,h8,h9,h6,fun p hp hl=>?_⟩
 ·rcases h1 _ hx with q | ⟨z,hz,e⟩
  ·exact absurd rfl q
  ·exact ⟨z,hz,e⟩
 ·rcases h5 _ (bT hx) with q | ⟨z,hz,e⟩
  ·exact absurd rfl q
  ·exact ⟨z,hz,e⟩
 ·exact (h7 p hp).elim (fun q=>absurd hl q) id
section
variable {G:G0} {sc csc:Scope} {d:Nat} {fr:List String}
theorem SE.comp' {x:String} {px:Pos} {iter elt:Expr} {ifs:List Expr} {pos:Pos} {t:TF} {f it:EF} (n:Nat) (C:nD sc csc (relab csc sc) fr=true) (hx:(relab csc sc).names.lookup (Str.ofString x)=some .local) (hi:SE G sc d iter it) (ht:STC G (relab csc sc) d ifs t)
  (he:SE G (relab csc sc) d elt f) (hs:∀ env x,foldedSetIterable iter env x=pure x):SE G sc d (.ListComp elt [⟨.Name (Str.ofString x) px,iter,ifs,0⟩] csc pos) (mB x fr it t f n):=SE.comp n (Inner.of C) (rel_eq csc sc) hx hi ht he hs
theorem SS.comp' {x z:String} {px pz:Pos} {iter elt:Expr} {ifs:List Expr} {pos p:Pos} {t:TF} {f it:EF} (n:Nat) (C:nD sc csc (relab csc sc) fr=true) (hx:(relab csc sc).names.lookup (Str.ofString x)=some .local) (hi:SE G sc d iter it) (ht:STC G (relab csc sc) d ifs t)
  (he:SE G (relab csc sc) d elt f) (hs:∀ env x,foldedSetIterable iter env x=pure x) (hk:sc.kind=.function) (hz:sc.names.lookup (Str.ofString z)=some .local)
  (hsw:∀ y:Vx,swapsWith (.ListComp elt [⟨.Name (Str.ofString x) px,iter,ifs,0⟩] csc pos) (some (.Name (Str.ofString z) pz)) p.line (y.env sc)=pure true) :
  SS G sc d (.Assign [.Name (Str.ofString z) pz] (.ListComp elt [⟨.Name (Str.ofString x) px,iter,ifs,0⟩] csc pos) p) (setF z (mB x fr it t f n)):=SS.comp n (Inner.of C) (rel_eq csc sc) hx hi ht he hs hk hz hsw
noncomputable def cutA (a:Addr) (ns:List Int) (k:Nat) (f:EF):EF:=fun l σ=>(f l σ).bind fun v=>(asFn v.1).bind fun b=>if b=a then some (.ref v.2.n,v.2.push (.list ((ns.take k).map Val.int))) else none
theorem ints_vals {ρ:Map} {n:Nat} {vs:List Value} {ns:List Int} (h:IntsAre vs ns):All2 (VR ρ n) (ns.map Val.int) vs:=by
 induction h with
 | nil=>exact .nil
 | cons k t _ ih=>exact .cons ⟨t,rfl⟩ ih
theorem SE.uptoA {a:Addr} {vs:List Value} {ns:List Int} {e:Expr} {k:Nat} {c:Nat} {p1 p2 p3:Pos} {f:EF} (hb:G.base.IsList a vs.toArray) (hi:IntsAre vs ns) (hlen:ns.length<=1000) (h:SE G sc d e f)
  (hs:∀ o p,subscripted (.Slice Option.none (some (.Constant (.int (k:Int)) c p1)) Option.none p2) false o p=operate [p,o] (getItem o p)) (ht:∀ o r,letTemporaryGo e o r=pure ()) :
  SE G sc d (.Subscript e (.Slice Option.none (some (.Constant (.int (k:Int)) c p1)) Option.none p2) p3) (cutA a ns k f):=by
 intro y A lm ρ σ s v σ' Q E rm H eq hQ
 refine obE eq fun v q1 e0=>obE e0 fun b0 h2 e1=>itE e1 fun q e2=>?_
 obtain ⟨v₀,σ₁⟩:=v
 cases pN h2
 subst q
 cases e2
 refine Subscript_ (h y A lm ρ σ s _ _ _ _ rm H q1 fun ρ₁ s₁ va A1 Va=>?_)
 cases Va
 have hl:s₁.heap.IsList b0 vs.toArray:=by
  obtain ⟨o,ho,r⟩:=hb
  exact ⟨o,A1.rel.stays _ _ ho,r⟩
 refine wpAny_Slice (wpAny_pure (wpAny_Constant_int (k:=c) (pos:=p1) (wpAny_pure ?_)))
 have A2:=A1.trans (After.toks (X:=noX) (t:=s₁.toks+1) A1.rel)
 let s₂:Shared:={ s₁ with toks:=s₁.toks+1 }
 refine slice_listK (s:=s₂) hl .none (.int _ _) ?_ (hs _ _) (ht _) (by rw [List.size_toArray,hi.length,sizeLine_eq];lia)
 rw [oF vs k]
 let s₃:Shared:={ s₂ with heap:=s₂.heap.push { cls:=.type "slice",data:=.fields #[.none,.int k s₁.toks,.none] } }
 have A3:After G.base noX ρ₁ σ₁ s₂ ρ₁ σ₁ s₃:=After.grow (t:=s₂.toks) A2.rel (by rw [Heap.size_push];exact Nat.le_succ _) fun a o e=>Heap.get?_push_of_some _ e
 have hm:All2 (VR ρ₁ σ₁.n) ((ns.take k).map Val.int) (vs.take k):=by
  rw [List.map_take];exact All2.take k (ints_vals hi)
 obtain ⟨ρ',A4,v2⟩:=fB (X:=noX) (t:=s₃.toks) (n:=0) A3.rel hm
 have z:s₃.heap.objs.size=s₂.heap.objs.size+1:=Heap.size_push ..
 have e:=v2.2
 rw [z] at e
 rw [e]
 exact hQ ρ' _ _ ((A2.trans A3).trans A4) ⟨Nat.lt_succ_self _,rfl⟩
end
noncomputable def LawOK (G:G0) (fa:Addr) (b:SF):Prop:=∃ oc od osl fd body,G.K.lookup fa=some ⟨oc,od,.func fd,osl⟩/\fd.body=.stmts body/\∀ x A,LawCtx G fd.scope x A->LSB G fd.scope x A body b
theorem LawOK.of {G:G0} {fa:Addr} {b:SF} {name qual:Str} {params:Arguments} {body:List Stmt} {scope:Scope} {dV kV doc pm cdv ct oc:Value} {an od:Option Addr} {osl:Array (Option Value)}
  (ho:G.K.lookup fa=some ⟨oc,od,.func (fnX name qual params body scope [] dV kV doc pm an cdv ct),osl⟩) (B:∀ x A,LawCtx G scope x A->LSB G scope x A body b):LawOK G fa b:=⟨_,_,_,_,_,ho,rfl,B⟩
structure Fine (tabs:List (Addr×Addr)) (s₁:Shared) (r:Result) (s':Shared):Prop where
 res:r=.ok (.ret (.bool true))
 keep:∀ b o,(ghostOf s₁.heap tabs).get? b=some o->s'.heap.get? b=some o
 os:s'.os=s₁.os
 gens:AllBare s'.gens
 grown:GrownAll tabs s'.heap
theorem fine_post {M:Model} {A:Around} {cd:Code} {s s₁:Shared} {cw:ClaimW} {cl:Str->Option Addr} {mean:ExcName->Option Value} {args:List WData} {tabs:List (Addr×Addr)} (hT:TabsAt tabs s₁.heap) (hr:∀ x,cw.raises args x=false)
  (hp:cw.post args (.bool true) args=true) (h:codeAny M A cd (Fine tabs s₁) s):codeAny M A cd (GoodWG cw cl mean args s₁) s:=by
 refine codeAny_mono h fun r s' f=>?_
 have old:∀ b o,s₁.heap.get? b=some o->s'.heap.get? b=some o\/(isCodeTable s₁.heap b/\o=tabObj #[]/\GrownAt b s'.heap):=by
  intro b o e
  by_cases hb:b∈tabs.map (·.2)
  ·obtain ⟨q,hq,rfl⟩:=List.mem_map.mp hb
   obtain ⟨hc,ht⟩:=hT q hq
   rw [e] at ht
   exact .inr ⟨(hc.tab (hT q hq).2).isCodeTable,Option.some.inj ht,f.grown.get q hq⟩
  ·exact .inl (f.keep b o (ghost_ne e hb))
 refine ⟨.inl ⟨_,.bool true,[],f.res,hr,.bool true,hp,fun _=>⟨List.nodup_nil,fun a ha=>by cases ha⟩⟩,⟨fun b o e=>?_,fun b o e=>?_⟩,f.os,f.gens⟩
 ·rcases old b o e with h1 | ⟨h1,rfl,ps,h2⟩
  ·exact .inl h1
  ·exact .inr (.inl ⟨h1,rfl,#[],ps,rfl,by rw [Array.empty_append];exact h2⟩)
 ·rcases old b o e with h1 | ⟨_,_,ps,h2⟩
  ·exact ⟨_,h1⟩
  ·exact ⟨_,h2⟩
noncomputable def sto0:Sto:=⟨0,fun _=>.gone⟩
noncomputable def lm0 (a:Addr):Loc:=fun y=>if y = "script" then some (.fn a) else Option.none
theorem rel0 {base h:Heap} (hk:∀ a o,base.get? a=some o->h.get? a=some o) (hz:base.objs.size<=h.objs.size):Rel base (fun _ _=>0) sto0 h:=
 ⟨hk,fun i hi=>absurd hi (Nat.not_lt_zero i),fun i k j l hi=>absurd hi (Nat.not_lt_zero i),fun a ⟨i,k,hi,_⟩=>absurd hi (Nat.not_lt_zero i),hz⟩
theorem own0 {ρ:Map} {a:Addr}:¬ Own ρ sto0 a:=fun ⟨i,k,hi,_⟩=>absurd hi (Nat.not_lt_zero i)
set_option tactic.hygienic true in
theorem look4 {x n1 n2 n3 n4:Str} {a1 a2 a3 a4 c:Addr} (h:List.lookup x [(n1,a1),(n2,a2),(n3,a3),(n4,a4)]=some c):(x=n1/\c=a1)\/(x=n2/\c=a2)\/(x=n3/\c=a3)\/(x=n4/\c=a4):=by
 simp only [List.lookup] at h
 split at h
 ·rename_i e;cases h;exact .inl ⟨eq_of_beq e,rfl⟩
 ·split at h
  ·rename_i e;cases h;exact .inr (.inl ⟨eq_of_beq e,rfl⟩)
  ·split at h
   ·rename_i e;cases h;exact .inr (.inr (.inl ⟨eq_of_beq e,rfl⟩))
   ·split at h
    ·rename_i e;cases h;exact .inr (.inr (.inr ⟨eq_of_beq e,rfl⟩))
    ·cases h
theorem has4 {x n1 n2 n3 n4:Str} {a1 a2 a3 a4:Addr} (h:x=n1\/x=n2\/x=n3\/x=n4):∃ c,List.lookup x [(n1,a1),(n2,a2),(n3,a3),(n4,a4)]=some c:=by
 simp only [List.lookup]
 cases e1:x == n1 with
 | true=>exact ⟨_,rfl⟩
 | false=>
  cases e2:x == n2 with
  | true=>exact ⟨_,rfl⟩
  | false=>
   cases e3:x == n3 with
   | true=>exact ⟨_,rfl⟩
   | false=>
    cases e4:x == n4 with
    | true=>exact ⟨_,rfl⟩
    | false=>
     rcases h with h | h | h | h
     ·rw [h,beq_self_eq_true] at e1;cases e1
     ·rw [h,beq_self_eq_true] at e2;cases e2
     ·rw [h,beq_self_eq_true] at e3;cases e3
     ·rw [h,beq_self_eq_true] at e4;cases e4
theorem four_inj {y z n1 n2 n3 n4:Str} {L c:Nat} (h1:(y=n1/\c=L+1+1+1+1)\/(y=n2/\c=L+1+1+1)\/(y=n3/\c=L+1+1)\/(y=n4/\c=L+1)) (h2:(z=n1/\c=L+1+1+1+1)\/(z=n2/\c=L+1+1+1)\/(z=n3/\c=L+1+1)\/(z=n4/\c=L+1)):y=z:=by
 rcases h1 with ⟨rfl,q1⟩ | ⟨rfl,q1⟩ | ⟨rfl,q1⟩ | ⟨rfl,q1⟩<;>rcases h2 with ⟨rfl,q2⟩ | ⟨rfl,q2⟩ | ⟨rfl,q2⟩ | ⟨rfl,q2⟩<;>first | rfl | lia
theorem four_lt {y n1 n2 n3 n4:Str} {L c:Nat} (h:(y=n1/\c=L+1+1+1+1)\/(y=n2/\c=L+1+1+1)\/(y=n3/\c=L+1+1)\/(y=n4/\c=L+1)):L<c:=by lia
set_option tactic.hygienic true in
theorem tW (names:List (Str×NameKind)) (x:Str):∀ (n:Nat) (acc:List (Str×Addr)),(x,NameKind.cell)∈names\/x∈acc.map (·.1)->x∈(cellsFrom n names acc).map (·.1):=by
 induction names with
 | nil=>exact fun n acc h=>h.elim (fun q=>by cases q) id
 | cons yk r ih=>
  intro n acc h
  unfold cellsFrom
  split
  ·refine ih _ _ ?_
   rcases h with h | h
   ·rcases List.mem_cons.mp h with e | h
    ·cases e;exact .inr (.head _)
    ·exact .inl h
   ·exact .inr (.tail _ h)
  ·rename_i hk
   refine ih _ _ ?_
   rcases h with h | h
   ·rcases List.mem_cons.mp h with e | h
    ·cases e;exact absurd rfl hk
    ·exact .inl h
   ·exact .inr h
theorem bat_of {p:Program} {loose:List Str} {mean:ExcName->Option Value} {mg mb:Str->Option Value} {h:Heap} (T:Top p loose mean mg mb h) {P:Addr} (hP:h.get? P=none):h.BuiltinsAt mg P:=by
 obtain ⟨bm,ob,a1,a2,a3,a4,a5,a6⟩:=T.bmain
 refine ⟨bm,ob,a1,a2,fun q=>?_,(fun q=>by rw [q,hP] at a3;cases a3),a3,a4,a5,a6⟩
 obtain ⟨o,es,ep,e1,e2,_⟩:=T.g
 rw [<- q,a3] at e1
 cases e1
 rw [a6] at e2;cases e2
set_option tactic.hygienic true in
theorem law_run {G:G0} {b:SF} (K:LawOK G 504 b) {nm:Str} {sc:Scope} {body:List Stmt} (hl:∃ oc od osl fd,G.K.lookup 504=some ⟨oc,od,.func fd,osl⟩/\fd.body=.stmts body/\fd.scope=sc) (hkind:sc.kind=.function)
  {L fa a:Addr} {n1 n2 n3 n4:Str} (hcs:cellsFrom (L+1) sc.names []=[(n1,L+1+1+1+1),(n2,L+1+1+1),(n3,L+1+1),(n4,L+1)])
  {s:Shared} {m:Str->Option Value} {o1 o2 o3 o4:Obj} {v1 v2 v3 v4:Option Value} (F:Fr G.base L s.heap m) (hm:m "script"=some (.ref a)) (hks:sc.names.lookup (Str.ofString "script")=some NameKind.local)
  (N:News G.base L s.heap [(L+1+1+1+1,o1),(L+1+1+1,o2),(L+1+1,o3),(L+1,o4),(501,tabObj #[])]) (d1:o1.data=.cell v1) (d2:o2.data=.cell v2) (d3:o3.data=.cell v3) (d4:o4.data=.cell v4)
  (low:501<G.base.objs.size) (hcd:CodeHd G.base 503 501) (hb:G.base.BuiltinsAt G.mg 501) (hlaw:∃ l' σ',b (lm0 a) sto0=some (.ret (.bool true),l',σ')) {Q:Flow->Shared->Prop} {E:Value->Shared->Prop}
  (hQ:∀ s',(∀ a o,G.base.get? a=some o->s'.heap.get? a=some o)->s'.os=s.os->(AllBare s.gens->AllBare s'.gens)->GrownAt 501 s'.heap->Q (.ret (.bool true)) s') :
  wpAny (model G.prog G.w) (callerA.deeper (envOfC nm sc L fa (.ref 503))) (execs body (envOfC nm sc L fa (.ref 503))) Q E s:=by
 obtain ⟨oc,od,osl,fd,body',k1,k2,k3⟩:=K
 obtain ⟨oc2,od2,osl2,fd2,g1,g2,rfl⟩:=hl
 rw [k1] at g1
 cases g1
 rw [k2] at g2
 cases g2
 let x:Vx:=vx nm L fa (.ref 503) (cellsFrom (L+1) fd.scope.names [])
 have hx:x.env fd.scope=envOfC nm fd.scope L fa (.ref 503):=rfl
 have h501:=(N (501,tabObj #[]) (by simp)).1
 have n501:=(N (501,tabObj #[]) (by simp)).2.2
 have C:LawCtx G fd.scope x (callerA.deeper (envOfC nm fd.scope L fa (.ref 503))):=
  ⟨⟨by show 1+300+1+40<=600;decide,by show 4+3+60*40<=9000;decide,rfl⟩,rfl,rfl,rfl,hkind,fun h k=>hcd.keeps k,fun h k=>by
   obtain ⟨bm,o,e1,e2,e3,e4,e5,r⟩:=hb
   exact ⟨bm,o,e1,e2,e3,e4,k _ _ e5,r⟩,low,n501⟩
 have cells:∀ y c,(cellsFrom (L+1) fd.scope.names []).lookup y=some c->L<c/\(∃ v,s.heap.IsCell c v)/\((y=n1/\c=L+1+1+1+1)\/(y=n2/\c=L+1+1+1)\/(y=n3/\c=L+1+1)\/(y=n4/\c=L+1)):=by
  intro y c h
  rw [hcs] at h
  have h:=look4 h
  refine ⟨?_,?_,h⟩
  ·exact four_lt h
  ·rcases h with ⟨_,rfl⟩ | ⟨_,rfl⟩ | ⟨_,rfl⟩ | ⟨_,rfl⟩
   ·exact ⟨v1,o1,(N (_,o1) (by simp)).1,d1⟩
   ·exact ⟨v2,o2,(N (_,o2) (by simp)).1,d2⟩
   ·exact ⟨v3,o3,(N (_,o3) (by simp)).1,d3⟩
   ·exact ⟨v4,o4,(N (_,o4) (by simp)).1,d4⟩
 have hLlt:=F.ns.lt
 have H:Here G.base (x.env fd.scope) (lm0 a) (fun _ _=>0) sto0 s:=by
  refine ⟨rel0 F.keep (Nat.le_trans F.above (Nat.le_of_lt hLlt)),⟨m,F.ns,fun y v hy=>?_⟩,fun _ _=>own0,fun c hc=>?_,fun c hc=>?_,fun y c hc=>?_,fun y z c h1 h2=>?_,fun y c hc=>(cells y c hc).2.1,fun y hy=>?_⟩
  ·unfold lm0 at hy
   split at hy
   ·rename_i q
    subst q
    cases hy
    exact ⟨.ref a,.inl ⟨hks,hm⟩,rfl⟩
   ·cases hy
  ·rcases hc with rfl | ⟨y,hc⟩
   ·exact F.above
   ·exact Nat.le_trans F.above (Nat.le_of_lt (cells y c hc).1)
  ·rcases hc with rfl | ⟨y,hc⟩
   ·exact hLlt
   ·obtain ⟨v,o,ho,_⟩:=(cells y c hc).2.1
    exact Heap.lt_size ho
  ·exact Nat.ne_of_gt (cells y c hc).1
  ·exact four_inj (cells y c h1).2.2 (cells z c h2).2.2
  ·show ∃ c,(cellsFrom (L+1) fd.scope.names []).lookup y=some c
   rw [hcs]
   have hm:=tW fd.scope.names y (L+1) [] (.inl (mem_of_lookup hy))
   rw [hcs] at hm
   refine has4 ?_
   simpa using hm
 have T:TabOK fd.scope x (fun _ _=>0) sto0 s.heap:=⟨#[],h501,trivial,fun pos cv e=>by cases e⟩
 obtain ⟨l',σ',hrun⟩:=hlaw
 refine k3 x _ C (lm0 a) (fun _ _=>0) sto0 s _ l' σ' Q E ⟨H,T⟩ hrun fun ρ' s' flw B H' Fl=>?_
 obtain ⟨val,rfl,hv⟩:=Fl
 cases hv
 obtain ⟨ps,ht,_⟩:=H'.tab
 exact hQ s' B.rel.stays B.os B.bare ⟨ps,ht⟩
noncomputable def nP:BX:=
 (iteX (orT [(cmpT .Lt (varF "quotient") (kF (.int 3))),(cmpT .Gt (varF "quotient") (kF (.int 31)))]) (fstrX "Invalid quotient setting; quotient must be between 3 and 31; " " was provided" (varF "quotient")) (fun _ _=>none))
noncomputable def iC:BF:=kM ["self","quotient","auto_expand","hash_function"] [.bool true,.none] nP
noncomputable def lU:BX:=
 (iteX (cmpT .NotEq (fldF 467 "_hash_func" hashTab (varF "self") (aA (kF (.str (Str.ofString "test"))) (aA (kF (.int 0)) nilL))) (fldF 467 "_hash_func" hashTab (varF "second") (aA (kF (.str (Str.ofString "test"))) (aA (kF (.int 0)) nilL)))) (fun l σ=>((kF (.str (Str.ofString "Hash functions do not match"))) l σ).map (·.2)) (fun _ _=>none))
noncomputable def gR:BF:=kM ["self","second"] [] lU
noncomputable def jX:BX:=
 (seqX (ifS (cmpT .Is (varF "quotient") (kF .none)) (setF "quotient" (binF .Add (aC 467 "_q" (varF "self")) (kF (.int 1)))) nilB)
 (iteX (cmpT .GtE (lZ 467 bB (varF "self")) (binF .LShift (kF (.int 1)) (varF "quotient"))) (fun l σ=>((kF (.str (Str.ofString "Unable to shrink since there will be too many elements in the quotient filter"))) l σ).map (·.2)) (fun _ _=>none)))
noncomputable def eU:BF:=kM ["self","quotient"] [] jX
noncomputable def mO:BX:=
 (iteX (cmpT .Eq (aC 467 "_size" (varF "self")) (aC 467 "_elements_added" (varF "self"))) (fun l σ=>((kF (.str (Str.ofString "Unable to insert the element due to insufficient space"))) l σ).map (·.2)) (fun _ _=>none))
noncomputable def jP:BF:=kM ["self","q","r"] [] mO
noncomputable def iV:BX:=
 (seqX (ifS (andT [(valT (aC 467 "_auto_resize" (varF "self"))),(cmpT .GtE (binF .Mult (kF (.int 100)) (aC 467 "_elements_added" (varF "self"))) (binF .Mult (kF (.int 85)) (aC 467 "_size" (varF "self"))))]) (fun _ _=>none) nilB)
 (seqX (setF "key_quotient" (binF .RShift (varF "_hash") (aC 467 "_r" (varF "self"))))
 (seqX (setF "key_remainder" (binF .BitAnd (varF "_hash") (binF .Sub (binF .LShift (kF (.int 1)) (aC 467 "_r" (varF "self"))) (kF (.int 1)))))
 (iteX (cmpT .Eq (aF 467 "_contained_at_loc" aG (varF "self") (aA (varF "key_quotient") (aA (varF "key_remainder") nilL))) (unF .USub (kF (.int 1)))) (lH 467 "_add" jP (varF "self") (aA (varF "key_quotient") (aA (varF "key_remainder") nilL))) (fun _ _=>none)))))
noncomputable def fI:BF:=kM ["self","_hash"] [] iV
noncomputable def bTurn:SF:=
 (seqB (setF "deed" (binF .Mod (varF "n") (kF (.int 7))))
 (seqB (setF "at" (binF .Mod (binF .FloorDiv (varF "n") (kF (.int 7))) (kF (.int 24))))
 (seqB (setF "more" (binF .FloorDiv (varF "n") (kF (.int 168))))
 (seqB (setF "code" (fnF aY (aA (varF "at") nilL)))
 (seqB (ifS (andT [(cmpT .Lt (varF "deed") (kF (.int 3))),(orT [(valT (varF "grows")),(cmpT .Lt (binF .Add (varF "used") (kF (.int 1))) (varF "room")),(inT false (varF "code") (varF "held"))])]) (seqB (ifS (cmpT .Eq (binF .Mod (varF "more") (kF (.int 2))) (kF (.int 0))) (aU (aF 467 "add" mL (varF "one") (aA (chrF (varF "letters") (varF "at")) nilL))) (aU (aF 467 "add_alt" aS (varF "one") (aA (varF "code") nilL))))
 (ifS (inT true (varF "code") (varF "held")) (seqB (aU (appF (varF "held") (varF "code")))
 (setF "used" (binF .Add (varF "used") (kF (.int 1))))) nilB)) (ifS (orT [(cmpT .Eq (varF "deed") (kF (.int 4))),(cmpT .Eq (varF "deed") (kF (.int 5)))]) (seqB (ifS (cmpT .Eq (varF "deed") (kF (.int 4))) (aU (aF 467 "remove" fY (varF "one") (aA (chrF (varF "letters") (varF "at")) nilL))) (aU (aF 467 "remove_alt" bS (varF "one") (aA (varF "code") nilL))))
 (setF "held" (mB "other" ["code"] (varF "held") (cmpT .NotEq (varF "other") (varF "code")) (varF "other") 100))) (ifS (andT [(cmpT .Eq (varF "deed") (kF (.int 6))),(cmpT .Eq (binF .Mod (varF "more") (kF (.int 3))) (kF (.int 0))),(cmpT .Lt (varF "room") (kF (.int 16))),(orT [(cmpT .Lt (varF "used") (kF (.int 4))),(notT (valT (varF "grows")))])]) (seqB (aU (aF 467 "resize" fG (varF "one") nilL))
 (seqB (setF "room" (binF .Mult (varF "room") (kF (.int 2))))
 (setF "used" (lenF (varF "held"))))) (ifS (andT [(cmpT .Eq (varF "deed") (kF (.int 6))),(cmpT .Eq (binF .Mod (varF "more") (kF (.int 3))) (kF (.int 1))),(orT [(valT (varF "grows")),(cmpT .Lt (binF .Add (varF "used") (lenF (varF "others"))) (varF "room"))])]) (seqB (aU (aF 467 "merge" kQ (varF "one") (aA (varF "second") nilL)))
 (seqB (kK "other" (varF "others") (ifS (inT true (varF "other") (varF "held")) (seqB (aU (appF (varF "held") (varF "other")))
 (setF "used" (binF .Add (varF "used") (kF (.int 1))))) nilB) 100)
 (ifS (eqLT true (cX (aF 467 "get_hashes" aV (varF "second") nilL)) (cX (varF "others"))) (retS (kF (.bool false))) nilB))) (ifS (andT [(cmpT .Eq (varF "deed") (kF (.int 6))),(cmpT .Eq (binF .Mod (varF "more") (kF (.int 3))) (kF (.int 2))),(notT (valT (varF "grows"))),(cmpT .Lt (varF "room") (kF (.int 32))),(orT [(cmpT .GtE (lenF (varF "held")) (kF (.int 8))),(cmpT .Eq (varF "used") (lenF (varF "held")))])]) (seqB (ifS (cmpT .NotEq (refF ["one"] (aF 467 "resize" dX (varF "one") (aA (kF (.int 3)) nilL)) (lH 467 "resize" eU (varF "one") (aA (kF (.int 3)) nilL))) (cmpF .GtE (lenF (varF "held")) (kF (.int 8)))) (retS (kF (.bool false))) nilB)
 (ifS (cmpT .Lt (lenF (varF "held")) (kF (.int 8))) (setF "room" (kF (.int 8))) nilB)) (ifS (cmpT .Eq (varF "deed") (kF (.int 6))) (ifS (cmpT .NotEq (fun l σ=>(inObT 467 fH (chrF (varF "letters") (varF "at")) (varF "one") l σ).map fun r=>(.bool r.1,r.2)) (inF false (varF "code") (varF "held"))) (retS (kF (.bool false))) nilB) (ifS (cmpT .Eq (binF .Mod (varF "more") (kF (.int 2))) (kF (.int 0))) (ifS (cmpT .NotEq (aF 467 "check" iD (varF "one") (aA (chrF (varF "letters") (varF "at")) nilL)) (inF false (varF "code") (varF "held"))) (retS (kF (.bool false))) nilB) (ifS (cmpT .NotEq (aF 467 "check_alt" aX (varF "one") (aA (varF "code") nilL)) (inF false (varF "code") (varF "held"))) (retS (kF (.bool false))) nilB))))))))
 (ifS (andT [(cmpT .NotEq (varF "deed") (kF (.int 3))),(eqLT true (cX (aF 467 "get_hashes" aV (varF "one") nilL)) (cX (varF "held")))]) (retS (kF (.bool false))) nilB))))))
noncomputable def bLaw0 (sa:Addr) (sn:List Int):SF:=
 (setF "numbers" (addLF (mB "n" [] (cutA sa sn 8 (varF "script")) (fun _ σ=>some (true,σ)) (binF .Mod (varF "n") (kF (.int 1000003))) 100) (gT (aA (kF (.int 1)) (aA (kF (.int 29)) (aA (kF (.int 56)) nilL))))))
noncomputable def bLaw1:SF:=
 (setF "letters" (kF (.str (Str.ofString "abcdefghijklmnopqrstuvwx"))))
noncomputable def bLaw2:SF:=
 (setF "grows" (cmpF .Eq (binF .Mod (idxF (varF "numbers") (kF (.int 0))) (kF (.int 2))) (kF (.int 1))))
noncomputable def bLaw3:SF:=
 (setF "one" (newF 467 fU (aA (kF (.int 3)) (aA (varF "grows") (aA (kF (.fn 485)) nilL)))))
noncomputable def bLaw4:SF:=
 (setF "second" (newF 467 fU (aA (kF (.int 3)) (aA (kF (.bool true)) (aA (kF (.fn 485)) nilL)))))
noncomputable def bLaw5:SF:=
 (setF "others" (gT nilL))
noncomputable def bLaw6:SF:=
 (jF "at" (aA (binF .Mod (binF .FloorDiv (idxF (varF "numbers") (kF (.int 0))) (kF (.int 2))) (kF (.int 6))) nilL) (seqB (setF "code" (fnF aY (aA (binF .Mod (binF .Add (idxF (varF "numbers") (kF (.int 1))) (binF .Mult (varF "at") (binF .Add (binF .Mod (binF .FloorDiv (idxF (varF "numbers") (kF (.int 0))) (kF (.int 12))) (kF (.int 23))) (kF (.int 1))))) (kF (.int 24))) nilL)))
 (seqB (aU (aF 467 "add_alt" aS (varF "second") (aA (varF "code") nilL)))
 (ifS (inT true (varF "code") (varF "others")) (aU (appF (varF "others") (varF "code"))) nilB))))
noncomputable def bLaw7:SF:=
 (setF "held" (gT nilL))
noncomputable def bLaw8:SF:=
 (setF "room" (kF (.int 8)))
noncomputable def bLaw9:SF:=
 (setF "used" (kF (.int 0)))
noncomputable def sR:SF:=
 (kK "n" (cutF false 2 (varF "numbers")) bTurn 100)
noncomputable def pI:SF:=
 (jF "at" (aA (binF .Mod (idxF (varF "numbers") (kF (.int 1))) (kF (.int 3))) (aA (kF (.int 24)) (aA (kF (.int 3)) nilL))) (ifS (cmpT .NotEq (aF 467 "check_alt" aX (varF "one") (aA (fnF aY (aA (varF "at") nilL)) nilL)) (inF false (fnF aY (aA (varF "at") nilL)) (varF "held"))) (retS (kF (.bool false))) nilB))
noncomputable def pH:SF:=
 (ifS (orT [(notT (valT (refF ["one"] (fun _ _=>none) (lH 467 "merge" gR (varF "one") (aA (newF 467 fU (aA (kF (.int 3)) (aA (kF (.bool true)) (aA (kF (.fn 492)) nilL)))) nilL))))),(eqLT true (cX (aF 467 "get_hashes" aV (varF "one") nilL)) (cX (varF "held")))]) (retS (kF (.bool false))) nilB)
noncomputable def pG:SF:=
 (ifS (orT [(notT (valT (refF [] (fun _ _=>none) (newX 467 iC (aA (kF (.int 2)) nilL))))),(notT (valT (refF [] (fun _ _=>none) (newX 467 iC (aA (kF (.int 32)) nilL)))))]) (retS (kF (.bool false))) nilB)
noncomputable def sQ:SF:=
 (setF "small" (newF 467 fU (aA (kF (.int 3)) (aA (kF (.bool false)) (aA (kF (.fn 485)) nilL)))))
noncomputable def sP:SF:=
 (setF "eight" (gT nilL))
noncomputable def pF:SF:=
 (jF "at" (aA (kF (.int 9)) nilL) (ifS (cmpT .Lt (binF .Mod (idxF (varF "numbers") (kF (.int 0))) (kF (.int 4))) (kF (.int 2))) (aU (appF (varF "eight") (fnF aY (aA (binF .Mod (binF .Add (binF .Add (idxF (varF "numbers") (kF (.int 1))) (binF .Mult (binF .FloorDiv (varF "at") (kF (.int 3))) (kF (.int 5)))) (binF .Mult (binF .Mod (varF "at") (kF (.int 3))) (kF (.int 8)))) (kF (.int 24))) nilL)))) (aU (appF (varF "eight") (fnF aY (aA (binF .Mod (binF .Add (idxF (varF "numbers") (kF (.int 1))) (binF .Mult (varF "at") (kF (.int 5)))) (kF (.int 24))) nilL))))))
noncomputable def pE:SF:=
 (kK "code" (cutF true 8 (varF "eight")) (aU (aF 467 "add_alt" aS (varF "small") (aA (varF "code") nilL))) 100)
noncomputable def sO:SF:=
 (aU (aF 467 "add_alt" aS (varF "small") (aA (idxF (varF "eight") (kF (.int 3))) nilL)))
noncomputable def pD:SF:=
 (ifS (orT [(notT (valT (refF ["eight","small"] (fun _ _=>none) (lH 467 "add_alt" fI (varF "small") (aA (idxF (varF "eight") (kF (.int 8))) nilL))))),(valT (aF 467 "check_alt" aX (varF "small") (aA (idxF (varF "eight") (kF (.int 8))) nilL)))]) (retS (kF (.bool false))) nilB)
noncomputable def sN:SF:=
 (retS (eqLF false (mB "code" ["small"] (cutF true 8 (varF "eight")) (notT (valT (aF 467 "check_alt" aX (varF "small") (aA (varF "code") nilL)))) (varF "code") 100) (gT nilL)))
noncomputable def bLaw (sa:Addr) (sn:List Int):SF:=
 (seqB (bLaw0 sa sn)
 (seqB bLaw1
 (seqB bLaw2
 (seqB bLaw3
 (seqB bLaw4
 (seqB bLaw5
 (seqB bLaw6
 (seqB bLaw7
 (seqB bLaw8
 (seqB bLaw9
 (seqB sR
 (seqB pI
 (seqB pH
 (seqB pG
 (seqB sQ
 (seqB sP
 (seqB pF
 (seqB pE
 (seqB sO
 (seqB pD
 sN))))))))))))))))))))
end
section
open PySem
structure Qf (σ:Sto) (V:View) (H:Int->Int) (S:List Int):Prop where
 isq:qf σ V=σ
 good:Good V
 lay:LayW V H
 ex:S.length<V.m->∃ e,E V e=true
 rep:Rep V H S
 codes:∀ c∈S,bW c
 hi:V.i<σ.n
 hb:V.b+10<σ.n
 hf:V.hf=485
 n0:(S.length:Int)<=V.n
structure Stp (V V':View) (σ τ:Sto):Prop where
 n:σ.n<=τ.n
 same:∀ k,k<σ.n->¬ own V k->τ.get k=σ.get k
 i:V'.i=V.i
 b:V'.b=V.b\/σ.n<=V'.b
 auto:V'.auto=V.auto
noncomputable def Sep (V W:View):Prop:=∀ k,own V k->¬ own W k
section
variable {σ τ:Sto} {V V' W:View} {H K:Int->Int} {l:Loc} {S T:List Int}
theorem qf_keep (h:qf σ V=σ) (same:∀ k,own V k->τ.get k=σ.get k):qf τ V=τ:=by
 have e:∀ k,(qf σ V).get k=σ.get k:=fun k=>by rw [h]
 have f:∀ k,(qf τ V).get k=τ.get k:=by
  intro k
  by_cases ho:own V k
  ·have hk:=e k
   rw [same k ho]
   unfold qf at hk |-
   dsimp only at hk |-
   rw [same k ho]
   exact hk
  ·exact cY ho
 show (⟨(qf τ V).n,(qf τ V).get⟩:Sto)=⟨τ.n,τ.get⟩
 rw [show (qf τ V).get=τ.get from funext f]
 rfl
theorem lC:qf (qf σ V) V=qf σ V:=by
 have f:∀ k,(qf (qf σ V) V).get k=(qf σ V).get k:=by
  intro k
  unfold qf
  dsimp only
  by_cases h1:k=V.i
  ·rw [if_pos h1,if_pos h1]
  ·rw [if_neg h1,if_neg h1]
   by_cases h2:k=V.b
   ·rw [if_pos h2,if_pos h2]
   ·rw [if_neg h2,if_neg h2]
    by_cases h3:k=V.b+2
    ·rw [if_pos h3,if_pos h3]
    ·rw [if_neg h3,if_neg h3]
     by_cases h4:k=V.b+3
     ·rw [if_pos h4,if_pos h4]
     ·rw [if_neg h4,if_neg h4]
      by_cases h5:k=V.b+5
      ·rw [if_pos h5,if_pos h5]
      ·rw [if_neg h5,if_neg h5]
       by_cases h6:k=V.b+6
       ·rw [if_pos h6,if_pos h6]
       ·rw [if_neg h6,if_neg h6]
        by_cases h7:k=V.b+8
        ·rw [if_pos h7,if_pos h7]
        ·rw [if_neg h7,if_neg h7]
         by_cases h8:k=V.b+10
         ·rw [if_pos h8,if_pos h8]
         ·rw [if_neg h8,if_neg h8]
 show (⟨(qf (qf σ V) V).n,(qf (qf σ V) V).get⟩:Sto)=⟨(qf σ V).n,(qf σ V).get⟩
 rw [show (qf (qf σ V) V).get=(qf σ V).get from funext f]
 rfl
theorem Qf.lo (Q:Qf σ V H S) (h:S.length<V.m):Lay V H:=Q.lay.strong (Q.ex h)
theorem Qf.keep (Q:Qf σ V H S) (n:σ.n<=τ.n) (same:∀ k,k<σ.n->own V k->τ.get k=σ.get k):Qf τ V H S:=
 ⟨qf_keep Q.isq fun k ho=>same k (by have:=Q.hi;have:=Q.hb;unfold own at ho;lia) ho,Q.good,Q.lay,Q.ex,Q.rep,Q.codes,by have:=Q.hi;lia,by have:=Q.hb;lia,Q.hf,Q.n0⟩
theorem Qf.other (Q:Qf σ W K T) (s:Stp V V' σ τ) (hs:Sep V W):Qf τ W K T:=Q.keep s.n fun k hk ho=>s.same k hk fun z=>hs k z ho
theorem Qf.ext (Q:Qf σ V H S) (s:Ext σ τ):Qf τ V H S:=Q.keep s.n fun k hk ho=>s.same k hk
theorem Sep.step (hs:Sep V W) (s:Stp V V' σ τ) (hi:W.i<σ.n) (hb:W.b+10<σ.n):Sep V' W:=by
 intro k hk hw
 have h1:=hs k
 have hb':=s.b
 have hi':=s.i
 unfold own at *
 rcases hb' with e | e
 ·rw [hi',e] at hk;exact h1 hk hw
 ·rcases hk with q | q
  ·exact h1 (.inl (by rw [q,hi'])) hw
  ·lia
theorem Sep.symm (hs:Sep V W):Sep W V:=fun k h1 h2=>hs k h2 h1
theorem Stp.nown (s:Stp V V' σ τ) {j:Nat} (hj:j<σ.n) (ho:¬ own V j):¬ own V' j:=by
 intro hk
 have hb':=s.b
 have hi':=s.i
 unfold own at *
 rcases hb' with e | e
 ·rw [hi',e] at hk;exact ho hk
 ·lia
theorem Stp.trans {V'':View} {υ:Sto} (s:Stp V V' σ τ) (t:Stp V' V'' τ υ):Stp V V'' σ υ:=by
 refine ⟨Nat.le_trans s.n t.n,fun k hk ho=>?_,t.i.trans s.i,?_,t.auto.trans s.auto⟩
 ·have hn:=s.n
  rw [t.same k (by lia) (s.nown hk ho),s.same k hk ho]
 ·rcases t.b with e | e
  ·rw [e];exact s.b
  ·exact .inr (Nat.le_trans s.n e)
theorem Stp.refl:Stp V V σ σ:=⟨Nat.le_refl _,fun _ _ _=>rfl,rfl,.inl rfl,rfl⟩
theorem Stp.ext {υ:Sto} (s:Stp V V' σ τ) (e:Ext τ υ):Stp V V' σ υ:=⟨Nat.le_trans s.n e.n,fun k hk ho=>(e.same k (by have:=s.n;lia)).trans (s.same k hk ho),s.i,s.b,s.auto⟩
theorem mP (hS:∀ c∈S,bW c) {c:Int} (hc:bW c):∀ d∈adds S c,bW d:=by
 intro d hd
 unfold adds at hd
 split at hd
 ·exact hS d hd
 ·rcases List.mem_append.mp hd with z | z
  ·exact hS d z
  ·rw [List.mem_singleton] at z;rw [z];exact hc
theorem eT (S:List Int) (c:Int):(adds S c).length=if c∈S then S.length else S.length+1:=by
 unfold adds;split<;>simp
theorem Qf.check (Q:Qf σ V H S) {c:Int} (hc:bW c):aX [.ref V.i,.int c] σ=some (.bool (decide (c∈S)),σ):=by
 have:=mC (σ:=σ) Q.good Q.lay Q.rep hc
 rwa [Q.isq] at this
theorem Qf.remove (Q:Qf σ V H S) {c:Int} (hc:bW c) (hl:S.length<V.m):∃ τ V' H',Stp V V' σ τ/\Qf τ V' H' (S.filter fun d=>decide (d≠c))/\V'.q=V.q/\V'.n=V.n/\bS [.ref V.i,.int c] σ=some (.none,τ):=by
 obtain ⟨σ',V',H',a1,a2,a3,a4,a5⟩:=lB (σ:=σ) Q.good (Q.lo hl) Q.rep hc Q.hi Q.hb
 rw [Q.isq] at a5
 have ei:V'.i=V.i:=by rw [a2]
 have eb:V'.b=V.b:=by rw [a2]
 have eq:V'.q=V.q:=by rw [a2]
 have en:V'.n=V.n:=by rw [a2]
 have hlen:=List.length_filter_le (fun d=>decide (d≠c)) S
 have h0:=Q.n0
 refine ⟨qf σ' V',V',H',⟨a1.n,fun k hk ho=>?_,ei,.inl eb,by rw [a2]⟩,⟨lC,by rw [a2];exact ⟨Q.good.lt,Q.good.q⟩,a3.toLayW,fun _=>a3.ex,a4,fun d hd=>Q.codes d (List.mem_filter.mp hd).1,?_,?_,by rw [a2];exact Q.hf,by rw [en];lia⟩,eq,en,a5⟩
 ·rw [cY (by unfold own at ho |-;rw [ei,eb];exact ho)]
  exact a1.same k hk
 ·have:=Q.hi;have:=a1.n;show V'.i<σ'.n;lia
 ·have:=Q.hb;have:=a1.n;show V'.b+10<σ'.n;lia
theorem Qf.add (Q:Qf σ V H S) {c:Int} (hc:bW c) (hn:V.n.natAbs<1000) (hgrow:(V.auto && decide (85*(V.m:Int)<=100*V.n))=false) (hr:c∈S\/(S.length<V.m/\V.n≠V.m)) :
  ∃ τ V' H',Stp V V' σ τ/\Qf τ V' H' (adds S c)/\V'.q=V.q/\V'.n=(if c∈S then V.n else V.n+1)/\aS [.ref V.i,.int c] σ=some (.none,τ):=by
 let l:=aJ ["self","_hash"] [.ref V.i,.int c]
 have l1:l "self"=some (.ref V.i):=by simp [l,aJ]
 have l2:l "_hash"=some (.int c):=by simp [l,aJ]
 have g:=gV (σ:=σ) Q.good l1 hn
 rw [hgrow] at g
 have fin:∀ {l':Loc} {τ:Sto},hU l (qf σ V)=some (.next,l',τ)->aS [.ref V.i,.int c] σ=some (.none,τ):=by
  intro l' τ h
  have:aS [.ref V.i,.int c] (qf σ V)=some (.none,τ):=bC (l':=l') rfl (seqN (l':=l) (σ₁:=qf σ V) ((cC g).trans rfl) h)
  rwa [Q.isq] at this
 by_cases hm:c∈S
 ·obtain ⟨l',h⟩:=kA (σ:=σ) Q.good Q.lay Q.rep hc l1 l2 hm
  have:=fin h
  rw [Q.isq] at this
  exact ⟨σ,V,H,.refl,by unfold adds;rw [if_pos hm];exact Q,rfl,by rw [if_pos hm],this⟩
 ·obtain ⟨hlt,hne⟩:=hr.resolve_left hm
  obtain ⟨V',H',l',a1,a2,a3,a4,a5⟩:=lX (σ:=σ) Q.good (Q.lo hlt) Q.rep hc l1 l2 hm hne
  have ei:V'.i=V.i:=by rw [a1]
  have eb:V'.b=V.b:=by rw [a1]
  have eq:V'.q=V.q:=by rw [a1]
  have en:V'.n=V.n+1:=by rw [a1]
  have em:V'.m=V.m:=by unfold View.m;rw [eq]
  have ha:adds S c=S ++ [c]:=by unfold adds;rw [if_neg hm]
  have h0:=Q.n0
  refine ⟨qf σ V',V',H',⟨Nat.le_refl _,fun k hk ho=>?_,ei,.inl eb,by rw [a1]⟩,⟨lC,by rw [a1];exact ⟨Q.good.lt,Q.good.q⟩,a2,fun hl=>?_,by rw [ha];exact a4,mP Q.codes hc,by rw [ei];exact Q.hi,by rw [eb];exact Q.hb,by rw [a1];exact Q.hf,?_⟩,eq,by rw [if_neg hm,en],fin a5⟩
  ·exact cY (by unfold own at ho |-;rw [ei,eb];exact ho)
  ·rw [em,eT,if_neg hm] at hl
   exact (a3 hl).ex
  ·rw [eT,if_neg hm,en];lia
theorem Qf.grow (Q:Qf σ V H S) {c:Int} (hc:bW c) (h3:V.q=3) (hn7:7<=V.n) (hn8:V.n<8) (ha:V.auto=true) :
  ∃ τ V' H',Stp V V' σ τ/\Qf τ V' H' (adds S c)/\V'.q=4/\V'.n=((adds S c).length:Int)/\aS [.ref V.i,.int c] σ=some (.none,τ):=by
 have h0:=Q.n0
 have hm:V.m=8:=by unfold View.m;rw [h3]
 obtain ⟨σ',V',H',a1,a2,a3,a4,a5,a6,a7,a8,a9,a10,a11⟩:=pQ (σ:=σ) Q.good (Q.lo (by lia)) Q.rep Q.codes hc h3 Q.hi Q.hb (by lia) hn7 (by lia) ha
 rw [Q.isq] at a11
 have hi:=Q.hi
 refine ⟨qf σ' V',V',H',⟨a1.n,fun k hk ho=>?_,a4,.inr a2,a6⟩,⟨lC,⟨by rw [a4];lia,.inr a5⟩,a9.toLayW,fun _=>a9.ex,a10,mP Q.codes hc,?_,a3,by rw [a7];exact Q.hf,by rw [a8];lia⟩,a5,a8,a11⟩
 ·rw [cY (by unfold own at ho |-;rw [a4];lia)]
  exact a1.same k hk ho
 ·have:=a1.n;show V'.i<σ'.n;lia
theorem Qf.rz {q:Nat} {V':View} {H':Int->Int} {σ':Sto} (Q:Qf σ V H S) (Z:Rz V V' σ σ' q S.length) (L:Lay V' H') (R:Rep V' H' S) (hq:q=3\/q=4):Stp V V' σ (qf σ' V')/\Qf (qf σ' V') V' H' S:=by
 have hi:=Q.hi
 have hlo:=Z.lo
 have hzi:=Z.i
 refine ⟨⟨Z.ext.n,fun k hk ho=>?_,Z.i,.inr Z.lo,Z.auto⟩,⟨lC,⟨by lia,by rw [Z.q];exact hq⟩,L.toLayW,fun _=>L.ex,R,Q.codes,?_,Z.hi,by rw [Z.hf];exact Q.hf,by rw [Z.n];lia⟩⟩
 ·rw [cY (by unfold own at ho |-;lia)]
  exact Z.ext.same k hk ho
 ·have:=Z.ext.n;show V'.i<σ'.n;lia
theorem Qf.resize (Q:Qf σ V H S) (h3:V.q=3) (hn:V.n<8):∃ τ V' H',Stp V V' σ τ/\Qf τ V' H' S/\V'.q=4/\V'.n=(S.length:Int)/\fG [.ref V.i] σ=some (.none,τ):=by
 have h0:=Q.n0
 have hm:V.m=8:=by unfold View.m;rw [h3]
 obtain ⟨σ',V',H',Z,L,R,e⟩:=lA (σ:=σ) Q.good (Q.lo (by lia)) Q.rep Q.codes h3 Q.hi Q.hb (by lia) (by lia)
 rw [Q.isq] at e
 obtain ⟨s,Q'⟩:=Q.rz Z L R (.inr rfl)
 exact ⟨_,V',H',s,Q',Z.q,Z.n,e⟩
theorem Qf.shrink (Q:Qf σ V H S) (hn:V.n<8) (ha:V.auto=false):∃ τ V' H',Stp V V' σ τ/\Qf τ V' H' S/\V'.q=3/\V'.n=(S.length:Int)/\dX [.ref V.i,.int 3] σ=some (.none,τ):=by
 have h0:=Q.n0
 have hm:=Q.good.mc
 obtain ⟨σ',V',H',Z,L,R,e⟩:=oA (σ:=σ) Q.good (Q.lo (by lia)) Q.rep Q.codes Q.hi Q.hb hn (by lia) ha
 rw [Q.isq] at e
 obtain ⟨s,Q'⟩:=Q.rz Z L R (.inl rfl)
 exact ⟨_,V',H',s,Q',Z.q,Z.n,e⟩
theorem Qf.hashes (Q:Qf σ V H S) (hl:S.length<V.m):∃ τ ys,Ext σ τ/\σ.n<τ.n/\τ.get σ.n=.list (ys.map .int)/\Alike ys S/\aV [.ref V.i] σ=some (.ref σ.n,τ):=by
 obtain ⟨σ',ys,a1,a2,a3,a4,a5⟩:=gX (σ:=σ) Q.good (Q.lo hl) Q.rep Q.hi Q.hb
 rw [Q.isq] at a5
 refine ⟨qf σ' V,ys,⟨a1.n,fun k hk=>?_⟩,a2,?_,a4,a5⟩
 ·by_cases ho:own V k
  ·have e:(qf σ V).get k=σ.get k:=by rw [Q.isq]
   unfold qf at e |-
   dsimp only at e |-
   rw [a1.same k hk]
   exact e
  ·rw [cY ho];exact a1.same k hk
 ·rw [cY (by have:=Q.hi;have:=Q.hb;unfold own;lia)];exact a3
end
structure Gro (V V':View) (S S':List Int):Prop where
 len:S.length<=S'.length
 le:V'.n - S'.length<=V.n - S.length
 f:V.auto=false->V'.n - S'.length=V.n - S.length/\V'.q=V.q
 t:V.auto=true->(V'.q=3->V.q=3/\V'.n<=7/\V'.n - S'.length=V.n - S.length)/\(V.q=3->V'.q=4->7<=V.n+S'.length - S.length)
theorem Gro.trans {V V' V'':View} {S S' S'':List Int} (a:Gro V V' S S') (b:Gro V' V'' S' S'') (ha:V'.auto=V.auto) (hq:V'.q=3\/V'.q=4):Gro V V'' S S'':=by
 have l1:=a.len
 have l2:=b.len
 have e1:=a.le
 have e2:=b.le
 refine ⟨by lia,by lia,fun z=>?_,fun z=>⟨fun w=>?_,fun w1 w2=>?_⟩⟩
 ·have:=a.f z
  have:=b.f (ha.trans z)
  exact ⟨by lia,this.2.trans (a.f z).2⟩
 ·have h2:=(b.t (ha.trans z)).1 w
  have h1:=(a.t z).1 h2.1
  exact ⟨h1.1,h2.2.1,by lia⟩
 ·rcases hq with q | q
  ·have:=(b.t (ha.trans z)).2 q w2;lia
  ·have:=(a.t z).2 w1 q;lia
theorem Gro.refl {V:View} {S:List Int} (h:V.auto=true->V.q=3->V.n<=7):Gro V V S S:=
 ⟨Nat.le_refl _,Int.le_refl _,fun _=>⟨rfl,rfl⟩,fun z=>⟨fun w=>⟨w,h z w,rfl⟩,fun w1 w2=>by rw [w1] at w2;cases w2⟩⟩
noncomputable def cI (S cs:List Int):List Int:=cs.foldl adds S
theorem nA {S:List Int} {c d:Int}:d∈adds S c ↔ d∈S\/d=c:=by
 unfold adds
 by_cases h:c∈S
 ·rw [if_pos h]
  constructor
  ·exact .inl
  ·rintro (z | z)
   ·exact z
   ·rw [z];exact h
 ·rw [if_neg h];simp
theorem fF {cs:List Int}:∀ {S:List Int} {d:Int},d∈cI S cs ↔ d∈S\/d∈cs:=by
 induction cs with
 | nil=>intro S d;simp [cI]
 | cons c cs ih=>
  intro S d
  show d∈cI (adds S c) cs ↔ _
  rw [ih,nA,List.mem_cons]
  constructor
  ·rintro ((z | z) | z)
   ·exact .inl z
   ·exact .inr (.inl z)
   ·exact .inr (.inr z)
  ·rintro (z | z | z)
   ·exact .inl (.inl z)
   ·exact .inl (.inr z)
   ·exact .inr z
theorem jO {S:List Int} {c:Int} (h:S.Pairwise (·≠·)):(adds S c).Pairwise (·≠·):=by
 unfold adds
 by_cases q:c∈S
 ·rw [if_pos q];exact h
 ·rw [if_neg q,List.pairwise_append]
  refine ⟨h,List.pairwise_singleton _ _,fun a ha b hb=>?_⟩
  rw [List.mem_singleton] at hb
  subst hb
  exact fun z=>q (z▸ha)
theorem dA {cs:List Int}:∀ {S:List Int},S.Pairwise (·≠·)->(cI S cs).Pairwise (·≠·):=by
 induction cs with
 | nil=>intro S h;exact h
 | cons c cs ih=>intro S h;exact ih (jO h)
theorem jC {cs:List Int}:∀ {S:List Int},S.length<=(cI S cs).length:=by
 induction cs with
 | nil=>intro S;exact Nat.le_refl _
 | cons c cs ih=>intro S;exact Nat.le_trans (by rw [eT];split<;>lia) (ih (S:=adds S c))
section
variable {σ τ:Sto} {V V' W:View} {H K:Int->Int} {l:Loc} {S T:List Int}
theorem Qf.q34 (Q:Qf σ V H S):(V.q=3/\V.m=8)\/(V.q=4/\V.m=16):=by
 rcases Q.good.q with e | e
 ·exact .inl ⟨e,by unfold View.m;rw [e]⟩
 ·exact .inr ⟨e,by unfold View.m;rw [e]⟩
theorem Qf.put (Q:Qf σ V H S) {c:Int} (hc:bW c) (hA:V.auto=false->c∈S\/V.n+1<V.m) (hn:V.n<=16) (hB:V.auto=true->V.n<=13/\(V.q=3->V.n<=7)) :
  ∃ τ V' H',Stp V V' σ τ/\Qf τ V' H' (adds S c)/\Gro V V' S (adds S c)/\aS [.ref V.i,.int c] σ=some (.none,τ):=by
 have h0:=Q.n0
 have hq:=Q.q34
 have hal:=eT S c
 by_cases hg:V.auto=true/\V.q=3/\V.n=7
 ·obtain ⟨ga,g3,g7⟩:=hg
  obtain ⟨τ,V',H',s,Q',e4,en,e⟩:=Q.grow hc g3 (by lia) (by lia) ga
  refine ⟨τ,V',H',s,Q',⟨by rw [hal];split<;>lia,by lia,(fun z=>by rw [ga] at z;cases z),fun _=>⟨fun z=>(by rw [e4] at z;cases z),fun _ _=>by rw [hal];split<;>lia⟩⟩,e⟩
 ·have hgrow:(V.auto && decide (85*(V.m:Int)<=100*V.n))=false:=by
   cases q:V.auto with
   | false=>rfl
   | true=>
    obtain ⟨b1,b2⟩:=hB q
    have:¬ (85*(V.m:Int)<=100*V.n):=by
     rcases hq with ⟨q3,qm⟩ | ⟨q4,qm⟩
     ·have h7:V.n≠7:=fun z=>hg ⟨q,q3,z⟩
      have:=b2 q3
      rw [qm];lia
     ·rw [qm];lia
    simp only [Bool.true_and]
    exact decide_eq_false this
  have hroom:c∈S\/(S.length<V.m/\V.n≠V.m):=by
   cases q:V.auto with
   | false=>
    rcases hA q with z | z
    ·exact .inl z
    ·exact .inr ⟨by lia,by lia⟩
   | true=>
    obtain ⟨b1,b2⟩:=hB q
    right
    rcases hq with ⟨q3,qm⟩ | ⟨q4,qm⟩
    ·have:=b2 q3;lia
    ·lia
  obtain ⟨τ,V',H',s,Q',e3,en,e⟩:=Q.add hc (by lia) hgrow hroom
  have hlen:V'.n - (adds S c).length=V.n - S.length:=by
   rw [en,hal];split<;>lia
  refine ⟨τ,V',H',s,Q',⟨by rw [hal];split<;>lia,by lia,fun _=>⟨hlen,e3⟩,fun z=>⟨fun w=>⟨e3▸w,?_,hlen⟩,fun w1 w2=>by rw [e3,w1] at w2;cases w2⟩⟩,e⟩
  have h7:=(hB z).2 (e3▸w)
  have h8:V.n≠7:=fun y=>hg ⟨z,e3▸w,y⟩
  rw [en];split<;>lia
theorem Qf.inst (Q:Qf σ V H S):σ.get V.i=.inst 467 V.fs:=by
 have:=qf_i (σ:=σ) (V:=V)
 rwa [Q.isq] at this
theorem evMethQ {x r:String} {i:Nat} {fs:List (String×Val)} {g:FF} {fa:LF} (hs:l r=some (.ref i)) (hi:σ.get i=.inst 467 fs) (hx:getF fs x=none):aF 467 x g (varF r) fa l σ=(fa l σ).bind fun a=>g (.ref i :: a.1) a.2:=by
 exact bnd (aB hs) (bnd rfl (bnd (eR hi) (bnd (lG hx) rfl)))
theorem Qf.sg {g:Nat} (Q:Qf σ V H S) (s:SG g σ τ) (ho:¬ own V g):Qf τ V H S:=Q.keep (by rw [s.n];exact Nat.le_refl _) fun k hk hk2=>s.same k fun z=>ho (z▸hk2)
noncomputable def mBody:SF:=aU (aF 467 "add_alt" aS (varF "self") (aA (varF "_h") nilL))
theorem tJ {g:Nat} {σ0:Sto} {V0:View} (h:Good W) (L:Lay W K) (hgo:σ0.n<=g) (hgw:¬ own W g) (hwi:W.i<σ0.n) (hwb:W.b+10<σ0.n):∀ (k:Nat) (i:Int) (lg:Loc) (τ:Sto) (n:Nat) (V:View) (H:Int->Int) (S:List Int) (l:Loc),
  HI W K g i lg τ->k<n->g<τ.n->Stp V0 V σ0 τ->Qf τ V H S->Qf τ W K T->Sep V W->¬ own V g->l "self"=some (.ref V.i)->(∀ c∈hl W K k i,bW c)->
  (V.auto=false->V.n+(cI S (hl W K k i)).length - S.length<V.m)->V.n+(cI S (hl W K k i)).length - S.length<=16->(V.auto=true->V.n+(cI S (hl W K k i)).length - S.length<=13/\(V.q=3->V.n<=7))->
  ∃ τ' V' H' l',Stp V0 V' σ0 τ'/\τ.n<=τ'.n/\Qf τ' V' H' (cI S (hl W K k i))/\Qf τ' W K T/\Sep V' W/\V'.i=V.i/\V'.auto=V.auto/\Gro V V' S (cI S (hl W K k i))/\
   forG "_h" mBody "i" aM aP n (k,i,lg) l τ=some (.next,l',τ'):=by
 intro k
 induction k using Nat.strongRecOn with
 | ind k ih=>
  intro i lg τ n V H S l I hn hgt s Q QW sep hgv hself hcs c1 c2 c3
  obtain ⟨n,rfl⟩:∃ m,n=m+1:=⟨n - 1,by lia⟩
  have hq0:=Q.n0
  rcases gstep h L hgw k i lg τ I with ⟨a1,τ',sg,a2⟩ | ⟨k',i',lg',τ',c,a1,a2,a3,sg,a4⟩
  ·rw [QW.isq,(QW.sg sg hgw).isq] at a2
   rw [a1]
   refine ⟨τ',V,H,l,⟨by rw [sg.n];exact s.n,fun q hq ho=>(sg.same q (by lia)).trans (s.same q hq ho),s.i,s.b,s.auto⟩,by rw [sg.n];exact Nat.le_refl _,Q.sg sg hgv,QW.sg sg hgw,sep,rfl,rfl,.refl fun z w=>(c3 z).2 w,?_⟩
   show (dN "i" aM aP k i lg τ).bind _=_
   rw [a2];rfl
  ·have QW1:=QW.sg sg hgw
   rw [QW.isq,QW1.isq] at a4
   have Q1:=Q.sg sg hgv
   rw [a1] at hcs c1 c2 c3 |-
   have hl1:cI S (c :: hl W K k' i')=cI (adds S c) (hl W K k' i'):=rfl
   have hlen:=jC (cs:=hl W K k' i') (S:=adds S c)
   have hal:=eT S c
   have hge:S.length<=(adds S c).length:=by rw [hal];split<;>lia
   rw [hl1] at c1 c2 c3 |-
   obtain ⟨τ2,V2,H2,s2,Q2,gr,e⟩:=Q1.put (hcs c (.head _)) (fun z=>by
    have:=c1 z
    by_cases q:c∈S
    ·exact .inl q
    ·rw [if_neg q] at hal;right;lia) (by lia) (fun z=>⟨by have:=(c3 z).1;split at hal<;>lia,(c3 z).2⟩)
   have hn1:τ'.n=τ.n:=sg.n
   have hn2:=s2.n
   have hW1:=QW1.other s2 sep
   have s1:Stp V0 V σ0 τ':=⟨by rw [sg.n];exact s.n,fun q hq ho=>(sg.same q (by lia)).trans (s.same q hq ho),s.i,s.b,s.auto⟩
   have I2:HI W K g i' lg' τ2:=⟨a3.self,a3.queue,by rw [<- a3.q];exact s2.same g (by lia) hgv,a3.c⟩
   have gq:=gr.le
   have hm2:V2.auto=V.auto:=s2.auto
   have gf:V.auto=false->V2.m=V.m:=fun z=>by unfold View.m;rw [(gr.f z).2]
   obtain ⟨τ3,V3,H3,l3,b1,b2,b3,b4,b5,b6,b7,b8,b9⟩:=ih k' a2 i' lg' τ2 n V2 H2 (adds S c) (l.put "_h" (.int c)) I2 (by lia) (by lia) (s1.trans s2) Q2 hW1 (sep.step s2 QW1.hi QW1.hb) (s2.nown (by lia) hgv) (by
     rw [s2.i];simp [Loc.put,hself]) (fun d hd=>hcs d (.tail _ hd)) (fun z=>by
     have z':V.auto=false:=hm2▸z
     have:=c1 z';have:=(gr.f z').1;rw [gf z'];lia) (by lia) (fun z=>by
     have z':V.auto=true:=hm2▸z
     exact ⟨by have:=(c3 z').1;lia,fun w=>((gr.t z').1 w).2.1⟩)
   refine ⟨τ3,V3,H3,l3,b1,by lia,b3,b4,b5,b6.trans s2.i,b7.trans s2.auto,gr.trans b8 s2.auto Q2.good.q,?_⟩
   show (dN "i" aM aP k i lg τ).bind _=_
   rw [a4]
   show (mBody (l.put "_h" (.int c)) τ').bind _=_
   have hb:mBody (l.put "_h" (.int c)) τ'=some (.next,l.put "_h" (.int c),τ2):=by
    refine cM (v:=.none) ?_
    exact cE (aB hself) Q1.inst rfl (lst1 (aB rfl)) e
   rw [hb]
   exact b9
end
section
variable {σ τ:Sto} {V V' W:View} {H K:Int->Int} {l:Loc} {S T:List Int}
noncomputable def testS:Str:=Str.ofString "test"
theorem kT (v:Val):fJ [.str testS,v] σ=some (.int (code 19),σ):=fRet rfl (hsh (c:=116) (d:=97) rfl rfl rfl (by decide) (by decide))
theorem sW (v:Val):gS [.str testS,v] σ=some (.int (code 20),σ):=fRet rfl (hsh (c:=116) (d:=96) rfl rfl rfl (by decide) (by decide))
theorem sG {x:String} {i:Nat} {hf:Addr} {fs:List (String×Val)} {m:FF} {c:Int} (hs:l x=some (.ref i)) (hi:σ.get i=.inst 467 fs) (hg:getF fs "_hash_func"=some (.fn hf)) (ht:hashTab.find? (fun t=>t.1 == hf)=some (hf,m)) (hm:m [.str testS,.int 0] σ=some (.int c,σ)) :
  fldF 467 "_hash_func" hashTab (varF x) (aA (kF (.str (Str.ofString "test"))) (aA (kF (.int 0)) nilL)) l σ=some (.int c,σ):=by
 have hx:aA (kF (.str (Str.ofString "test"))) (aA (kF (.int 0)) nilL) l σ=some ([.str testS,.int 0],σ):=rfl
 exact evFld (aB hs) hi hg ht hx hm
theorem nH:getF V.fs "_hash_func"=some (.fn V.hf):=rfl
theorem tI (Q:Qf σ V H S) (QW:Qf σ W K T) (sep:Sep V W) (hT:T.length<W.m) (c1:V.auto=false->V.n+(cI S T).length - S.length<V.m) (c2:V.n+(cI S T).length - S.length<=16) (c3:V.auto=true->V.n+(cI S T).length - S.length<=13/\(V.q=3->V.n<=7)) :
  ∃ τ V' H',Stp V V' σ τ/\Qf τ V' H' (cI S T)/\Qf τ W K T/\Sep V' W/\Gro V V' S (cI S T)/\kQ [.ref V.i,.ref W.i] σ=some (.none,τ):=by
 obtain ⟨s,lg,τ1,I,sg,how,hg⟩:=gfirst (σ:=σ) QW.good (QW.lo hT) QW.hi QW.hb
 have E1:Ext σ τ1:=Ext.sg sg Ext.push (Nat.le_refl _)
 have Q1:=Q.ext E1
 have QW1:=QW.ext E1
 rw [QW.isq,QW1.isq] at hg
 have hal:=sB QW.good (QW.lo hT) QW.rep s
 have hlen:Alike (cI S (hl W K W.m s)) (cI S T):=⟨dA Q.rep.nodup,dA Q.rep.nodup,fun c=>by rw [fF,fF,hal.mem]⟩
 have el:=hlen.len
 have hov:¬ own V σ.n:=by have:=Q.hi;have:=Q.hb;unfold own;lia
 let l:=aJ ["self","second"] [.ref V.i,.ref W.i]
 have l1:l "self"=some (.ref V.i):=rfl
 have l2:l "second"=some (.ref W.i):=rfl
 have hn1:τ1.n=σ.n+1:=sg.n
 have hm:=QW.good.mc
 obtain ⟨τ2,V2,H2,l',b1,b2,b3,b4,b5,b6,b7,b8,b9⟩:=tJ (σ0:=σ) (V0:=V) (T:=T) QW.good (QW.lo hT) (Nat.le_refl _) how QW.hi QW.hb W.m s lg τ1 101 V H S l I (by lia) (by lia)
  ⟨E1.n,fun k hk _=>E1.same k hk,rfl,.inl rfl,rfl⟩ Q1 QW1 sep hov l1 (fun c hc=>QW.codes c ((hal.mem c).mp hc)) (by rw [el];exact c1) (by rw [el];exact c2) (by rw [el];exact c3)
 have h3:Qf τ2 V2 H2 (cI S T):=⟨b3.isq,b3.good,b3.lay,by rw [<- el];exact b3.ex,b3.rep.alike hlen,fun c hc=>b3.codes c ((hlen.mem c).mpr hc),b3.hi,b3.hb,b3.hf,by rw [<- el];exact b3.n0⟩
 refine ⟨τ2,V2,H2,b1,h3,b4,b5,⟨by rw [<- el];exact b8.len,by rw [<- el];exact b8.le,by rw [<- el];exact b8.f,by rw [<- el];exact b8.t⟩,?_⟩
 refine bC (l':=l') rfl ?_
 show nO l σ=_
 have ht:cmpT .NotEq (fldF 467 "_hash_func" hashTab (varF "self") (aA (kF (.str (Str.ofString "test"))) (aA (kF (.int 0)) nilL))) (fldF 467 "_hash_func" hashTab (varF "second") (aA (kF (.str (Str.ofString "test"))) (aA (kF (.int 0)) nilL))) l σ=some (false,σ):=by
  exact bD (sG l1 Q.inst (hf:=485) (by rw [nH,Q.hf]) rfl (kT _)) (sG l2 QW.inst (hf:=485) (by rw [nH,QW.hf]) rfl (kT _)) rfl
 unfold nO
 refine seqN (l':=l) (σ₁:=σ) ((cC ht).trans rfl) ?_
 have hgf:getF W.fs "hashes"=none:=rfl
 refine bnd (aB l2) (bnd rfl (bnd (eR QW.inst) (bnd (lG hgf) ?_)))
 unfold forG0
 rw [hg]
 exact b9
theorem sM {ps:List String} {dv:List Val} {b:BX} {vs:List Val} {σ':Sto} (hl:(vs ++ dv).length=ps.length) (h:b (aJ ps (vs ++ dv)) σ=some σ'):kM ps dv b vs σ=some σ':=by
 unfold kM;rw [if_pos hl,h]
theorem body_x0 {ps:List String} {dv:List Val} {b:BX} {vs:List Val} (h:b (aJ ps (vs ++ dv)) σ=none):kM ps dv b vs σ=none:=by
 unfold kM;split
 ·exact h
 ·rfl
theorem oO {t:TF} {f g:BX} {σ':Sto} (h:t l σ=some (true,σ')):iteX t f g l σ=f l σ':=by unfold iteX;rw [h];rfl
theorem iteX_f {t:TF} {f g:BX} {σ':Sto} (h:t l σ=some (false,σ')):iteX t f g l σ=g l σ':=by unfold iteX;rw [h];rfl
theorem seqXN {f:SF} {g:BX} {l':Loc} {σ':Sto} {r:Option Sto} (h:f l σ=some (.next,l',σ')) (h2:g l' σ'=r):seqX f g l σ=r:=by unfold seqX;rw [h];exact h2
theorem merge_bad {i j:Nat} {fs gs:List (String×Val)} (h1:σ.get i=.inst 467 fs) (h2:σ.get j=.inst 467 gs) (g1:getF fs "_hash_func"=some (.fn 485)) (g2:getF gs "_hash_func"=some (.fn 492)):gR [.ref i,.ref j] σ=some σ:=by
 let l:=aJ ["self","second"] [.ref i,.ref j]
 have l1:l "self"=some (.ref i):=rfl
 have l2:l "second"=some (.ref j):=rfl
 refine sM rfl ?_
 show lU l σ=_
 unfold lU
 exact (oO (bD (sG l1 h1 g1 rfl (kT _)) (sG l2 h2 g2 rfl (sW _)) rfl)).trans rfl
theorem qB (Q:Qf σ V H S):eU [.ref V.i,.int 3] σ=if 8<=V.n then some σ else none:=by
 let l:=aJ ["self","quotient"] [.ref V.i,.int 3]
 have l1:l "self"=some (.ref V.i):=rfl
 have l2:l "quotient"=some (.int 3):=rfl
 have he:lZ 467 bB (varF "self") l σ=some (.int V.n,σ):=by
  exact evProp0 (aB l1) Q.inst (fRet (l':=aJ ["self"] [.ref V.i]) rfl (eX (evA (aB rfl) Q.inst rfl)))
 have hb:jX l σ=if 8<=V.n then some σ else none:=by
  unfold jX
  refine seqXN (l':=l) (σ':=σ) ?_ ?_
  ·exact ifF (bD (aB l2) rfl rfl) rfl
  ·have ht:cmpT .GtE (lZ 467 bB (varF "self")) (binF .LShift (kF (.int 1)) (varF "quotient")) l σ=some (decide (8<=V.n),σ):=by
    exact bD he (bU (f:=kF (.int 1)) rfl (aB l2) rfl) rfl
   by_cases q:8<=V.n
   ·rw [show decide (8<=V.n)=true from decide_eq_true q] at ht
    rw [if_pos q];exact (oO ht).trans rfl
   ·rw [show decide (8<=V.n)=false from decide_eq_false q] at ht
    rw [if_neg q];exact (iteX_f ht).trans rfl
 unfold eU kM
 exact hb
theorem init_bad {i:Nat} {k:Int} (hk:k=2\/k=32):iC [.ref i,.int k] σ=some σ:=by
 let l:=aJ ["self","quotient","auto_expand","hash_function"] [.ref i,.int k,.bool true,.none]
 have l2:l "quotient"=some (.int k):=rfl
 refine sM rfl ?_
 show nP l σ=_
 unfold nP
 refine (oO (σ':=σ) ?_).trans ?_
 ·rcases hk with rfl | rfl
  ·exact sI (bD (aB l2) rfl rfl)
  ·exact lO (bD (g:=kF (.int 3)) (aB l2) rfl rfl) (sI (bD (g:=kF (.int 31)) (aB l2) rfl rfl))
 ·have e1:("Invalid quotient setting; quotient must be between 3 and 31; ":Str).length<=1000:=by decide +kernel
  have e2:(" was provided":Str).length<=1000:=by decide +kernel
  exact bnd (aB l2) (bnd rfl (if_pos ⟨hk,e1,e2⟩))
theorem uF (h:Good V) (L:LayW V H) (R:Rep V H S) {c:Int} (hc:bW c) (hno:c ∉ S):aG [.ref V.i,.int (c / V.R),.int (c%V.R)] (qf σ V)=some (.int (-1),qf σ V):=by
 have hq:=hG h hc
 rcases dJ (σ:=σ) h L (r:=c%V.R) hq with ⟨x,hx,hHx,hFx,hv⟩ | ⟨_,hv⟩
 ·exact absurd ((R.at_code c).mp ((lK h L hq).mpr ⟨x,hx,hHx,hFx⟩)) hno
 ·exact hv
theorem add_bad (Q:Qf σ V H S) {c:Int} (hc:bW c) (hno:c ∉ S) (ha:V.auto=false) (hfull:V.n=V.m):fI [.ref V.i,.int c] σ=some σ:=by
 let l:=aJ ["self","_hash"] [.ref V.i,.int c]
 have l1:l "self"=some (.ref V.i):=rfl
 have l2:l "_hash"=some (.int c):=rfl
 let m:=(l.put "key_quotient" (.int (c / V.R))).put "key_remainder" (.int (c%V.R))
 have m1:m "self"=some (.ref V.i):=rfl
 have m2:m "key_quotient"=some (.int (c / V.R)):=rfl
 have m3:m "key_remainder"=some (.int (c%V.R)):=rfl
 have hmc:=Q.good.mc
 have g:=gV (σ:=σ) Q.good l1 (by lia)
 rw [ha] at g
 have hcon:=uF (σ:=σ) Q.good Q.lay Q.rep hc hno
 refine sM rfl ?_
 show iV l σ=_
 rw [<- Q.isq]
 unfold iV
 refine seqXN (l':=l) (σ':=qf σ V) ((cC g).trans rfl) (seqXN (aT (evKq Q.good l1 l2)) (seqXN (aT (evKr Q.good hc rfl rfl)) ?_))
 have ht:cmpT .Eq (aF 467 "_contained_at_loc" aG (varF "self") (aA (varF "key_quotient") (aA (varF "key_remainder") nilL))) (unF .USub (kF (.int 1))) m (qf σ V)=some (true,qf σ V):=by
  exact bD (eP (x:="_contained_at_loc") (l:=m) m1 m2 m3 rfl hcon) rfl rfl
 refine (oO ht).trans ?_
 have hi:jP [.ref V.i,.int (c / V.R),.int (c%V.R)] (qf σ V)=some (qf σ V):=by
  refine sM rfl ?_
  unfold mO
  refine (oO (σ':=qf σ V) ?_).trans rfl
  exact bD (evA (aB rfl) qf_i rfl) (evA (aB rfl) qf_i rfl) (congrArg some (decide_eq_true (by rw [hfull])))
 have hx:getF V.fs "_add"=none:=rfl
 exact bnd (aB m1) (bnd rfl (bnd (eR qf_i) (bnd (lG hx) (bnd (lst2 (aB m2) (aB m3)) hi))))
end
section
variable {σ τ:Sto} {V V' W:View} {H K:Int->Int} {l:Loc} {S T L:List Int}
theorem kS {ts:List TF} {bs:List Bool} (h:All2 (fun (t:TF) b=>t l σ=some (b,σ)) ts bs):andT ts l σ=some (bs.all id,σ):=by
 induction h with
 | nil=>rfl
 | @cons t b ts bs h1 _ ih=>
  cases b
  ·exact evAnd_f h1
  ·exact evAnd_t h1 ih
theorem jM {ts:List TF} {bs:List Bool} (h:All2 (fun (t:TF) b=>t l σ=some (b,σ)) ts bs):orT ts l σ=some (bs.any id,σ):=by
 induction h with
 | nil=>rfl
 | @cons t b ts bs h1 _ ih=>
  cases b
  ·exact lO h1 ih
  ·exact sI h1
theorem cmpE {op:CmpOp} {f g:EF} {a b:Val} {c:Bool} {σ1 σ2:Sto} (hf:f l σ=some (a,σ1)) (hg:g l σ1=some (b,σ2)) (hv:cmpV op a b=some c):cmpT op f g l σ=some (c,σ2):=by
 exact bD hf hg hv
theorem iF (xs:List Int):gU (xs.map .int)=some xs:=by
 induction xs with
 | nil=>rfl
 | cons x xs ih=>exact bnd rfl (mp_ ih rfl)
theorem any_mem (xs:List Int) (k:Int):xs.any (· == k)=decide (k∈xs):=by
 by_cases h:k∈xs
 ·rw [decide_eq_true h,List.any_eq_true];exact ⟨k,h,by simp⟩
 ·rw [decide_eq_false h,List.any_eq_false];intro x hx;simp;rintro rfl;exact h hx
theorem inVE {neg:Bool} {c:Int} {j:Nat} (hj:σ.get j=.list (S.map .int)):inV neg (.int c) (.ref j) σ=some (decide (c∈S) != neg):=
 bnd rfl (bnd rfl (bnd (dG hj) (mp_ (iF _) (by rw [any_mem]))))
theorem inE {neg:Bool} {f g:EF} {c:Int} {j:Nat} {σ1 σ2:Sto} (hf:f l σ=some (.int c,σ1)) (hg:g l σ1=some (.ref j,σ2)) (hj:σ2.get j=.list (S.map .int)):inT neg f g l σ=some (decide (c∈S) != neg,σ2):=by
 exact bnd hf (bnd hg (mp_ (inVE hj) rfl))
theorem inFE {neg:Bool} {f g:EF} {c:Int} {j:Nat} {σ1 σ2:Sto} (hf:f l σ=some (.int c,σ1)) (hg:g l σ1=some (.ref j,σ2)) (hj:σ2.get j=.list (S.map .int)):inF neg f g l σ=some (.bool (decide (c∈S) != neg),σ2):=by
 exact bnd hf (bnd hg (mp_ (inVE hj) rfl))
theorem lenE {f:EF} {j:Nat} {xs:List Val} {σ1:Sto} (hf:f l σ=some (.ref j,σ1)) (hj:σ1.get j=.list xs) (hl:xs.length<=1000):lenF f l σ=some (.int xs.length,σ1):=by
 exact evLen hf hj (by lia)
theorem appE {x y:String} {j:Nat} {c:Int} (hx:l x=some (.ref j)) (hy:l y=some (.int c)) (hj:σ.get j=.list (S.map .int)) (hl:S.length<=1000):aU (appF (varF x) (varF y)) l σ=some (.next,l,σ.put j (.list ((S ++ [c]).map .int))):=by
 refine cM (v:=.none) ?_
 rw [evApp (aB hx) (by rw [hj];rfl) (aB hy) hj (by rw [List.length_map];lia)]
 simp
noncomputable def lettersS:Str:=Str.ofString "abcdefghijklmnopqrstuvwx"
theorem tK:lettersS=⟨#[97,98,99,100,101,102,103,104,105,106,107,108,109,110,111,112,113,114,115,116,117,118,119,120]⟩:=by
 unfold lettersS
 rw [Str.ofString_eq_toList]
 have : "abcdefghijklmnopqrstuvwx".toList=['a','b','c','d','e','f','g','h','i','j','k','l','m','n','o','p','q','r','s','t','u','v','w','x']:=by simp
 rw [this]
 rfl
theorem tL:∀ a:Fin 24,lettersS.cps[a.val]?=some (97+a.val):=by
 rw [tK];decide
theorem lt62 {k:Int} (h:k<4611686018427387904):k<2 ^ 62:=by simpa using h
theorem chrV {f g:EF} {x:Str} {k:Int} {c:Nat} (hf:f l σ=some (.str x,σ)) (hg:g l σ=some (.int k,σ)) (h1:0<=k/\k<2 ^ 62) (hc:x.cps[k.toNat]?=some c):chrF f g l σ=some (.str ⟨#[c]⟩,σ):=by
 exact evChr hf hg h1 hc
theorem chrE {a:Nat} (ha:a<24) (hx:l "letters"=some (.str lettersS)) (hy:l "at"=some (.int (a:Int))):chrF (varF "letters") (varF "at") l σ=some (.str (letter a),σ):=by
 have h:lettersS.cps[a]?=some (97+a):=tL ⟨a,ha⟩
 exact chrV (aB hx) (aB hy) ⟨by lia,lt62 (by lia)⟩ (by rw [Int.toNat_natCast];exact h)
theorem sortE {f:EF} {j:Nat} {σ1:Sto} (hf:f l σ=some (.ref j,σ1)) (hj:σ1.get j=.list (S.map .int)) (hl:S.length<64):cX f l σ=some (.ref σ1.n,σ1.push (.list ((gN S).map .int))):=by
 exact bnd hf (bnd rfl (bnd (dG hj) ((if_pos (by rw [List.length_map];exact hl)).trans (mp_ (iF _) rfl))))
theorem iI {x r:String} {i:Nat} {fs:List (String×Val)} {g:FF} {fa:LF} {vs:List Val} {v:Val} {τ:Sto} (hs:l r=some (.ref i)) (hi:σ.get i=.inst 467 fs) (hx:getF fs x=none) (ha:fa l σ=some (vs,σ)) (hg:g (.ref i :: vs) σ=some (v,τ)):aF 467 x g (varF r) fa l σ=some (v,τ):=by
 rw [evMethQ hs hi hx,ha];exact hg
theorem iM {x y:String} {j:Nat} (Q:Qf σ V H S) (hl:S.length<V.m) (hx:l x=some (.ref V.i)) (hy:l y=some (.ref j)) (hj:σ.get j=.list (S.map .int)) (hjn:j<σ.n) :
  ∃ τ,Ext σ τ/\eqLT true (cX (aF 467 "get_hashes" aV (varF x) nilL)) (cX (varF y)) l σ=some (false,τ):=by
 obtain ⟨τ,ys,e1,e2,e3,e4,e5⟩:=Q.hashes hl
 have hm:=Q.good.mc
 have hyl:=e4.len
 have hm1:aF 467 "get_hashes" aV (varF x) nilL l σ=some (.ref σ.n,τ):=iI hx Q.inst rfl rfl e5
 let τ1:=τ.push (.list ((gN ys).map .int))
 have h1:cX (aF 467 "get_hashes" aV (varF x) nilL) l σ=some (.ref τ.n,τ1):=sortE hm1 e3 (by lia)
 have hn:=e1.n
 have hj1:τ1.get j=.list (S.map .int):=by rw [fC (by lia),e1.same j hjn];exact hj
 have h2:cX (varF y) l τ1=some (.ref τ1.n,τ1.push (.list ((gN S).map .int))):=sortE (aB hy) hj1 (by lia)
 refine ⟨τ1.push (.list ((gN S).map .int)),(e1.trans Ext.push).trans Ext.push,?_⟩
 have g1:(τ1.push (.list ((gN S).map .int))).get τ.n=.list ((gN ys).map .int):=by rw [fC (by show τ.n≠τ.n+1;lia)];exact bR _ _
 have g2:(τ1.push (.list ((gN S).map .int))).get τ1.n=.list ((gN S).map .int):=bR _ _
 have g3:eqLV true (.ref τ.n) (.ref τ1.n) (τ1.push (.list ((gN S).map .int)))=some false:=bnd rfl (bnd rfl (bnd (dG g1) (bnd (dG g2) (bnd (iF _) (mp_ (iF _) (by rw [tB e4,decide_eq_true rfl];rfl))))))
 exact bnd h1 (bnd h2 (mp_ g3 rfl))
structure Sg (σ:Sto) (V W:View) (H K:Int->Int) (S T:List Int) (jh:Nat) (L:List Int) (P:List (Nat×List Int)):Prop where
 q1:Qf σ V H S
 q2:Qf σ W K T
 sep:Sep V W
 gh:σ.get jh=.list (L.map .int)
 lh:jh<σ.n
 ov:¬ own V jh
 ow:¬ own W jh
 gp:∀ p∈P,σ.get p.1=.list (p.2.map .int)/\p.1<σ.n/\¬ own V p.1/\¬ own W p.1/\p.1≠jh
variable {jh:Nat} {P:List (Nat×List Int)} {H':Int->Int} {S' L':List Int}
theorem Sg.step (G:Sg σ V W H K S T jh L P) (s:Stp V V' σ τ) (Q:Qf τ V' H' S'):Sg τ V' W H' K S' T jh L P:=by
 have hn:=s.n
 refine ⟨Q,G.q2.other s G.sep,G.sep.step s G.q2.hi G.q2.hb,(s.same jh G.lh G.ov).trans G.gh,Nat.lt_of_lt_of_le G.lh hn,s.nown G.lh G.ov,G.ow,fun p hp=>?_⟩
 obtain ⟨p1,p2,p3,p4,p5⟩:=G.gp p hp
 exact ⟨(s.same _ p2 p3).trans p1,Nat.lt_of_lt_of_le p2 hn,s.nown p2 p3,p4,p5⟩
theorem Sg.ext (G:Sg σ V W H K S T jh L P) (s:Ext σ τ):Sg τ V W H K S T jh L P:=by
 have hn:=s.n
 refine ⟨G.q1.ext s,G.q2.ext s,G.sep,(s.same jh G.lh).trans G.gh,Nat.lt_of_lt_of_le G.lh hn,G.ov,G.ow,fun p hp=>?_⟩
 obtain ⟨p1,p2,p3,p4,p5⟩:=G.gp p hp
 exact ⟨(s.same _ p2).trans p1,Nat.lt_of_lt_of_le p2 hn,p3,p4,p5⟩
theorem Sg.app (G:Sg σ V W H K S T jh L P) (L':List Int):Sg (σ.put jh (.list (L'.map .int))) V W H K S T jh L' P:=by
 have s:SG jh σ (σ.put jh (.list (L'.map .int))):=.put
 refine ⟨G.q1.sg s G.ov,G.q2.sg s G.ow,G.sep,iO,G.lh,G.ov,G.ow,fun p hp=>?_⟩
 obtain ⟨p1,p2,p3,p4,p5⟩:=G.gp p hp
 exact ⟨(s.same _ p5).trans p1,p2,p3,p4,p5⟩
theorem Sg.newl (G:Sg σ V W H K S T jh L P) (L':List Int):Sg (σ.push (.list (L'.map .int))) V W H K S T σ.n L' P:=by
 have G':=G.ext (τ:=σ.push (.list (L'.map .int))) Ext.push
 have h1:=G.q1.hi
 have h2:=G.q1.hb
 have h3:=G.q2.hi
 have h4:=G.q2.hb
 refine ⟨G'.q1,G'.q2,G.sep,bR _ _,Nat.lt_succ_self _,by unfold own;lia,by unfold own;lia,fun p hp=>?_⟩
 obtain ⟨p1,p2,p3,p4,p5⟩:=G'.gp p hp
 obtain ⟨_,o2,_⟩:=G.gp p hp
 exact ⟨p1,p2,p3,p4,by lia⟩
theorem put_push {o o':Ob}:(σ.push o).put σ.n o'=σ.push o':=by
 unfold Sto.push Sto.put
 congr 1
 funext k
 dsimp only
 by_cases h:k=σ.n
 ·rw [if_pos h,if_pos h]
 ·rw [if_neg h,if_neg h,if_neg h]
theorem tS {x:String} {t:TF} {e:EF} {j:Nat} {p:Int->Bool} {f:Int->Int} {xs:List Int} {l0:Loc} (hj:σ.get j=.list (xs.map .int)) (hjn:j<σ.n)
  (ht:∀ (m:Loc) (d:Int) (acc:List Val),(∀ y,y≠x->m y=l0 y)->d∈xs->m x=some (.int d)->t m (σ.push (.list acc))=some (p d,σ.push (.list acc)))
  (he:∀ (m:Loc) (d:Int) (acc:List Val),(∀ y,y≠x->m y=l0 y)->d∈xs->m x=some (.int d)->e m (σ.push (.list acc))=some (.int (f d),σ.push (.list acc))) (hl:xs.length<=1000) :
  ∀ (n i:Nat) (fuel:Nat) (m:Loc) (acc:List Val),i+n=xs.length->n<fuel->acc.length+n<=2000->(∀ y,y≠x->m y=l0 y)->
   oV x t e j σ.n fuel i m (σ.push (.list acc))=some (σ.push (.list (acc ++ (((xs.drop i).filter p).map f).map .int))):=by
 intro n
 induction n with
 | zero=>
  intro i fuel m acc hi hf ha hm
  obtain ⟨g,rfl⟩:∃ g,fuel=g+1:=⟨fuel - 1,by lia⟩
  have hn:(xs.map Val.int)[i]?=none:=by rw [List.getElem?_eq_none_iff];simp;lia
  refine bnd (dG ((fC (by lia)).trans hj)) ?_
  rw [hn,List.drop_of_length_le (by lia)]
  simp
 | succ n ih=>
  intro i fuel m acc hi hf ha hm
  obtain ⟨g,rfl⟩:∃ g,fuel=g+1:=⟨fuel - 1,by lia⟩
  have hlt:i<xs.length:=by lia
  have hx:(xs.map Val.int)[i]?=some (.int xs[i]):=by rw [List.getElem?_map,List.getElem?_eq_getElem hlt];rfl
  have hd:xs.drop i=xs[i] :: xs.drop (i+1):=List.drop_eq_getElem_cons hlt
  have hm':∀ y,y≠x->(m.put x (.int xs[i])) y=l0 y:=fun y hy=>by simp [Loc.put,hy,hm y hy]
  have hmem:xs[i]∈xs:=List.getElem_mem hlt
  have hxx:(m.put x (.int xs[i])) x=some (.int xs[i]):=by simp [Loc.put]
  refine bnd (dG ((fC (by lia)).trans hj)) ?_
  rw [hx]
  refine bnd (ht _ xs[i] acc hm' hmem hxx) ?_
  rw [hd,List.filter_cons]
  cases q:p xs[i] with
  | true=>
   rw [if_pos rfl,if_pos rfl]
   have hap:nU σ.n (.int (f xs[i])) (σ.push (.list acc))=some (σ.push (.list (acc ++ [.int (f xs[i])]))):=by
    exact bnd (dG (bR _ _)) ((if_pos (by lia)).trans (congrArg some put_push))
   refine bnd (he _ xs[i] acc hm' hmem hxx) (bnd hap ((ih (i+1) g _ _ (by lia) (by lia) (by simp;lia) hm').trans ?_))
   simp
  | false=>
   rw [if_neg Bool.false_ne_true,if_neg Bool.false_ne_true]
   exact ih (i+1) g _ acc (by lia) (by lia) (by lia) hm'
theorem compE {x:String} {fr:List String} {it:EF} {t:TF} {e:EF} {j:Nat} {p:Int->Bool} {f:Int->Int} {xs:List Int} {σ1:Sto} (hit:it l σ=some (.ref j,σ1)) (hj:σ1.get j=.list (xs.map .int)) (hjn:j<σ1.n)
  (ht:∀ (m:Loc) (d:Int) (acc:List Val),(∀ y,y≠x->m y=restr fr l y)->d∈xs->m x=some (.int d)->t m (σ1.push (.list acc))=some (p d,σ1.push (.list acc)))
  (he:∀ (m:Loc) (d:Int) (acc:List Val),(∀ y,y≠x->m y=restr fr l y)->d∈xs->m x=some (.int d)->e m (σ1.push (.list acc))=some (.int (f d),σ1.push (.list acc))) (hl:xs.length<100) :
  mB x fr it t e 100 l σ=some (.ref σ1.n,σ1.push (.list (((xs.filter p).map f).map .int))):=by
 refine (bnd hit (bnd rfl (mp_ (tS hj hjn ht he (by lia) xs.length 0 100 (restr fr l) [] (by lia) (by lia) (by simp;lia) (fun _ _=>rfl)) rfl))).trans ?_
 simp
end
theorem mM {S T:List Int} (h1:S.Pairwise (·≠·)) (h2:T.Pairwise (·≠·)) (h:∀ c,c∈S ↔ c∈T):S.length=T.length:=(⟨h1,h2,h⟩:Alike S T).len
theorem uE {S T:List Int} {c:Int} (h:S.Pairwise (·≠·)):(cI (adds S c) T).length<=(cI S T).length+1:=by
 have e:(cI (adds S c) T).length=(adds (cI S T) c).length:=mM (dA (jO h)) (jO (dA h)) fun d=>by
  rw [fF,nA,nA,fF]
  constructor
  ·rintro ((z | z) | z)
   ·exact .inl (.inl z)
   ·exact .inr z
   ·exact .inl (.inr z)
  ·rintro ((z | z) | z)
   ·exact .inl (.inl z)
   ·exact .inr z
   ·exact .inl (.inr z)
 rw [e,eT];split<;>lia
theorem pP {S T:List Int} {c:Int} (h:S.Pairwise (·≠·)):(cI (S.filter fun d=>decide (d≠c)) T).length+S.length<=(cI S T).length+(S.filter fun d=>decide (d≠c)).length+1:=by
 have hf:(S.filter fun d=>decide (d≠c)).Pairwise (·≠·):=h.filter _
 have h1:(cI (S.filter fun d=>decide (d≠c)) T).length<=(cI S T).length:=oN _ _ (dA hf) fun d hd=>by
  rw [fF] at hd |-
  exact hd.imp (fun z=>(List.mem_filter.mp z).1) id
 have h2:S.length<=(c :: S.filter fun d=>decide (d≠c)).length:=oN _ _ h fun d hd=>by
  by_cases q:d=c
  ·rw [q];exact .head _
  ·exact .tail _ (List.mem_filter.mpr ⟨hd,by simp [q]⟩)
 simp only [List.length_cons] at h2
 lia
theorem sT {T:List Int}:∀ {S:List Int},(cI S T).length<=S.length+T.length:=by
 induction T with
 | nil=>intro S;exact Nat.le_refl _
 | cons c T ih=>
  intro S
  have:=ih (S:=adds S c)
  have e:=eT S c
  show (cI (adds S c) T).length<=_
  simp only [List.length_cons]
  split at e<;>lia
theorem rA {S T:List Int} (h:S.Pairwise (·≠·)):(cI (cI S T) T).length=(cI S T).length:=mM (dA (dA h)) (dA h) fun c=>by
 rw [fF,fF]
 constructor
 ·rintro (z | z)
  ·exact z
  ·exact .inr z
 ·exact .inl
noncomputable def lsNames:List String:=["grows","one","second","others","held","letters","room","used","numbers"]
structure LS (g:Bool) (i1 i2 jo jh jn:Nat) (room used:Int) (l:Loc):Prop where
 grows:l "grows"=some (.bool g)
 one:l "one"=some (.ref i1)
 second:l "second"=some (.ref i2)
 others:l "others"=some (.ref jo)
 held:l "held"=some (.ref jh)
 letters:l "letters"=some (.str lettersS)
 room:l "room"=some (.int room)
 used:l "used"=some (.int used)
 numbers:l "numbers"=some (.ref jn)
section
variable {σ τ:Sto} {V V' W:View} {H K:Int->Int} {l:Loc} {S T L:List Int} {g:Bool} {i1 i2 jo jh jn jh':Nat} {room used r':Int} {P:List (Nat×List Int)} {t:Nat}
theorem LS.put (h:LS g i1 i2 jo jh jn room used l) {y:String} {v:Val} (hy:y ∉ lsNames):LS g i1 i2 jo jh jn room used (l.put y v):=by
 have ne:∀ z∈lsNames,(l.put y v) z=l z:=fun z hz=>by
  show (if z=y then _ else _)=_
  rw [if_neg fun q=>hy (by rw [<- q];exact hz)]
 refine ⟨(ne _ ?_).trans h.grows,(ne _ ?_).trans h.one,(ne _ ?_).trans h.second,(ne _ ?_).trans h.others,(ne _ ?_).trans h.held,(ne _ ?_).trans h.letters,(ne _ ?_).trans h.room,(ne _ ?_).trans h.used,(ne _ ?_).trans h.numbers⟩<;>decide
theorem LS.pHeld (h:LS g i1 i2 jo jh jn room used l):LS g i1 i2 jo jh' jn room used (l.put "held" (.ref jh')):=
 ⟨h.grows,h.one,h.second,h.others,rfl,h.letters,h.room,h.used,h.numbers⟩
theorem LS.pUsed (h:LS g i1 i2 jo jh jn room used l):LS g i1 i2 jo jh jn room r' (l.put "used" (.int r')):=
 ⟨h.grows,h.one,h.second,h.others,h.held,h.letters,h.room,rfl,h.numbers⟩
theorem LS.pRoom (h:LS g i1 i2 jo jh jn room used l):LS g i1 i2 jo jh jn r' used (l.put "room" (.int r')):=
 ⟨h.grows,h.one,h.second,h.others,h.held,h.letters,rfl,h.used,h.numbers⟩
structure LC (d k:Int) (a:Nat) (l:Loc):Prop where
 deed:l "deed"=some (.int d)
 more:l "more"=some (.int k)
 at_:l "at"=some (.int (a:Int))
 code:l "code"=some (.int (code a))
structure SSt (g:Bool) (t:Nat) (σ:Sto) (V W:View) (H K:Int->Int) (S T:List Int) (jh:Nat) (P:List (Nat×List Int)) (room used:Int):Prop where
 sg:Sg σ V W H K S T jh S P
 ag:V.auto=g
 tl:T.length<=5
 phi:V.n+(cI S T).length - S.length<=5+t
 f:g=false->room=V.m/\used=V.n/\V.n<V.m
 t:g=true->V.n<=used/\(V.q=3->room=8/\V.n<=7)/\(V.q=4->room=16\/4<=used)
theorem SSt.n16 (s:SSt g t σ V W H K S T jh P room used) (ht:t<=9):V.n<=14:=by
 have:=s.phi
 have:=jC (S:=S) (cs:=T)
 lia
theorem SSt.lt (s:SSt g t σ V W H K S T jh P room used) (ht:t<=9):S.length<V.m:=by
 have h0:=s.sg.q1.n0
 have hn:=s.n16 ht
 cases g with
 | false=>have:=s.f rfl;lia
 | true=>
  rcases s.sg.q1.q34 with ⟨q,m⟩ | ⟨q,m⟩
  ·have:=((s.t rfl).2.1 q).2;lia
  ·lia
theorem SSt.ext (s:SSt g t σ V W H K S T jh P room used) (e:Ext σ τ):SSt g t τ V W H K S T jh P room used:=⟨s.sg.ext e,s.ag,s.tl,s.phi,s.f,s.t⟩
theorem SSt.later (s:SSt g t σ V W H K S T jh P room used):SSt g (t+1) σ V W H K S T jh P room used:=⟨s.sg,s.ag,s.tl,by have:=s.phi;lia,s.f,s.t⟩
noncomputable def Out (b:SF) (g:Bool) (i2 jo jn t:Nat) (W:View) (K:Int->Int) (T:List Int) (P:List (Nat×List Int)) (d:Int) (l:Loc) (σ:Sto):Prop:=
 ∃ l' σ' V' H' S' jh' room' used',b l σ=some (.next,l',σ')/\LS g V'.i i2 jo jh' jn room' used' l'/\l' "deed"=some (.int d)/\SSt g (t+1) σ' V' W H' K S' T jh' P room' used'
theorem Qf.add_key (Q:Qf σ V H S) {a:Nat} (ha:a<24) (hm:aS [.ref V.i,.int (code a)] σ=some (.none,τ)):mL [.ref V.i,.str (letter a)] σ=some (.none,τ):=by
 have:=Mine.add_key (σ:=σ) (V:=V) (τ:=τ) ha Q.hf (by rw [Q.isq];exact hm)
 rwa [Q.isq] at this
theorem Qf.remove_key (Q:Qf σ V H S) {a:Nat} (ha:a<24) (hm:bS [.ref V.i,.int (code a)] σ=some (.none,τ)):fY [.ref V.i,.str (letter a)] σ=some (.none,τ):=by
 have:=Mine.remove_key (σ:=σ) (V:=V) (τ:=τ) ha Q.hf (by rw [Q.isq];exact hm)
 rwa [Q.isq] at this
theorem Qf.check_key (Q:Qf σ V H S) {a:Nat} (ha:a<24):iD [.ref V.i,.str (letter a)] σ=some (.bool (decide (code a∈S)),σ):=by
 have:=Mine.check_key (σ:=σ) (V:=V) (τ:=σ) ha Q.hf (by rw [Q.isq];exact Q.check ⟨⟨a,ha⟩,rfl⟩)
 rwa [Q.isq] at this
theorem Qf.contains_key (Q:Qf σ V H S) {a:Nat} (ha:a<24):fH [.ref V.i,.str (letter a)] σ=some (.bool (decide (code a∈S)),σ):=by
 have:=Mine.contains_key (σ:=σ) (V:=V) (τ:=σ) ha Q.hf (by rw [Q.isq];exact Q.check ⟨⟨a,ha⟩,rfl⟩)
 rwa [Q.isq] at this
theorem gJ {f:EF} {v:Val} (h:f l σ=some (v,σ)):aA f nilL l σ=some ([v],σ):=by
 unfold aA nilL;rw [h];rfl
theorem iP {f:EF} {a b:Int} (h:f l σ=some (.int a,σ)) (hb:0<b):binF .Mod f (kF (.int b)) l σ=some (.int (a%b),σ):=by
 exact bU (g:=kF (.int b)) h rfl (bMod hb)
theorem evDiv {f:EF} {a b:Int} (h:f l σ=some (.int a,σ)) (hb:0<b/\b<1000):binF .FloorDiv f (kF (.int b)) l σ=some (.int (a / b),σ):=by
 have h2:b<2 ^ 30:=by lia
 exact bU (g:=kF (.int b)) h rfl (bDiv ⟨hb.1,h2⟩)
theorem evAdd {f:EF} {a b:Int} (h:f l σ=some (.int a,σ)):binF .Add f (kF (.int b)) l σ=some (.int (a+b),σ):=by
 unfold binF kF;rw [h];rfl
theorem tEq {f:EF} {a b:Int} (h:f l σ=some (.int a,σ)):cmpT .Eq f (kF (.int b)) l σ=some (a == b,σ):=cmpE h rfl rfl
theorem tLt {f g:EF} {a b:Int} (h:f l σ=some (.int a,σ)) (h2:g l σ=some (.int b,σ)):cmpT .Lt f g l σ=some (decide (a<b),σ):=cmpE h h2 rfl
noncomputable def tAdd:SF:=(seqB (ifS (cmpT .Eq (binF .Mod (varF "more") (kF (.int 2))) (kF (.int 0))) (aU (aF 467 "add" mL (varF "one") (aA (chrF (varF "letters") (varF "at")) nilL))) (aU (aF 467 "add_alt" aS (varF "one") (aA (varF "code") nilL))))
 (ifS (inT true (varF "code") (varF "held")) (seqB (aU (appF (varF "held") (varF "code")))
 (setF "used" (binF .Add (varF "used") (kF (.int 1))))) nilB))
noncomputable def tRem:SF:=(seqB (ifS (cmpT .Eq (varF "deed") (kF (.int 4))) (aU (aF 467 "remove" fY (varF "one") (aA (chrF (varF "letters") (varF "at")) nilL))) (aU (aF 467 "remove_alt" bS (varF "one") (aA (varF "code") nilL))))
 (setF "held" (mB "other" ["code"] (varF "held") (cmpT .NotEq (varF "other") (varF "code")) (varF "other") 100)))
noncomputable def tRes:SF:=(seqB (aU (aF 467 "resize" fG (varF "one") nilL))
 (seqB (setF "room" (binF .Mult (varF "room") (kF (.int 2))))
 (setF "used" (lenF (varF "held")))))
theorem tAdd_ok {d k:Int} {a:Nat} (ha:a<24) (ht:t<=8) (ls:LS g V.i i2 jo jh jn room used l) (lc:LC d k a l) (s:SSt g t σ V W H K S T jh P room used) (cond:g=true\/used+1<room\/code a∈S) :
  Out tAdd g i2 jo jn t W K T P d l σ:=by
 have hc:bW (code a):=⟨⟨a,ha⟩,rfl⟩
 have hn:=s.n16 (by lia)
 have hphi:=s.phi
 have hge:=jC (S:=S) (cs:=T)
 have hq:=s.sg.q1.q34
 have h0:=s.sg.q1.n0
 obtain ⟨τ,V',H',st,Q',gr,e⟩:=s.sg.q1.put hc (fun z=>by
   have z':g=false:=s.ag▸z
   obtain ⟨f1,f2,f3⟩:=s.f z'
   rcases cond with q | q | q
   ·rw [z'] at q;cases q
   ·right;lia
   ·exact .inl q) (by lia) (fun z=>by
   have z':g=true:=s.ag▸z
   exact ⟨by lia,fun w=>((s.t z').2.1 w).2⟩)
 have sg':=s.sg.step st Q'
 have h1:ifS (cmpT .Eq (binF .Mod (varF "more") (kF (.int 2))) (kF (.int 0))) (aU (aF 467 "add" mL (varF "one") (aA (chrF (varF "letters") (varF "at")) nilL))) (aU (aF 467 "add_alt" aS (varF "one") (aA (varF "code") nilL))) l σ=some (.next,l,τ):=by
  have tt:=tEq (b:=0) (iP (l:=l) (σ:=σ) (b:=2) (aB lc.more) (by lia))
  cases q:(k%2 == 0) with
  | true=>
   rw [q] at tt
   rw [fK tt]
   exact cM (iI ls.one s.sg.q1.inst rfl (gJ (chrE ha ls.letters lc.at_)) (s.sg.q1.add_key ha e))
  | false=>
   rw [q] at tt
   rw [cC tt]
   exact cM (iI ls.one s.sg.q1.inst rfl (gJ (aB lc.code)) e)
 have tin:=inE (neg:=true) (aB (σ:=τ) lc.code) (aB ls.held) sg'.gh
 have hal:=eT S (code a)
 have hph:=uE (T:=T) (c:=code a) s.sg.q1.rep.nodup
 have gle:=gr.le
 have fin:∀ (used':Int),used'=used+(adds S (code a)).length - S.length->(g=false->room=V'.m/\used'=V'.n/\V'.n<V'.m)/\(g=true->V'.n<=used'/\(V'.q=3->room=8/\V'.n<=7)/\(V'.q=4->room=16\/4<=used')):=by
  intro used' hu
  refine ⟨fun z=>?_,fun z=>?_⟩
  ·have ⟨g1,g2⟩:=gr.f (s.ag.trans z)
   obtain ⟨f1,f2,f3⟩:=s.f z
   have em:V'.m=V.m:=by unfold View.m;rw [g2]
   rw [em]
   refine ⟨f1,by lia,?_⟩
   by_cases q:code a∈S
   ·rw [if_pos q] at hal;lia
   ·rw [if_neg q] at hal
    rcases cond with w | w | w
    ·rw [z] at w;cases w
    ·lia
    ·exact absurd w q
  ·have ⟨g1,g2⟩:=gr.t (s.ag.trans z)
   obtain ⟨t1,t2,t3⟩:=s.t z
   refine ⟨by lia,fun w=>⟨(t2 (g1 w).1).1,(g1 w).2.1⟩,fun w=>?_⟩
   rcases hq with ⟨q,_⟩ | ⟨q,_⟩
   ·have:=g2 q w;right;lia
   ·rcases t3 q with y | y
    ·exact .inl y
    ·right;have:=gr.len;lia
 by_cases q:code a∈S
 ·have ea:adds S (code a)=S:=by unfold adds;rw [if_pos q]
  obtain ⟨f1,f2⟩:=fin used (by rw [ea];lia)
  rw [show (decide (code a∈S) != true)=false by simp [q]] at tin
  refine ⟨l,τ,V',H',S,jh,room,used,?_,by rw [st.i];exact ls,lc.deed,⟨by rw [ea] at sg';exact sg',st.auto.trans s.ag,s.tl,?_,f1,f2⟩⟩
  ·unfold tAdd
   exact seqN h1 ((cC tin).trans rfl)
  ·rw [ea] at gle;lia
 ·have ea:adds S (code a)=S ++ [code a]:=by unfold adds;rw [if_neg q]
  rw [if_neg q] at hal
  obtain ⟨f1,f2⟩:=fin (used+1) (by rw [hal];lia)
  rw [show (decide (code a∈S) != true)=true by simp [q]] at tin
  have sg2:=sg'.app (adds S (code a))
  refine ⟨l.put "used" (.int (used+1)),τ.put jh (.list ((adds S (code a)).map .int)),V',H',adds S (code a),jh,room,used+1,?_,by rw [st.i];exact ls.pUsed,?_,⟨sg2,st.auto.trans s.ag,s.tl,by lia,f1,f2⟩⟩
  ·unfold tAdd
   refine seqN h1 ((fK tin).trans (seqN (l':=l) (σ₁:=τ.put jh (.list ((adds S (code a)).map .int))) ?_ (aT (evAdd (aB ls.used)))))
   rw [ea]
   exact appE ls.held lc.code sg'.gh (by lia)
  ·simp [Loc.put,lc.deed]
theorem tRem_ok {d k:Int} {a:Nat} (ha:a<24) (ht:t<=8) (ls:LS g V.i i2 jo jh jn room used l) (lc:LC d k a l) (s:SSt g t σ V W H K S T jh P room used) :
  Out tRem g i2 jo jn t W K T P d l σ:=by
 have hc:bW (code a):=⟨⟨a,ha⟩,rfl⟩
 have hlt:=s.lt (by lia)
 have hm:=s.sg.q1.good.mc
 obtain ⟨τ,V',H',st,Q',eq,en,e⟩:=s.sg.q1.remove hc hlt
 have sg':=s.sg.step st Q'
 have h1:ifS (cmpT .Eq (varF "deed") (kF (.int 4))) (aU (aF 467 "remove" fY (varF "one") (aA (chrF (varF "letters") (varF "at")) nilL))) (aU (aF 467 "remove_alt" bS (varF "one") (aA (varF "code") nilL))) l σ=some (.next,l,τ):=by
  have tt:=tEq (b:=4) (aB (σ:=σ) lc.deed)
  cases q:(d == 4) with
  | true=>
   rw [q] at tt
   rw [fK tt]
   exact cM (iI ls.one s.sg.q1.inst rfl (gJ (chrE ha ls.letters lc.at_)) (s.sg.q1.remove_key ha e))
  | false=>
   rw [q] at tt
   rw [cC tt]
   exact cM (iI ls.one s.sg.q1.inst rfl (gJ (aB lc.code)) e)
 have hcomp:=compE (l:=l) (σ:=τ) (x:="other") (fr:=["code"]) (it:=varF "held") (t:=cmpT .NotEq (varF "other") (varF "code")) (e:=varF "other") (p:=fun d=>decide (d≠code a)) (f:=id) (aB ls.held) sg'.gh sg'.lh
  (fun m d acc h1 _ h2=>by
   have:m "code"=some (.int (code a)):=by rw [h1 "code" (by decide)];exact lc.code
   refine cmpE (aB h2) (aB this) ?_
   show some (d != code a)=_
   rw [show (d != code a)=decide (d≠code a) by by_cases q:d=code a<;>simp [q]])
  (fun m d acc h1 _ h2=>aB h2) (by lia)
 rw [List.map_id] at hcomp
 have sg2:=sg'.newl (S.filter fun d=>decide (d≠code a))
 have hph:=pP (T:=T) (c:=code a) s.sg.q1.rep.nodup
 have hphi:=s.phi
 have em:V'.m=V.m:=by unfold View.m;rw [eq]
 refine ⟨l.put "held" (.ref τ.n),_,V',H',S.filter fun d=>decide (d≠code a),τ.n,room,used,?_,by rw [st.i];exact ls.pHeld,?_,⟨sg2,st.auto.trans s.ag,s.tl,by rw [en];lia,by rw [en,em];exact s.f,by rw [en,eq];exact s.t⟩⟩
 ·unfold tRem
  exact seqN h1 (aT hcomp)
 ·simp [Loc.put,lc.deed]
theorem tRes_ok {d k:Int} {a:Nat} (ht:t<=8) (ls:LS g V.i i2 jo jh jn room used l) (lc:LC d k a l) (s:SSt g t σ V W H K S T jh P room used) (h16:room<16) (h4:used<4\/g=false) :
  Out tRes g i2 jo jn t W K T P d l σ:=by
 have h0:=s.sg.q1.n0
 have hq:=s.sg.q1.q34
 have hm:=s.sg.q1.good.mc
 have hlt:=s.lt (by lia)
 have key:V.q=3/\room=8/\V.n<8:=by
  cases hg:g with
  | false=>
   obtain ⟨f1,f2,f3⟩:=s.f hg
   rcases hq with ⟨q,m⟩ | ⟨q,m⟩
   ·exact ⟨q,by lia,by lia⟩
   ·lia
  | true=>
   obtain ⟨t1,t2,t3⟩:=s.t hg
   rcases hq with ⟨q,m⟩ | ⟨q,m⟩
   ·have:=t2 q;exact ⟨q,this.1,by lia⟩
   ·rcases h4 with w | w
    ·rcases t3 q with y | y<;>lia
    ·rw [hg] at w;cases w
 obtain ⟨h3,hr,hn8⟩:=key
 obtain ⟨τ,V',H',st,Q',e4,en,e⟩:=s.sg.q1.resize h3 hn8
 have sg':=s.sg.step st Q'
 have em:V'.m=16:=by unfold View.m;rw [e4]
 have hphi:=s.phi
 let l1:=l.put "room" (.int 16)
 have ls1:LS g V.i i2 jo jh jn 16 used l1:=ls.pRoom
 refine ⟨l1.put "used" (.int S.length),τ,V',H',S,jh,16,S.length,?_,by rw [st.i];exact ls1.pUsed,?_,⟨sg',st.auto.trans s.ag,s.tl,by lia,fun _=>⟨by lia,by lia,by lia⟩,fun _=>⟨by lia,fun q=>(by rw [e4] at q;cases q),fun _=>.inl rfl⟩⟩⟩
 ·unfold tRes
  refine seqN (cM (iI ls.one s.sg.q1.inst rfl rfl e)) (seqN (l':=l1) (σ₁:=τ) ?_ ?_)
  ·refine aT ?_
   exact bU (aB ls.room) rfl (by rw [hr];rfl)
  ·have hl:=lenE (f:=varF "held") (aB ls1.held) sg'.gh (by simp;lia)
   rw [List.length_map] at hl
   exact aT hl
 ·simp [l1,Loc.put,lc.deed]
end
section
variable {σ τ:Sto} {V V' W:View} {H K:Int->Int} {l:Loc} {S T L:List Int} {g:Bool} {i1 i2 jo jh jn jh':Nat} {room used r':Int} {P:List (Nat×List Int)} {t:Nat}
noncomputable def pU:SF:=(ifS (inT true (varF "other") (varF "held")) (seqB (aU (appF (varF "held") (varF "other")))
 (setF "used" (binF .Add (varF "used") (kF (.int 1))))) nilB)
noncomputable def tMer:SF:=(seqB (aU (aF 467 "merge" kQ (varF "one") (aA (varF "second") nilL)))
 (seqB (kK "other" (varF "others") pU 100)
 (ifS (eqLT true (cX (aF 467 "get_hashes" aV (varF "second") nilL)) (cX (varF "others"))) (retS (kF (.bool false))) nilB)))
noncomputable def tRef:SF:=(seqB (ifS (cmpT .NotEq (refF ["one"] (aF 467 "resize" dX (varF "one") (aA (kF (.int 3)) nilL)) (lH 467 "resize" eU (varF "one") (aA (kF (.int 3)) nilL))) (cmpF .GtE (lenF (varF "held")) (kF (.int 8)))) (retS (kF (.bool false))) nilB)
 (ifS (cmpT .Lt (lenF (varF "held")) (kF (.int 8))) (setF "room" (kF (.int 8))) nilB))
noncomputable def tSame (e:EF):SF:=(ifS (cmpT .NotEq e (inF false (varF "code") (varF "held"))) (retS (kF (.bool false))) nilB)
noncomputable def eIn:EF:=(fun l σ=>(inObT 467 fH (chrF (varF "letters") (varF "at")) (varF "one") l σ).map fun r=>(.bool r.1,r.2))
noncomputable def eChk:EF:=(aF 467 "check" iD (varF "one") (aA (chrF (varF "letters") (varF "at")) nilL))
noncomputable def eCha:EF:=(aF 467 "check_alt" aX (varF "one") (aA (varF "code") nilL))
noncomputable def tEnd:SF:=(ifS (andT [(cmpT .NotEq (varF "deed") (kF (.int 3))),(eqLT true (cX (aF 467 "get_hashes" aV (varF "one") nilL)) (cX (varF "held")))]) (retS (kF (.bool false))) nilB)
noncomputable def qAdd:TF:=(andT [(cmpT .Lt (varF "deed") (kF (.int 3))),(orT [(valT (varF "grows")),(cmpT .Lt (binF .Add (varF "used") (kF (.int 1))) (varF "room")),(inT false (varF "code") (varF "held"))])])
noncomputable def qRem:TF:=(orT [(cmpT .Eq (varF "deed") (kF (.int 4))),(cmpT .Eq (varF "deed") (kF (.int 5)))])
noncomputable def qRes:TF:=(andT [(cmpT .Eq (varF "deed") (kF (.int 6))),(cmpT .Eq (binF .Mod (varF "more") (kF (.int 3))) (kF (.int 0))),(cmpT .Lt (varF "room") (kF (.int 16))),(orT [(cmpT .Lt (varF "used") (kF (.int 4))),(notT (valT (varF "grows")))])])
noncomputable def qMer:TF:=(andT [(cmpT .Eq (varF "deed") (kF (.int 6))),(cmpT .Eq (binF .Mod (varF "more") (kF (.int 3))) (kF (.int 1))),(orT [(valT (varF "grows")),(cmpT .Lt (binF .Add (varF "used") (lenF (varF "others"))) (varF "room"))])])
noncomputable def qRef:TF:=(andT [(cmpT .Eq (varF "deed") (kF (.int 6))),(cmpT .Eq (binF .Mod (varF "more") (kF (.int 3))) (kF (.int 2))),(notT (valT (varF "grows"))),(cmpT .Lt (varF "room") (kF (.int 32))),(orT [(cmpT .GtE (lenF (varF "held")) (kF (.int 8))),(cmpT .Eq (varF "used") (lenF (varF "held")))])])
noncomputable def tMain:SF:=(ifS qAdd tAdd (ifS qRem tRem (ifS qRes tRes (ifS qMer tMer (ifS qRef tRef (ifS (cmpT .Eq (varF "deed") (kF (.int 6))) (tSame eIn) (ifS (cmpT .Eq (binF .Mod (varF "more") (kF (.int 2))) (kF (.int 0))) (tSame eChk) (tSame eCha))))))))
theorem bTurn_eq:bTurn=seqB (setF "deed" (binF .Mod (varF "n") (kF (.int 7)))) (seqB (setF "at" (binF .Mod (binF .FloorDiv (varF "n") (kF (.int 7))) (kF (.int 24)))) (seqB (setF "more" (binF .FloorDiv (varF "n") (kF (.int 168)))) (seqB (setF "code" (fnF aY (aA (varF "at") nilL))) (seqB tMain tEnd)))):=rfl
theorem held_loop {d:Int}:∀ (n i fuel:Nat) (m:Loc) (τ:Sto) (L:List Int) (used:Int),i+n=T.length->n<fuel->L.length+n<=900->Sg τ V W H K S T jh L P->(jo,T)∈P->LS g i1 i2 jo jh jn room used m->m "deed"=some (.int d)->
  ∃ m' τ',forL "other" pU jo fuel i m τ=some (.next,m',τ')/\Sg τ' V W H K S T jh (cI L (T.drop i)) P/\LS g i1 i2 jo jh jn room (used+(cI L (T.drop i)).length - L.length) m'/\m' "deed"=some (.int d):=by
 intro n
 induction n with
 | zero=>
  intro i fuel m τ L used hi hf hl sg hp ls hd
  obtain ⟨f,rfl⟩:∃ f,fuel=f+1:=⟨fuel - 1,by lia⟩
  have hj:=(sg.gp _ hp).1
  have hn:(T.map Val.int)[i]?=none:=by rw [List.getElem?_eq_none_iff];simp;lia
  rw [List.drop_of_length_le (by lia)]
  refine ⟨m,τ,?_,sg,?_,hd⟩
  ·exact jG hj hn
  ·show LS g i1 i2 jo jh jn room (used+(L.length:Int) - L.length) m
   rw [show used+(L.length:Int) - L.length=used by lia];exact ls
 | succ n ih=>
  intro i fuel m τ L used hi hf hl sg hp ls hd
  obtain ⟨f,rfl⟩:∃ f,fuel=f+1:=⟨fuel - 1,by lia⟩
  have hj:=(sg.gp _ hp).1
  have hlt:i<T.length:=by lia
  have hx:(T.map Val.int)[i]?=some (.int T[i]):=by rw [List.getElem?_map,List.getElem?_eq_getElem hlt];rfl
  have hdr:T.drop i=T[i] :: T.drop (i+1):=List.drop_eq_getElem_cons hlt
  have ls1:LS g i1 i2 jo jh jn room used (m.put "other" (.int T[i])):=ls.put (by decide)
  have hd1:(m.put "other" (.int T[i])) "deed"=some (.int d):=by simp [Loc.put,hd]
  have ho:(m.put "other" (.int T[i])) "other"=some (.int T[i]):=by simp [Loc.put]
  have tin:=inE (neg:=true) (aB (σ:=τ) ho) (aB ls1.held) sg.gh
  rw [hdr]
  show ∃ m' τ',forL "other" pU jo (f+1) i m τ=_/\Sg τ' V W H K S T jh (cI (adds L T[i]) (T.drop (i+1))) P/\LS g i1 i2 jo jh jn room (used+(cI (adds L T[i]) (T.drop (i+1))).length - L.length) m'/\_
  by_cases q:T[i]∈L
  ·have ea:adds L T[i]=L:=by unfold adds;rw [if_pos q]
   rw [show (decide (T[i]∈L) != true)=false by simp [q]] at tin
   have hb:pU (m.put "other" (.int T[i])) τ=some (.next,m.put "other" (.int T[i]),τ):=by unfold pU;rw [cC tin];rfl
   rw [ea]
   obtain ⟨m',τ',a1,a2,a3,a4⟩:=ih (i+1) f _ τ L used (by lia) (by lia) (by lia) sg hp ls1 hd1
   exact ⟨m',τ',gY hj hx hb a1,a2,a3,a4⟩
  ·have ea:adds L T[i]=L ++ [T[i]]:=by unfold adds;rw [if_neg q]
   rw [show (decide (T[i]∈L) != true)=true by simp [q]] at tin
   let τ1:=τ.put jh (.list ((L ++ [T[i]]).map .int))
   let m1:=(m.put "other" (.int T[i])).put "used" (.int (used+1))
   have hb:pU (m.put "other" (.int T[i])) τ=some (.next,m1,τ1):=by
    unfold pU
    rw [fK tin]
    exact seqN (appE ls1.held ho sg.gh (by lia)) (aT (evAdd (aB ls1.used)))
   rw [ea]
   obtain ⟨m',τ',a1,a2,a3,a4⟩:=ih (i+1) f m1 τ1 (L ++ [T[i]]) (used+1) (by lia) (by lia) (by simp;lia) (sg.app _) hp ls1.pUsed (by simp [m1,Loc.put,hd])
   refine ⟨m',τ',gY hj hx hb a1,a2,?_,a4⟩
   have:used+1+((cI (L ++ [T[i]]) (T.drop (i+1))).length:Int) - ((L ++ [T[i]]).length:Nat)=used+(cI (L ++ [T[i]]) (T.drop (i+1))).length - L.length:=by simp;lia
   rw [<- this];exact a3
theorem tMer_ok {d k:Int} {a:Nat} (ht:t<=8) (hp:(jo,T)∈P) (ls:LS g V.i W.i jo jh jn room used l) (lc:LC d k a l) (s:SSt g t σ V W H K S T jh P room used) (cond:g=true\/used+T.length<room) :
  Out tMer g W.i jo jn t W K T P d l σ:=by
 have h0:=s.sg.q1.n0
 have hphi:=s.phi
 have hle:=sT (S:=S) (T:=T)
 have hge:=jC (S:=S) (cs:=T)
 have htl:=s.tl
 have hwm:=s.sg.q2.good.mc
 have hq:=s.sg.q1.q34
 obtain ⟨τ,V',H',st,Q',QW',sep',gr,e⟩:=tI s.sg.q1 s.sg.q2 s.sg.sep (by lia) (fun z=>by
   have z':g=false:=s.ag▸z
   obtain ⟨f1,f2,f3⟩:=s.f z'
   rcases cond with q | q
   ·rw [z'] at q;cases q
   ·lia) (by lia) (fun z=>by
   have z':g=true:=s.ag▸z
   exact ⟨by lia,fun w=>((s.t z').2.1 w).2⟩)
 have sg':=s.sg.step st Q'
 obtain ⟨m',τ2,w1,w2,w3,w4⟩:=held_loop (d:=d) T.length 0 100 l τ S used (by lia) (by lia) (by lia) sg' hp ls lc.deed
 rw [List.drop_zero] at w2 w3
 obtain ⟨g1,g2,g3,g4,g5⟩:=w2.gp _ hp
 obtain ⟨τ3,x1,x2⟩:=iM (l:=m') (x:="second") (y:="others") w2.q2 (by lia) w3.second w3.others g1 g2
 have tw:=rA (S:=S) (T:=T) s.sg.q1.rep.nodup
 have gle:=gr.le
 refine ⟨m',τ3,V',H',cI S T,jh,room,used+(cI S T).length - S.length,?_,by rw [st.i];exact w3,w4,⟨w2.ext x1,st.auto.trans s.ag,s.tl,by lia,fun z=>?_,fun z=>?_⟩⟩
 ·unfold tMer
  refine seqN (cM (iI ls.one s.sg.q1.inst rfl (gJ (aB ls.second)) e)) (seqN (l':=m') (σ₁:=τ2) ?_ ((cC x2).trans rfl))
  exact evForL (aB ls.others) w1
 ·have ⟨y1,y2⟩:=gr.f (s.ag.trans z)
  obtain ⟨f1,f2,f3⟩:=s.f z
  have em:V'.m=V.m:=by unfold View.m;rw [y2]
  rw [em]
  refine ⟨f1,by lia,?_⟩
  rcases cond with q | q
  ·rw [z] at q;cases q
  ·lia
 ·have ⟨y1,y2⟩:=gr.t (s.ag.trans z)
  obtain ⟨t1,t2,t3⟩:=s.t z
  refine ⟨by lia,fun w=>⟨(t2 (y1 w).1).1,(y1 w).2.1⟩,fun w=>?_⟩
  rcases hq with ⟨q,_⟩ | ⟨q,_⟩
  ·have:=y2 q w;right;lia
  ·rcases t3 q with y | y
   ·exact .inl y
   ·right;lia
theorem rM {fr:List String} {ef:EF} {bx:BX} {σ':Sto} (h:bx (restr fr l) σ=some σ'):refF fr ef bx l σ=some (.bool true,σ'):=by
 unfold refF refO;rw [h];rfl
theorem refF_f {fr:List String} {ef:EF} {bx:BX} {σ':Sto} {v:Val} (h:bx (restr fr l) σ=none) (h2:ef (restr fr l) σ=some (v,σ')):refF fr ef bx l σ=some (.bool false,σ'):=by
 unfold refF refO;rw [h];simp only [h2,Option.map_some]
theorem evMethX {x r:String} {i:Nat} {fs:List (String×Val)} {b:BF} {fa:LF} {vs:List Val} (hs:l r=some (.ref i)) (hi:σ.get i=.inst 467 fs) (hx:getF fs x=none) (ha:fa l σ=some (vs,σ)):lH 467 x b (varF r) fa l σ=b (.ref i :: vs) σ:=by
 exact bnd (aB hs) (bnd rfl (bnd (eR hi) (bnd (lG hx) (bnd ha rfl))))
theorem tRef_ok {d k:Int} {a:Nat} (ht:t<=8) (ls:LS g V.i i2 jo jh jn room used l) (lc:LC d k a l) (s:SSt g t σ V W H K S T jh P room used) (hg:g=false) (cond:8<=(S.length:Int)\/used=S.length) :
  Out tRef g i2 jo jn t W K T P d l σ:=by
 have h0:=s.sg.q1.n0
 have hlt:=s.lt (by lia)
 have hm:=s.sg.q1.good.mc
 obtain ⟨f1,f2,f3⟩:=s.f hg
 have hphi:=s.phi
 have hone:restr ["one"] l "one"=some (.ref V.i):=ls.one
 have rt:=qB s.sg.q1
 have hx:=evMethX (x:="resize") (r:="one") (b:=eU) (fa:=aA (kF (.int 3)) nilL) hone s.sg.q1.inst rfl rfl
 have hlen:∀ {σ1:Sto},σ1.get jh=.list (S.map .int)->lenF (varF "held") l σ1=some (.int S.length,σ1):=by
  intro σ1 hj
  have:=lenE (f:=varF "held") (l:=l) (aB ls.held) hj (by simp;lia)
  rwa [List.length_map] at this
 by_cases q:8<=(S.length:Int)
 ·rw [if_pos (by lia)] at rt
  have r1:=rM (ef:=aF 467 "resize" dX (varF "one") (aA (kF (.int 3)) nilL)) (hx.trans rt)
  have hge:cmpF .GtE (lenF (varF "held")) (kF (.int 8)) l σ=some (.bool true,σ):=by
   exact gZ (g:=kF (.int 8)) (hlen s.sg.gh) rfl (congrArg some (decide_eq_true q))
  have h1:=cmpE (op:=.NotEq) (c:=false) r1 hge rfl
  have h2:cmpT .Lt (lenF (varF "held")) (kF (.int 8)) l σ=some (false,σ):=cmpE (hlen s.sg.gh) rfl (by
   show some (decide ((S.length:Int)<8))=_
   rw [show decide ((S.length:Int)<8)=false from decide_eq_false (by lia)])
  refine ⟨l,σ,V,H,S,jh,room,used,?_,ls,lc.deed,s.later⟩
  unfold tRef
  exact seqN (l':=l) (σ₁:=σ) ((cC h1).trans rfl) ((cC h2).trans rfl)
 ·have hu:=cond.resolve_left q
  rw [if_neg (by lia)] at rt
  obtain ⟨τ,V',H',st,Q',e3,en,e⟩:=s.sg.q1.shrink (by lia) (s.ag.trans hg)
  have sg':=s.sg.step st Q'
  have he:aF 467 "resize" dX (varF "one") (aA (kF (.int 3)) nilL) (restr ["one"] l) σ=some (.none,τ):=iI hone s.sg.q1.inst rfl rfl e
  have r1:=refF_f (hx.trans rt) he
  have hge:cmpF .GtE (lenF (varF "held")) (kF (.int 8)) l τ=some (.bool false,τ):=by
   exact gZ (g:=kF (.int 8)) (hlen sg'.gh) rfl (congrArg some (decide_eq_false (by lia)))
  have h1:=cmpE (op:=.NotEq) (c:=false) r1 hge rfl
  have h2:cmpT .Lt (lenF (varF "held")) (kF (.int 8)) l τ=some (true,τ):=cmpE (hlen sg'.gh) rfl (by
   show some (decide ((S.length:Int)<8))=_
   rw [show decide ((S.length:Int)<8)=true from decide_eq_true (by lia)])
  have em:V'.m=8:=by unfold View.m;rw [e3]
  refine ⟨l.put "room" (.int 8),τ,V',H',S,jh,8,used,?_,by rw [st.i];exact ls.pRoom,?_,⟨sg',st.auto.trans s.ag,s.tl,by lia,fun _=>⟨by lia,by lia,by lia⟩,fun z=>by rw [hg] at z;cases z⟩⟩
  ·unfold tRef
   exact seqN (l':=l) (σ₁:=τ) ((cC h1).trans rfl) ((fK h2).trans (aT rfl))
  ·simp [Loc.put,lc.deed]
theorem mS {d k:Int} {a:Nat} {e:EF} (ls:LS g V.i i2 jo jh jn room used l) (lc:LC d k a l) (s:SSt g t σ V W H K S T jh P room used) (he:e l σ=some (.bool (decide (code a∈S)),σ)) :
  Out (tSame e) g i2 jo jn t W K T P d l σ:=by
 have hi:=inFE (neg:=false) (aB (σ:=σ) lc.code) (aB ls.held) s.sg.gh
 have h1:=cmpE (op:=.NotEq) (c:=false) he hi (by
  show some (decide (code a∈S) != (decide (code a∈S) != false))=_
  simp)
 refine ⟨l,σ,V,H,S,jh,room,used,?_,ls,lc.deed,s.later⟩
 unfold tSame
 exact (cC h1).trans rfl
theorem valB {x:String} {b:Bool} (h:l x=some (.bool b)):valT (varF x) l σ=some (b,σ):=dH (aB h)
theorem tMain_ok {d k:Int} {a:Nat} (ha:a<24) (ht:t<=8) (hp:(jo,T)∈P) (ls:LS g V.i W.i jo jh jn room used l) (lc:LC d k a l) (s:SSt g t σ V W H K S T jh P room used) :
  Out tMain g W.i jo jn t W K T P d l σ:=by
 have pass:∀ {q:TF} {x y:SF} {b:Bool},q l σ=some (b,σ)->(b=true->Out x g W.i jo jn t W K T P d l σ)->(b=false->Out y g W.i jo jn t W K T P d l σ)->Out (ifS q x y) g W.i jo jn t W K T P d l σ:=by
  intro q x y b h1 h2 h3
  unfold Out
  cases b with
  | true=>rw [fK h1];exact h2 rfl
  | false=>rw [cC h1];exact h3 rfl
 have hlt:=s.lt (by lia)
 have hm:=s.sg.q1.good.mc
 have htl:=s.tl
 have hlen:lenF (varF "held") l σ=some (.int S.length,σ):=by
  have:=lenE (f:=varF "held") (l:=l) (aB ls.held) s.sg.gh (by simp;lia)
  rwa [List.length_map] at this
 have hlenT:lenF (varF "others") l σ=some (.int T.length,σ):=by
  have:=lenE (f:=varF "others") (l:=l) (aB ls.others) (s.sg.gp _ hp).1 (by simp;lia)
  rwa [List.length_map] at this
 have tm3:∀ (b:Int),cmpT .Eq (binF .Mod (varF "more") (kF (.int 3))) (kF (.int b)) l σ=some (k%3 == b,σ):=fun b=>tEq (iP (aB lc.more) (by lia))
 have td:∀ (b:Int),cmpT .Eq (varF "deed") (kF (.int b)) l σ=some (d == b,σ):=fun b=>tEq (aB lc.deed)
 have tg:=valB (σ:=σ) ls.grows
 have tng:notT (valT (varF "grows")) l σ=some (!g,σ):=by unfold notT;rw [tg];rfl
 unfold tMain
 refine pass (kS (.cons (tLt (b:=3) (aB lc.deed) rfl) (.cons (jM (.cons tg (.cons (tLt (evAdd (aB ls.used)) (aB ls.room)) (.cons (inE (neg:=false) (aB lc.code) (aB ls.held) s.sg.gh) .nil)))) .nil))) (fun z=>?_) fun _=>?_
 ·simp at z
  exact tAdd_ok ha ht ls lc s z.2
 refine pass (jM (.cons (td 4) (.cons (td 5) .nil))) (fun z=>tRem_ok ha ht ls lc s) fun _=>?_
 refine pass (kS (.cons (td 6) (.cons (tm3 0) (.cons (tLt (b:=16) (aB ls.room) rfl) (.cons (jM (.cons (tLt (b:=4) (aB ls.used) rfl) (.cons tng .nil))) .nil))))) (fun z=>?_) fun _=>?_
 ·simp at z
  exact tRes_ok (k:=k) (a:=a) ht ls lc s z.2.2.1 z.2.2.2
 refine pass (kS (.cons (td 6) (.cons (tm3 1) (.cons (jM (.cons tg (.cons (tLt (bU (op:=.Add) (aB ls.used) hlenT rfl) (aB ls.room)) .nil))) .nil)))) (fun z=>?_) fun _=>?_
 ·simp at z
  exact tMer_ok (k:=k) (a:=a) ht hp ls lc s z.2.2
 refine pass (kS (.cons (td 6) (.cons (tm3 2) (.cons tng (.cons (tLt (b:=32) (aB ls.room) rfl) (.cons (jM (.cons (cmpE (op:=.GtE) (b:=.int 8) hlen rfl rfl) (.cons (cmpE (op:=.Eq) (aB ls.used) hlen rfl) .nil))) .nil)))))) (fun z=>?_) fun _=>?_
 ·simp at z
  exact tRef_ok (k:=k) (a:=a) ht ls lc s z.2.2.1 z.2.2.2.2
 refine pass (td 6) (fun _=>mS ls lc s ?_) fun _=>?_
 ·exact mp_ (bnd (chrE ha ls.letters lc.at_) (bnd (aB ls.one) (bnd rfl (bnd (eR s.sg.q1.inst) (bnd (s.sg.q1.contains_key ha) rfl))))) rfl
 refine pass (tEq (b:=0) (iP (aB lc.more) (by lia))) (fun _=>mS ls lc s ?_) fun _=>mS ls lc s ?_
 ·exact iI ls.one s.sg.q1.inst rfl (gJ (chrE ha ls.letters lc.at_)) (s.sg.q1.check_key ha)
 ·exact iI ls.one s.sg.q1.inst rfl (gJ (aB lc.code)) (s.sg.q1.check ⟨⟨a,ha⟩,rfl⟩)
theorem turn_ok {n:Int} (h0:0<=n) (ht:t<=8) (hp:(jo,T)∈P) (hn:l "n"=some (.int n)) (ls:LS g V.i W.i jo jh jn room used l) (s:SSt g t σ V W H K S T jh P room used) :
  ∃ l' σ' V' H' S' jh' room' used',bTurn l σ=some (.next,l',σ')/\LS g V'.i W.i jo jh' jn room' used' l'/\SSt g (t+1) σ' V' W H' K S' T jh' P room' used':=by
 obtain ⟨a,ha⟩:∃ a:Nat,(a:Int)=n / 7%24:=⟨(n / 7%24).toNat,by lia⟩
 have ha24:a<24:=by lia
 let l1:=l.put "deed" (.int (n%7))
 let l2:=l1.put "at" (.int (a:Int))
 let l3:=l2.put "more" (.int (n / 168))
 let l4:=l3.put "code" (.int (code a))
 have ls4:LS g V.i W.i jo jh jn room used l4:=(((ls.put (by decide)).put (by decide)).put (by decide)).put (by decide)
 have lc:LC (n%7) (n / 168) a l4:=⟨by simp [l4,l3,l2,l1,Loc.put],by simp [l4,l3,Loc.put],by simp [l4,l3,l2,Loc.put],by simp [l4,Loc.put]⟩
 obtain ⟨l',σ',V',H',S',jh',room',used',e1,e2,e3,e4⟩:=tMain_ok ha24 ht hp ls4 lc s
 have hend:∃ σ'',Ext σ' σ''/\tEnd l' σ'=some (.next,l',σ''):=by
  obtain ⟨τ,x1,x2⟩:=iM (l:=l') (x:="one") (y:="held") e4.sg.q1 (e4.lt (by lia)) e2.one e2.held e4.sg.gh e4.sg.lh
  have h3:cmpT .NotEq (varF "deed") (kF (.int 3)) l' σ'=some (n%7 != 3,σ'):=cmpE (aB e3) rfl rfl
  cases q:(n%7 != 3) with
  | true=>
   rw [q] at h3
   refine ⟨τ,x1,?_⟩
   unfold tEnd
   refine (cC (σ':=τ) ?_).trans rfl
   simp only [andT,h3,Option.bind_some,if_true,x2]
   rfl
  | false=>
   rw [q] at h3
   refine ⟨σ',.refl,?_⟩
   unfold tEnd
   refine (cC (σ':=σ') ?_).trans rfl
   simp only [andT,h3,Option.bind_some]
   rfl
 obtain ⟨σ'',x1,x2⟩:=hend
 refine ⟨l',σ'',V',H',S',jh',room',used',?_,e2,e4.ext x1⟩
 rw [bTurn_eq]
 refine seqN (aT (iP (aB hn) (by lia))) (seqN (l':=l2) (σ₁:=σ) ?_ (seqN (l':=l3) (σ₁:=σ) ?_ (seqN (l':=l4) (σ₁:=σ) ?_ (seqN e1 x2))))
 ·rw [show l2=l1.put "at" (.int (n / 7%24)) by rw [<- ha]]
  exact aT (iP (evDiv (aB (by simp [l1,Loc.put,hn])) (by lia)) (by lia))
 ·exact aT (evDiv (aB (by simp [l2,l1,Loc.put,hn])) (by lia))
 ·refine aT ?_
  unfold fnF
  rw [gJ (v:=.int (a:Int)) (aB (by simp [l3,l2,Loc.put]))]
  exact lQ _ (by lia) (by lia)
end
section
variable {σ τ:Sto} {V V' W:View} {H K:Int->Int} {l:Loc} {S T L:List Int} {g:Bool} {i1 i2 jo jh jn jh':Nat} {room used r':Int} {P:List (Nat×List Int)} {t:Nat}
theorem idxE {x:String} {j:Nat} {xs:List Int} {k v:Int} (hx:l x=some (.ref j)) (hj:σ.get j=.list (xs.map .int)) (h0:0<=k) (h1:k<1000) (hv:xs[k.toNat]?=some v):idxF (varF x) (kF (.int k)) l σ=some (.int v,σ):=by
 exact evIdx (aB hx) rfl hj ⟨h0,lt62 (by lia)⟩ (by rw [List.getElem?_map,hv];rfl)
theorem evMul {f g:EF} {a b:Int} (h:f l σ=some (.int a,σ)) (h2:g l σ=some (.int b,σ)) (ha:a.natAbs<1000):binF .Mult f g l σ=some (.int (a*b),σ):=by
 exact bU h h2 (bMul (lt64 (by lia)))
theorem sH {f g:EF} {a b:Int} (h:f l σ=some (.int a,σ)) (h2:g l σ=some (.int b,σ)):binF .Add f g l σ=some (.int (a+b),σ):=by
 unfold binF;rw [h];simp only [Option.bind_some,h2];rfl
theorem codeE {f:EF} {a:Int} (h:f l σ=some (.int a,σ)) (h0:0<=a) (h1:a<24):fnF aY (aA f nilL) l σ=some (.int (code a),σ):=by
 unfold fnF
 rw [gJ h]
 exact lQ _ h0 (by lia)
theorem lJ {a:Int} (h0:0<=a) (h1:a<24):bW (code a):=⟨⟨a.toNat,by lia⟩,by
 show code a=code ((a.toNat:Nat):Int)
 rw [Int.toNat_of_nonneg h0]⟩
noncomputable def newV (auto:Bool) (hf:Addr) (σ:Sto):View:=dS 3 auto hf σ.n (σ.n+1)
noncomputable def newS (auto:Bool) (hf:Addr) (σ:Sto):Sto:=qf (T4 (σ.push (.inst 467 [])) 8) (newV auto hf σ)
theorem newE {auto:Bool} {hf:Addr} {fa:LF} (h:fa l σ=some ([.int 3,.bool auto,.fn hf],σ)):newF 467 fU fa l σ=some (.ref σ.n,newS auto hf σ):=evNew h init_spec
theorem newS_n {auto:Bool} {hf:Addr}:(newS auto hf σ).n=σ.n+12:=rfl
theorem newS_ext {auto:Bool} {hf:Addr}:Ext σ (newS auto hf σ):=by
 have e:Ext σ (T4 (σ.push (.inst 467 [])) 8):=Ext.push.trans T4_ext
 refine ⟨by rw [newS_n];lia,fun k hk=>?_⟩
 unfold newS
 rw [cY (by unfold own newV dS;dsimp only;lia)]
 exact e.same k hk
theorem newS_inst {auto:Bool} {hf:Addr}:(newS auto hf σ).get σ.n=.inst 467 (newV auto hf σ).fs:=qf_i
theorem qI {auto:Bool}:Qf (newS auto 485 σ) (newV auto 485 σ) id []:=
 ⟨lC,⟨Nat.lt_succ_self _,.inl rfl⟩,fresh_lay.toLayW,fun _=>fresh_lay.ex,oQ,(fun c hc=>by cases hc),by show σ.n<σ.n+12;lia,by show σ.n+1+10<σ.n+12;lia,rfl,Int.le_refl _⟩
theorem rS {auto:Bool} {hf:Addr} {k:Nat} (h:k<σ.n):¬ own (newV auto hf σ) k:=by unfold own newV dS;dsimp only;lia
theorem jB {auto:Bool} {hf:Addr} {k:Nat} (h:σ.n+12<=k):¬ own (newV auto hf σ) k:=by unfold own newV dS;dsimp only;lia
theorem Sg.more (G:Sg σ V W H K S T jh L P) (xs:List Int):Sg (σ.push (.list (xs.map .int))) V W H K S T jh L ((σ.n,xs) :: P):=by
 have G':=G.ext (τ:=σ.push (.list (xs.map .int))) Ext.push
 have h1:=G.q1.hi
 have h2:=G.q1.hb
 have h3:=G.q2.hi
 have h4:=G.q2.hb
 refine ⟨G'.q1,G'.q2,G.sep,G'.gh,G'.lh,G.ov,G.ow,fun p hp=>?_⟩
 rcases List.mem_cons.mp hp with rfl | hp
 ·exact ⟨bR _ _,Nat.lt_succ_self _,by unfold own;dsimp only;lia,by unfold own;dsimp only;lia,by have:=G.lh;dsimp only;lia⟩
 ·exact G'.gp p hp
theorem SSt.more (s:SSt g t σ V W H K S T jh P room used) (xs:List Int):SSt g t (σ.push (.list (xs.map .int))) V W H K S T jh ((σ.n,xs) :: P) room used:=⟨s.sg.more xs,s.ag,s.tl,s.phi,s.f,s.t⟩
theorem loop_ok {j:Nat} {xs:List Int} (hx:∀ x∈xs,0<=x) (h9:xs.length<=9) (hjP:(j,xs)∈P) (hp:(jo,T)∈P):∀ (n i fuel:Nat) (l:Loc) (σ:Sto) (V:View) (H:Int->Int) (S:List Int) (jh:Nat) (room used:Int),i+n=xs.length->n<fuel->
  LS g V.i W.i jo jh jn room used l->SSt g i σ V W H K S T jh P room used->
  ∃ l' σ' V' H' S' jh' room' used',forL "n" bTurn j fuel i l σ=some (.next,l',σ')/\LS g V'.i W.i jo jh' jn room' used' l'/\SSt g xs.length σ' V' W H' K S' T jh' P room' used':=by
 intro n
 induction n with
 | zero=>
  intro i fuel l σ V H S jh room used hi hf ls s
  obtain ⟨f,rfl⟩:∃ f,fuel=f+1:=⟨fuel - 1,by lia⟩
  have hj:=(s.sg.gp _ hjP).1
  have hn:(xs.map Val.int)[i]?=none:=by rw [List.getElem?_eq_none_iff];simp;lia
  have hil:i=xs.length:=by lia
  exact ⟨l,σ,V,H,S,jh,room,used,jG hj hn,ls,by rw [<- hil];exact s⟩
 | succ n ih=>
  intro i fuel l σ V H S jh room used hi hf ls s
  obtain ⟨f,rfl⟩:∃ f,fuel=f+1:=⟨fuel - 1,by lia⟩
  have hj:=(s.sg.gp _ hjP).1
  have hlt:i<xs.length:=by lia
  have hxi:(xs.map Val.int)[i]?=some (.int xs[i]):=by rw [List.getElem?_map,List.getElem?_eq_getElem hlt];rfl
  have hmem:xs[i]∈xs:=List.getElem_mem hlt
  obtain ⟨l1,σ1,V1,H1,S1,jh1,room1,used1,e1,e2,e3⟩:=turn_ok (l:=l.put "n" (.int xs[i])) (hx _ hmem) (by lia) hp (by simp [Loc.put]) (ls.put (by decide)) s
  obtain ⟨l2,σ2,V2,H2,S2,jh2,room2,used2,f1,f2,f3⟩:=ih (i+1) f l1 σ1 V1 H1 S1 jh1 room1 used1 (by lia) (by lia) e2 e3
  exact ⟨l2,σ2,V2,H2,S2,jh2,room2,used2,gY hj hxi e1 f1,f2,f3⟩
noncomputable def eSec:EF:=(fnF aY (aA (binF .Mod (binF .Add (idxF (varF "numbers") (kF (.int 1))) (binF .Mult (varF "at") (binF .Add (binF .Mod (binF .FloorDiv (idxF (varF "numbers") (kF (.int 0))) (kF (.int 12))) (kF (.int 23))) (kF (.int 1))))) (kF (.int 24))) nilL))
noncomputable def tSec:SF:=(seqB (setF "code" eSec)
 (seqB (aU (aF 467 "add_alt" aS (varF "second") (aA (varF "code") nilL)))
 (ifS (inT true (varF "code") (varF "others")) (aU (appF (varF "others") (varF "code"))) nilB)))
theorem bLaw6_eq:bLaw6=(jF "at" (aA (binF .Mod (binF .FloorDiv (idxF (varF "numbers") (kF (.int 0))) (kF (.int 2))) (kF (.int 6))) nilL) tSec):=rfl
theorem sec_loop {num:List Int} {n0 n1:Int} (h0:num[0]?=some n0) (h1:num[1]?=some n1) (p1:0<=n1) (hp:(jn,num)∈P):∀ (n i:Nat) (l:Loc) (τ:Sto) (V:View) (H:Int->Int) (S:List Int),i+n<=5->
  Sg τ V W H K S [] jo S P->V.auto=true->V.n<=i->(V.q=3->V.n<=7)->l "numbers"=some (.ref jn)->l "second"=some (.ref V.i)->l "others"=some (.ref jo)->
  ∃ l' τ' V' H' S',forR "at" tSec n (i:Int) 1 l τ=some (.next,l',τ')/\Sg τ' V' W H' K S' [] jo S' P/\V'.auto=true/\V'.n<=5/\V'.i=V.i/\∀ y,y ≠ "at"->y ≠ "code"->l' y=l y:=by
 intro n
 induction n with
 | zero=>
  intro i l τ V H S hi sg ha hn hq _ _ _
  exact ⟨l,τ,V,H,S,rfl,sg,ha,by lia,rfl,fun _ _ _=>rfl⟩
 | succ n ih=>
  intro i l τ V H S hi sg ha hn hq l1 l2 l3
  let m:=l.put "at" (.int (i:Int))
  have m1:m "numbers"=some (.ref jn):=by simp [m,Loc.put,l1]
  have m2:m "at"=some (.int (i:Int)):=by simp [m,Loc.put]
  have gn:=(sg.gp _ hp).1
  let a:Int:=(n1+i*(n0 / 12%23+1))%24
  have a0:0<=a:=by show 0<=(_%24:Int);lia
  have a1:a<24:=by show (_%24:Int)<24;lia
  have he:eSec m τ=some (.int (code a),τ):=codeE (iP (sH (idxE m1 gn (by lia) (by lia) h1) (evMul (aB m2) (evAdd (iP (evDiv (idxE m1 gn (by lia) (by lia) h0) (by lia)) (by lia))) (by lia))) (by lia)) a0 a1
  let m':=m.put "code" (.int (code a))
  have k1:m' "code"=some (.int (code a)):=by simp [m',Loc.put]
  have k2:m' "second"=some (.ref V.i):=by simp [m',m,Loc.put,l2]
  have k3:m' "others"=some (.ref jo):=by simp [m',m,Loc.put,l3]
  obtain ⟨τ1,V1,H1,st,Q1,gr,e⟩:=sg.q1.put (lJ a0 a1) (fun z=>by rw [ha] at z;cases z) (by lia) (fun _=>⟨by lia,hq⟩)
  have sg1:=sg.step st Q1
  have tin:=inE (neg:=true) (aB (σ:=τ1) k1) (aB k3) sg1.gh
  have hal:=eT S (code a)
  have gle:=gr.le
  have hs0:=sg.q1.n0
  have last:∃ τ2,ifS (inT true (varF "code") (varF "others")) (aU (appF (varF "others") (varF "code"))) nilB m' τ1=some (.next,m',τ2)/\Sg τ2 V1 W H1 K (adds S (code a)) [] jo (adds S (code a)) P:=by
   by_cases q:code a∈S
   ·have ea:adds S (code a)=S:=by unfold adds;rw [if_pos q]
    rw [show (decide (code a∈S) != true)=false by simp [q]] at tin
    exact ⟨τ1,(cC tin).trans rfl,by rw [ea] at sg1 |-;exact sg1⟩
   ·have ea:adds S (code a)=S ++ [code a]:=by unfold adds;rw [if_neg q]
    rw [show (decide (code a∈S) != true)=true by simp [q]] at tin
    refine ⟨τ1.put jo (.list ((adds S (code a)).map .int)),(fK tin).trans ?_,sg1.app _⟩
    rw [ea]
    exact appE k3 k1 sg1.gh (by lia)
  obtain ⟨τ2,e2,sg2⟩:=last
  have hn1:V1.n<=((i+1:Nat):Int):=by split at hal<;>lia
  obtain ⟨l',τ',V',H',S',b1,b2,b3,b4,b5,b6⟩:=ih (i+1) m' τ2 V1 H1 (adds S (code a)) (by lia) sg2 (st.auto.trans ha) hn1 (fun w=>((gr.t ha).1 w).2.1) (by simp [m',m,Loc.put,l1]) (by rw [st.i];exact k2) k3
  refine ⟨l',τ',V',H',S',?_,b2,b3,b4,b5.trans st.i,fun y y1 y2=>(b6 y y1 y2).trans (by simp [m',m,Loc.put,y1,y2])⟩
  have hb:tSec m τ=some (.next,m',τ2):=by
   unfold tSec
   exact seqN (aT he) (seqN (cM (iI k2 sg.q1.inst rfl (gJ (aB k1)) e)) e2)
  show (tSec m τ).bind _=_
  rw [hb]
  exact b1
end
noncomputable def kI (sn:List Int):List Int:=(sn.take 8).map (·%1000003) ++ [1,29,56]
theorem qH {sn:List Int}:∀ x∈kI sn,0<=x:=by
 intro x hx
 unfold kI at hx
 rcases List.mem_append.mp hx with h | h
 ·obtain ⟨y,_,rfl⟩:=List.mem_map.mp h
  show 0<=y%1000003
  lia
 ·simp at h;lia
theorem num_len {sn:List Int}:3<=(kI sn).length/\(kI sn).length<=11:=by
 unfold kI;simp;lia
theorem bLaw0_ok {sa:Addr} {sn:List Int} {l:Loc} {σ:Sto} (hs:l "script"=some (.fn sa)):bLaw0 sa sn l σ=some (.next,l.put "numbers" (.ref (σ.n+3)),(((σ.push (.list ((sn.take 8).map .int))).push (.list (((sn.take 8).map (·%1000003)).map .int))).push (.list ([1,29,56].map .int))).push (.list ((kI sn).map .int))):=by
 let σ1:=σ.push (.list ((sn.take 8).map .int))
 let σ2:=σ1.push (.list (((sn.take 8).map (·%1000003)).map .int))
 let σ3:=σ2.push (.list ([1,29,56].map .int))
 have h1:cutA sa sn 8 (varF "script") l σ=some (.ref σ.n,σ1):=by
  exact bnd (aB hs) (bnd rfl (if_pos rfl))
 have hlen:(sn.take 8).length<=8:=by simp;lia
 have h2:=compE (l:=l) (σ:=σ) (x:="n") (fr:=[]) (it:=cutA sa sn 8 (varF "script")) (t:=fun _ σ=>some (true,σ)) (e:=binF .Mod (varF "n") (kF (.int 1000003))) (p:=fun _=>true) (f:=(·%1000003)) h1 (bR _ _) (Nat.lt_succ_self _)
  (fun m d acc _ _ _=>rfl) (fun m d acc _ _ h=>iP (aB h) (by lia)) (by lia)
 rw [List.filter_eq_self.mpr fun _ _=>rfl] at h2
 have g1:σ3.get σ1.n=.list (((sn.take 8).map (·%1000003)).map .int):=by
  rw [fC (by show σ1.n≠σ1.n+1;lia)];exact bR _ _
 have g2:σ3.get σ2.n=.list ([1,29,56].map .int):=bR _ _
 exact aT (bnd h2 (bnd (a:=(.ref σ2.n,σ3)) rfl (bnd rfl (bnd rfl (bnd (dG g1) (bnd (dG g2) ((if_pos (by simp;lia)).trans (by
  unfold kI
  rw [List.map_append]
  rfl))))))))
noncomputable def offE (n0:Int) (i:Nat):Int:=if n0%4<2 then (i:Int) / 3*5+(i:Int)%3*8 else (i:Int)*5
noncomputable def numE (n0 n1:Int) (i:Nat):Int:=(n1+offE n0 i)%24
noncomputable def es (n0 n1:Int):List Int:=(List.range 9).map fun i=>code (numE n0 n1 i)
theorem es_len {n0 n1:Int}:(es n0 n1).length=9:=by simp [es]
theorem numE_in {n0 n1:Int} {i:Nat}:0<=numE n0 n1 i/\numE n0 n1 i<24:=by unfold numE;lia
theorem lP {n0 n1:Int}:∀ c∈es n0 n1,bW c:=by
 intro c hc
 obtain ⟨i,_,rfl⟩:=List.mem_map.mp hc
 exact lJ numE_in.1 numE_in.2
theorem off_diff1:∀ i j:Fin 9,i<j->(((i.val:Int) / 3*5+(i.val:Int)%3*8) - ((j.val:Int) / 3*5+(j.val:Int)%3*8))%24≠0:=by decide +kernel
theorem off_diff2:∀ i j:Fin 9,i<j->(((i.val:Int)*5) - ((j.val:Int)*5))%24≠0:=by decide +kernel
theorem off_ne {n0:Int} {i j:Nat} (hi:i<9) (hj:j<9) (hij:i<j):(offE n0 i - offE n0 j)%24≠0:=by
 unfold offE
 by_cases q:n0%4<2
 ·rw [if_pos q,if_pos q];exact off_diff1 ⟨i,hi⟩ ⟨j,hj⟩ hij
 ·rw [if_neg q,if_neg q];exact off_diff2 ⟨i,hi⟩ ⟨j,hj⟩ hij
theorem mod_ne {x a b:Int} (h:(a - b)%24≠0) (e:(x+a)%24=(x+b)%24):False:=h (by
 have:=Int.emod_eq_emod_iff_emod_sub_eq_zero.mp e
 rwa [Int.add_sub_add_left] at this)
theorem code_eq {a b:Int} (h1:0<=a/\a<24) (h2:0<=b/\b<24) (e:code a=code b):a=b:=by
 have e3:=code_inj ⟨a.toNat,(Int.toNat_lt h1.1).mpr h1.2⟩ ⟨b.toNat,(Int.toNat_lt h2.1).mpr h2.2⟩ (by
  show code ((a.toNat:Nat):Int)=code ((b.toNat:Nat):Int)
  rw [Int.toNat_of_nonneg h1.1,Int.toNat_of_nonneg h2.1];exact e)
 exact (Int.toNat_of_nonneg h1.1).symm.trans ((congrArg (fun x:Fin 24=>(x.val:Int)) e3).trans (Int.toNat_of_nonneg h2.1))
theorem es_nodup {n0 n1:Int}:(es n0 n1).Pairwise (·≠·):=by
 unfold es
 refine List.pairwise_map.mpr ((List.pairwise_lt_range (n:=9)).imp_of_mem ?_)
 intro i j hi hj hij e
 exact mod_ne (off_ne (List.mem_range.mp hi) (List.mem_range.mp hj) hij) (code_eq numE_in numE_in e)
section
variable {σ τ:Sto} {V:View} {H:Int->Int} {l:Loc} {S:List Int} {jn je j:Nat} {num:List Int} {n0 n1:Int}
theorem appE2 {x:String} {e:EF} {j:Nat} {c:Int} (hx:l x=some (.ref j)) (he:e l σ=some (.int c,σ)) (hj:σ.get j=.list (S.map .int)) (hl:S.length<=1000):aU (appF (varF x) e) l σ=some (.next,l,σ.put j (.list ((S ++ [c]).map .int))):=by
 refine cM (v:=.none) ?_
 rw [evApp (aB hx) (by rw [hj];rfl) he hj (by rw [List.length_map];lia)]
 simp
noncomputable def nX:SF:=(ifS (cmpT .Lt (binF .Mod (idxF (varF "numbers") (kF (.int 0))) (kF (.int 4))) (kF (.int 2))) (aU (appF (varF "eight") (fnF aY (aA (binF .Mod (binF .Add (binF .Add (idxF (varF "numbers") (kF (.int 1))) (binF .Mult (binF .FloorDiv (varF "at") (kF (.int 3))) (kF (.int 5)))) (binF .Mult (binF .Mod (varF "at") (kF (.int 3))) (kF (.int 8)))) (kF (.int 24))) nilL)))) (aU (appF (varF "eight") (fnF aY (aA (binF .Mod (binF .Add (idxF (varF "numbers") (kF (.int 1))) (binF .Mult (varF "at") (kF (.int 5)))) (kF (.int 24))) nilL)))))
theorem bLaw16_eq:pF=(jF "at" (aA (kF (.int 9)) nilL) nX):=rfl
theorem tR (h0:num[0]?=some n0) (h1:num[1]?=some n1) (hne:jn≠je):∀ (n i:Nat) (l:Loc) (τ:Sto),i+n=9->l "numbers"=some (.ref jn)->l "eight"=some (.ref je)->τ.get jn=.list (num.map .int)->τ.get je=.list (((List.range i).map fun i=>code (numE n0 n1 i)).map .int)->
  ∃ l' τ',forR "at" nX n (i:Int) 1 l τ=some (.next,l',τ')/\SG je τ τ'/\τ'.get je=.list ((es n0 n1).map .int)/\∀ y,y ≠ "at"->l' y=l y:=by
 intro n
 induction n with
 | zero=>
  intro i l τ hi l1 l2 g1 g2
  have:i=9:=by lia
  subst this
  exact ⟨l,τ,rfl,.refl,g2,fun _ _=>rfl⟩
 | succ n ih=>
  intro i l τ hi l1 l2 g1 g2
  let m:=l.put "at" (.int (i:Int))
  have m1:m "numbers"=some (.ref jn):=by simp [m,Loc.put,l1]
  have m2:m "eight"=some (.ref je):=by simp [m,Loc.put,l2]
  have m3:m "at"=some (.int (i:Int)):=by simp [m,Loc.put]
  have i0:=idxE (k:=0) m1 g1 (by lia) (by lia) h0
  have i1:=idxE (k:=1) m1 g1 (by lia) (by lia) h1
  let τ1:=τ.put je (.list ((((List.range i).map fun i=>code (numE n0 n1 i)) ++ [code (numE n0 n1 i)]).map .int))
  have hr:((List.range i).map fun i=>code (numE n0 n1 i)) ++ [code (numE n0 n1 i)]=(List.range (i+1)).map fun i=>code (numE n0 n1 i):=by rw [List.range_succ,List.map_append];rfl
  have tt:cmpT .Lt (binF .Mod (idxF (varF "numbers") (kF (.int 0))) (kF (.int 4))) (kF (.int 2)) m τ=some (decide (n0%4<2),τ):=tLt (iP i0 (by lia)) rfl
  have hin:=numE_in (n0:=n0) (n1:=n1) (i:=i)
  have hb:nX m τ=some (.next,m,τ1):=by
   unfold nX
   by_cases q:n0%4<2
   ·rw [show decide (n0%4<2)=true from decide_eq_true q] at tt
    rw [fK tt]
    refine appE2 m2 (codeE ?_ hin.1 hin.2) g2 (by simp;lia)
    have e:numE n0 n1 i=(n1+(i:Int) / 3*5+(i:Int)%3*8)%24:=by unfold numE offE;rw [if_pos q,Int.add_assoc]
    rw [e]
    exact iP (sH (sH i1 (evMul (evDiv (aB m3) (by lia)) rfl (by lia))) (evMul (iP (aB m3) (by lia)) rfl (by lia))) (by lia)
   ·rw [show decide (n0%4<2)=false from decide_eq_false q] at tt
    rw [cC tt]
    refine appE2 m2 (codeE ?_ hin.1 hin.2) g2 (by simp;lia)
    have e:numE n0 n1 i=(n1+(i:Int)*5)%24:=by unfold numE offE;rw [if_neg q]
    rw [e]
    exact iP (sH i1 (evMul (aB m3) rfl (by lia))) (by lia)
  obtain ⟨l',τ',b1,b2,b3,b4⟩:=ih (i+1) m τ1 (by lia) m1 m2 ((if_neg hne).trans g1) (by rw [<- hr];exact iO)
  refine ⟨l',τ',?_,SG.trans .put b2,b3,fun y hy=>(b4 y hy).trans (by simp [m,Loc.put,hy])⟩
  show (nX m τ).bind _=_
  rw [hb]
  exact b1
theorem Qf.full (Q:Qf σ V H S) {c:Int} (hc:bW c) (ha:V.auto=false) (hn:V.n=S.length) (hq:V.q=3) (hlt:S.length<8) (hno:c ∉ S):∃ τ V' H',Stp V V' σ τ/\Qf τ V' H' (S ++ [c])/\V'.q=3/\V'.n=(S ++ [c]).length/\aS [.ref V.i,.int c] σ=some (.none,τ):=by
 have hm:V.m=8:=by unfold View.m;rw [hq]
 obtain ⟨τ,V',H',a1,a2,a3,a4,a5⟩:=Q.add hc (by lia) (by rw [ha];rfl) (.inr ⟨by lia,by lia⟩)
 have ea:adds S c=S ++ [c]:=by unfold adds;rw [if_neg hno]
 rw [ea] at a2
 exact ⟨τ,V',H',a1,a2,a3.trans hq,by rw [a4,if_neg hno,hn];simp,a5⟩
noncomputable def tFill:SF:=(aU (aF 467 "add_alt" aS (varF "small") (aA (varF "code") nilL)))
theorem bLaw17_eq:pE=(kK "code" (cutF true 8 (varF "eight")) tFill 100):=rfl
theorem fill_loop (hj8:j≠je):∀ (n i fuel:Nat) (l:Loc) (τ:Sto) (V:View) (H:Int->Int),i+n=8->n<fuel->τ.get j=.list (((es n0 n1).take 8).map .int)->τ.get je=.list ((es n0 n1).map .int)->j<τ.n->je<τ.n->¬ own V j->¬ own V je->
  Qf τ V H ((es n0 n1).take i)->V.auto=false->V.n=i->V.q=3->l "small"=some (.ref V.i)->
  ∃ l' τ' V' H',forL "code" tFill j fuel i l τ=some (.next,l',τ')/\Qf τ' V' H' ((es n0 n1).take 8)/\V'.auto=false/\V'.n=8/\V'.q=3/\V'.i=V.i/\τ'.get je=.list ((es n0 n1).map .int)/\je<τ'.n/\∀ y,y ≠ "code"->l' y=l y:=by
 intro n
 induction n with
 | zero=>
  intro i fuel l τ V H hi hf g1 g2 b1 b2 o1 o2 Q ha hn hq ls
  obtain ⟨f,rfl⟩:∃ f,fuel=f+1:=⟨fuel - 1,by lia⟩
  have:i=8:=by lia
  subst this
  have hx:(((es n0 n1).take 8).map Val.int)[8]?=none:=by rw [List.getElem?_eq_none_iff];simp;lia
  exact ⟨l,τ,V,H,jG g1 hx,Q,ha,hn,hq,rfl,g2,b2,fun _ _=>rfl⟩
 | succ n ih=>
  intro i fuel l τ V H hi hf g1 g2 b1 b2 o1 o2 Q ha hn hq ls
  obtain ⟨f,rfl⟩:∃ f,fuel=f+1:=⟨fuel - 1,by lia⟩
  have hl9:=es_len (n0:=n0) (n1:=n1)
  have hlt:i<(es n0 n1).length:=by lia
  let c:=(es n0 n1)[i]
  have hx:(((es n0 n1).take 8).map Val.int)[i]?=some (.int c):=by
   rw [List.getElem?_map,List.getElem?_take,if_pos (by lia),List.getElem?_eq_getElem hlt];rfl
  have htk:(es n0 n1).take (i+1)=(es n0 n1).take i ++ [c]:=List.take_succ_eq_append_getElem hlt
  have hnot:c ∉ (es n0 n1).take i:=by
   intro z
   have hp:((es n0 n1).take (i+1)).Pairwise (·≠·):=es_nodup.sublist (List.take_sublist _ _)
   rw [htk,List.pairwise_append] at hp
   exact hp.2.2 c z c (List.mem_singleton.mpr rfl) rfl
  have hlen:((es n0 n1).take i).length=i:=by simp;lia
  obtain ⟨τ1,V1,H1,st,Q1,q1,n1',e⟩:=Q.full (lP c (List.getElem_mem hlt)) ha (by rw [hlen];exact hn) hq (by lia) hnot
  rw [<- htk] at Q1 n1'
  have hn1:=st.n
  have hl1:((es n0 n1).take (i+1)).length=i+1:=by simp;lia
  obtain ⟨l',τ',V',H',c1,c2,c3,c4,c5,c6,c7,c8,c9⟩:=ih (i+1) f (l.put "code" (.int c)) τ1 V1 H1 (by lia) (by lia) ((st.same j b1 o1).trans g1) ((st.same je b2 o2).trans g2) (by lia) (by lia) (st.nown b1 o1) (st.nown b2 o2) Q1 (st.auto.trans ha) (by rw [n1',hl1]) q1 (by rw [st.i];simp [Loc.put,ls])
  have hb:tFill (l.put "code" (.int c)) τ=some (.next,l.put "code" (.int c),τ1):=cM (iI (by simp [Loc.put,ls]) Q.inst rfl (gJ (aB (by simp [Loc.put]))) e)
  exact ⟨l',τ',V',H',gY g1 hx hb c1,c2,c3,c4,c5,c6.trans st.i,c7,c8,fun y hy=>(c9 y hy).trans (by simp [Loc.put,hy])⟩
theorem args3 {f1 f2 f3:EF} {a b c:Val} (h1:f1 l σ=some (a,σ)) (h2:f2 l σ=some (b,σ)) (h3:f3 l σ=some (c,σ)):aA f1 (aA f2 (aA f3 nilL)) l σ=some ([a,b,c],σ):=by
 simp only [aA,nilL,h1,h2,h3,Option.bind_some,Option.map_some]
noncomputable def lawSmall:SF:=seqB sQ (seqB sP (seqB pF (seqB pE (seqB sO (seqB pD sN)))))
theorem small_ok (h0:num[0]?=some n0) (h1:num[1]?=some n1) (hn:l "numbers"=some (.ref jn)) (hg:σ.get jn=.list (num.map .int)) (hjn:jn<σ.n):∃ l' σ',lawSmall l σ=some (.ret (.bool true),l',σ'):=by
 let σ1:=newS false 485 σ
 let V1:=newV false 485 σ
 let l1:=l.put "small" (.ref σ.n)
 have e14:sQ l σ=some (.next,l1,σ1):=aT (newE rfl)
 let σ2:=σ1.push (.list [])
 let l2:=l1.put "eight" (.ref σ1.n)
 have e15:sP l1 σ1=some (.next,l2,σ2):=aT rfl
 have x1:Ext σ σ2:=newS_ext.trans Ext.push
 have hn1:σ1.n=σ.n+12:=rfl
 have hn2:σ2.n=σ.n+13:=rfl
 obtain ⟨l3,σ3,a1,a2,a3,a4⟩:=tR (l:=l2) (τ:=σ2) (je:=σ1.n) h0 h1 (by lia) 9 0 (by lia) (by simp [l2,l1,Loc.put,hn]) (by simp [l2,Loc.put]) ((x1.same jn hjn).trans hg) (bR _ _)
 have e16:pF l2 σ2=some (.next,l3,σ3):=by
  rw [bLaw16_eq]
  exact lL (n:=9) (by lia) rfl a1
 have hn3:σ3.n=σ.n+13:=a2.n.trans hn2
 have Q3:Qf σ3 V1 id []:=((qI (σ:=σ) (auto:=false)).ext Ext.push).sg a2 (jB (by lia))
 have s3:l3 "small"=some (.ref V1.i):=(a4 _ (by decide)).trans (by simp [l2,l1,Loc.put,V1,newV,dS])
 have t3:l3 "eight"=some (.ref σ1.n):=(a4 _ (by decide)).trans (by simp [l2,Loc.put])
 let σ4:=σ3.push (.list (((es n0 n1).take 8).map .int))
 have cut:∀ {m:Loc} {υ:Sto},m "eight"=some (.ref σ1.n)->υ.get σ1.n=.list ((es n0 n1).map .int)->cutF true 8 (varF "eight") m υ=some (.ref υ.n,υ.push (.list (((es n0 n1).take 8).map .int))):=by
  intro m υ h h2
  refine (bnd (aB h) (bnd rfl (bnd (dG h2) (if_pos (by rw [List.length_map,es_len];decide))))).trans ?_
  rw [if_pos rfl,List.map_take]
 obtain ⟨l5,σ5,V5,H5,c1,c2,c3,c4,c5,c6,c7,c8,c9⟩:=fill_loop (n0:=n0) (n1:=n1) (j:=σ3.n) (je:=σ1.n) (l:=l3) (τ:=σ4) (V:=V1) (H:=id) (by lia) 8 0 100 (by lia) (by lia) (bR _ _) (by rw [fC (by lia)];exact a3) (Nat.lt_succ_self _) (by show σ1.n<σ3.n+1;lia)
  (jB (by lia)) (jB (by lia)) (Q3.ext Ext.push) rfl rfl rfl s3
 have e17:pE l3 σ3=some (.next,l5,σ5):=by
  rw [bLaw17_eq]
  exact evForL (cut t3 a3) c1
 have s5:l5 "small"=some (.ref V5.i):=(c9 _ (by decide)).trans (by rw [c6];exact s3)
 have t5:l5 "eight"=some (.ref σ1.n):=(c9 _ (by decide)).trans t3
 have hl9:=es_len (n0:=n0) (n1:=n1)
 have h8:8<(es n0 n1).length:=by lia
 have h3:3<(es n0 n1).length:=by lia
 have ex:∀ {k:Int} {m:Loc} (i:Nat) (hi:i<(es n0 n1).length),k=i->m "eight"=some (.ref σ1.n)->idxF (varF "eight") (kF (.int k)) m σ5=some (.int (es n0 n1)[i],σ5):=by
  intro k m i hi hk hm
  subst hk
  exact idxE hm c7 (by lia) (by lia) (by rw [Int.toNat_natCast];exact List.getElem?_eq_getElem hi)
 have m5:V5.m=8:=by unfold View.m;rw [c5]
 have in3:(es n0 n1)[3]∈(es n0 n1).take 8:=List.mem_iff_getElem.mpr ⟨3,by simp;lia,by simp⟩
 have no8:(es n0 n1)[8] ∉ (es n0 n1).take 8:=by
  intro z
  have hp:=es_nodup (n0:=n0) (n1:=n1)
  rw [<- List.take_append_drop 8 (es n0 n1),List.pairwise_append] at hp
  refine hp.2.2 _ z (es n0 n1)[8] ?_ rfl
  exact List.mem_iff_getElem.mpr ⟨0,by simp;lia,by simp⟩
 have e18:sO l5 σ5=some (.next,l5,σ5):=by
  obtain ⟨τ,V',H',b1,b2,b3,b4,b5⟩:=c2.add (lP _ (List.getElem_mem h3)) (by lia) (by rw [c3];rfl) (.inl in3)
  have hin:=kA (σ:=σ5) c2.good c2.lay c2.rep (lP _ (List.getElem_mem h3)) (l:=aJ ["self","_hash"] [.ref V5.i,.int (es n0 n1)[3]]) (by simp [aJ]) (by simp [aJ]) in3
  obtain ⟨l',hin⟩:=hin
  have g:=gV (σ:=σ5) c2.good (l:=aJ ["self","_hash"] [.ref V5.i,.int (es n0 n1)[3]]) (by simp [aJ]) (by lia)
  rw [c3] at g
  have hadd:aS [.ref V5.i,.int (es n0 n1)[3]] σ5=some (.none,σ5):=by
   have:aS [.ref V5.i,.int (es n0 n1)[3]] (qf σ5 V5)=some (.none,qf σ5 V5):=bC (l':=l') rfl (seqN (l':=aJ ["self","_hash"] [.ref V5.i,.int (es n0 n1)[3]]) (σ₁:=qf σ5 V5) ((cC g).trans rfl) hin)
   rwa [c2.isq] at this
  exact cM (iI s5 c2.inst rfl (gJ (ex 3 h3 rfl t5)) hadd)
 have r1:restr ["eight","small"] l5 "small"=some (.ref V5.i):=s5
 have r2:restr ["eight","small"] l5 "eight"=some (.ref σ1.n):=t5
 have e19:pD l5 σ5=some (.next,l5,σ5):=by
  have b1:=add_bad c2 (lP _ (List.getElem_mem h8)) no8 c3 (by rw [c4,m5];rfl)
  have hx:=evMethX (x:="add_alt") (r:="small") (b:=fI) (fa:=aA (idxF (varF "eight") (kF (.int 8))) nilL) r1 c2.inst rfl (gJ (ex 8 h8 rfl r2))
  have b2:=rM (ef:=fun _ _=>none) (hx.trans b1)
  have b3:notT (valT (refF ["eight","small"] (fun _ _=>none) (lH 467 "add_alt" fI (varF "small") (aA (idxF (varF "eight") (kF (.int 8))) nilL)))) l5 σ5=some (false,σ5):=by
   unfold notT;rw [dH b2];rfl
  have b4:=c2.check (lP _ (List.getElem_mem h8))
  rw [show decide ((es n0 n1)[8]∈(es n0 n1).take 8)=false from decide_eq_false no8] at b4
  have b5:=dH (iI (x:="check_alt") (g:=aX) s5 c2.inst rfl (gJ (ex 8 h8 rfl t5)) b4)
  unfold pD
  exact (cC (jM (.cons b3 (.cons b5 .nil)))).trans rfl
 have e20:∃ σ6,sN l5 σ5=some (.ret (.bool true),l5,σ6):=by
  let σ6:=σ5.push (.list (((es n0 n1).take 8).map .int))
  have hc:=compE (l:=l5) (σ:=σ5) (x:="code") (fr:=["small"]) (it:=cutF true 8 (varF "eight")) (t:=notT (valT (aF 467 "check_alt" aX (varF "small") (aA (varF "code") nilL)))) (e:=varF "code") (p:=fun _=>false) (f:=id) (cut t5 c7) (bR _ _) (Nat.lt_succ_self _)
   (fun m d acc hm hd hx=>by
    have hs:m "small"=some (.ref V5.i):=by rw [hm "small" (by decide)];exact s5
    have Q6:Qf (σ6.push (.list acc)) V5 H5 ((es n0 n1).take 8):=(c2.ext Ext.push).ext Ext.push
    have hck:=Q6.check (Q6.codes d hd)
    rw [show decide (d∈(es n0 n1).take 8)=true from decide_eq_true hd] at hck
    have:=dH (iI (x:="check_alt") (g:=aX) hs Q6.inst rfl (gJ (aB hx)) hck)
    unfold notT
    rw [this];rfl)
   (fun m d acc hm hd hx=>aB hx) (by simp;lia)
  have hf:(((es n0 n1).take 8).filter fun _=>false)=[]:=List.filter_eq_nil_iff.mpr fun _ _=>by simp
  rw [hf] at hc
  have hc:_=some (Val.ref σ6.n,σ6.push (.list [])):=hc
  let σ7:=σ6.push (.list [])
  have hl:gT nilL l5 σ7=some (.ref σ7.n,σ7.push (.list [])):=rfl
  have g1:(σ7.push (.list [])).get σ6.n=.list []:=by rw [fC (by show σ6.n≠σ6.n+1;lia)];exact bR _ _
  have g2:(σ7.push (.list [])).get σ7.n=.list []:=bR _ _
  have g3:eqLV false (.ref σ6.n) (.ref σ7.n) (σ7.push (.list []))=some true:=bnd rfl (bnd rfl (bnd (dG g1) (bnd (dG g2) rfl)))
  exact ⟨σ7.push (.list []),eX (bnd hc (bnd hl (mp_ g3 rfl)))⟩
 obtain ⟨σ6,e20⟩:=e20
 exact ⟨l5,σ6,seqN e14 (seqN e15 (seqN e16 (seqN e17 (seqN e18 (seqN e19 e20)))))⟩
end
section
variable {σ τ:Sto} {V W:View} {H K:Int->Int} {l:Loc} {S T:List Int} {g:Bool} {i1 i2 jo jh jn:Nat} {room used:Int} {P:List (Nat×List Int)} {num:List Int} {n0 n1:Int}
theorem Sg.swap (G:Sg τ W V K H T S jo T P):Sg (τ.push (.list [])) V W H K S T τ.n [] ((jo,T) :: P):=by
 have G':=G.ext (τ:=τ.push (.list [])) Ext.push
 have h1:=G.q1.hi
 have h2:=G.q1.hb
 have h3:=G.q2.hi
 have h4:=G.q2.hb
 refine ⟨G'.q2,G'.q1,G.sep.symm,bR _ _,Nat.lt_succ_self _,by unfold own;lia,by unfold own;lia,fun p hp=>?_⟩
 rcases List.mem_cons.mp hp with rfl | hp
 ·exact ⟨G'.gh,G'.lh,G.ow,G.ov,by have:=G.lh;dsimp only;lia⟩
 ·obtain ⟨p1,p2,p3,p4,p5⟩:=G'.gp p hp
  obtain ⟨_,q2,_⟩:=G.gp p hp
  exact ⟨p1,p2,p4,p3,by lia⟩
theorem setup_ok (h0:num[0]?=some n0) (h1:num[1]?=some n1) (p0:0<=n0) (p1:0<=n1) (hl:l "numbers"=some (.ref jn)) (hg:σ.get jn=.list (num.map .int)) (hjn:jn<σ.n) :
  ∃ l' σ' V W K T jo jh,(∀ {X:SF} {r:Option (Fl×Loc×Sto)},X l' σ'=r->seqB bLaw1 (seqB bLaw2 (seqB bLaw3 (seqB bLaw4 (seqB bLaw5 (seqB bLaw6 (seqB bLaw7 (seqB bLaw8 (seqB bLaw9 X)))))))) l σ=r)/\
   LS (n0%2 == 1) V.i W.i jo jh jn 8 0 l'/\SSt (n0%2 == 1) 0 σ' V W id K [] T jh [(jo,T),(jn,num)] 8 0:=by
 let g:Bool:=n0%2 == 1
 let l1:=l.put "letters" (.str lettersS)
 have e1:bLaw1 l σ=some (.next,l1,σ):=aT rfl
 let l2:=l1.put "grows" (.bool g)
 have e2:bLaw2 l1 σ=some (.next,l2,σ):=by
  refine aT ?_
  unfold cmpF
  rw [iP (idxE (k:=0) (show l1 "numbers"=some (.ref jn) by simp [l1,Loc.put,hl]) hg (by lia) (by lia) h0) (by lia)]
  rfl
 let σ1:=newS g 485 σ
 let V1:=newV g 485 σ
 let l3:=l2.put "one" (.ref σ.n)
 have e3:bLaw3 l2 σ=some (.next,l3,σ1):=aT (newE (args3 rfl (aB rfl) rfl))
 let σ2:=newS true 485 σ1
 let V2:=newV true 485 σ1
 let l4:=l3.put "second" (.ref σ1.n)
 have e4:bLaw4 l3 σ1=some (.next,l4,σ2):=aT (newE rfl)
 let σ3:=σ2.push (.list [])
 let l5:=l4.put "others" (.ref σ2.n)
 have e5:bLaw5 l4 σ2=some (.next,l5,σ3):=aT rfl
 have n1':σ1.n=σ.n+12:=rfl
 have n2':σ2.n=σ.n+24:=rfl
 have n3':σ3.n=σ.n+25:=rfl
 have x1:Ext σ σ1:=newS_ext
 have x2:Ext σ1 σ2:=newS_ext
 have x3:Ext σ2 σ3:=Ext.push
 have G3:Sg σ3 V2 V1 id id [] [] σ2.n [] [(jn,num)]:=by
  refine ⟨(qI (σ:=σ1) (auto:=true)).ext x3,((qI (σ:=σ) (auto:=g)).ext x2).ext x3,fun k hk hk2=>?_,bR _ _,Nat.lt_succ_self _,jB (by lia),jB (by lia),fun p hp=>?_⟩
  ·have hk:k=σ1.n\/(σ1.n+1<=k/\k<=σ1.n+1+10):=hk
   have hk2:k=σ.n\/(σ.n+1<=k/\k<=σ.n+1+10):=hk2
   lia
  ·rw [List.mem_singleton] at hp
   subst hp
   exact ⟨(((x1.trans x2).trans x3).same jn hjn).trans hg,by dsimp only;lia,rS (by dsimp only;lia),rS hjn,by dsimp only;lia⟩
 obtain ⟨c,hc⟩:∃ c:Nat,(c:Int)=n0 / 2%6:=⟨(n0 / 2%6).toNat,by lia⟩
 have l5n:l5 "numbers"=some (.ref jn):=by simp [l5,l4,l3,l2,l1,Loc.put,hl]
 have g3:=(G3.gp (jn,num) (.head _)).1
 obtain ⟨l6,σ6,V6,H6,T,b1,b2,b3,b4,b5,b6⟩:=sec_loop (jn:=jn) (W:=V1) (K:=id) (P:=[(jn,num)]) h0 h1 p1 (.head _) c 0 l5 σ3 V2 id [] (by lia) G3 rfl (by show (0:Int)<=_;lia) (fun _=>by show (0:Int)<=7;lia) l5n (by simp [l5,l4,Loc.put,V2,newV,dS]) (by simp [l5,Loc.put])
 have e6:bLaw6 l5 σ3=some (.next,l6,σ6):=by
  rw [bLaw6_eq]
  refine lL (n:=c) (by lia) ?_ b1
  rw [hc]
  exact gJ (iP (evDiv (idxE l5n g3 (by lia) (by lia) h0) (by lia)) (by lia))
 let l7:=l6.put "held" (.ref σ6.n)
 let σ7:=σ6.push (.list [])
 have e7:bLaw7 l6 σ6=some (.next,l7,σ7):=aT rfl
 have G7:Sg σ7 V1 V6 id H6 [] T σ6.n [] [(σ2.n,T),(jn,num)]:=b2.swap
 let l8:=l7.put "room" (.int 8)
 let l9:=l8.put "used" (.int 0)
 have tl:T.length<=5:=by have:=b2.q1.n0;lia
 have hle:=sT (S:=[]) (T:=T)
 refine ⟨l9,σ7,V1,V6,H6,T,σ2.n,σ6.n,fun hX=>seqN e1 (seqN e2 (seqN e3 (seqN e4 (seqN e5 (seqN e6 (seqN e7 (seqN (aT rfl) (seqN (aT rfl) hX)))))))),?_,⟨G7,rfl,tl,?_,fun _=>⟨rfl,rfl,?_⟩,fun _=>⟨Int.le_refl _,fun _=>⟨rfl,?_⟩,fun q=>?_⟩⟩⟩
 ·have old:∀ y,y ≠ "at"->y ≠ "code"->y ≠ "held"->y ≠ "room"->y ≠ "used"->l9 y=l5 y:=fun y y1 y2 y3 y4 y5=>by
   show (if y = "used" then _ else if y = "room" then _ else if y = "held" then _ else l6 y)=_
   rw [if_neg y5,if_neg y4,if_neg y3]
   exact b6 y y1 y2
  have o:=fun y (h:y ∉ ["at","code","held","room","used"])=>old y (fun q=>h (by rw [q];decide)) (fun q=>h (by rw [q];decide)) (fun q=>h (by rw [q];decide)) (fun q=>h (by rw [q];decide)) (fun q=>h (by rw [q];decide))
  refine ⟨(o _ (by decide)).trans ?_,(o _ (by decide)).trans ?_,(o _ (by decide)).trans ?_,(o _ (by decide)).trans ?_,rfl,(o _ (by decide)).trans ?_,rfl,rfl,(o _ (by decide)).trans l5n⟩
  ·simp [l5,l4,l3,l2,Loc.put,g]
  ·simp [l5,l4,l3,Loc.put,V1,newV,dS]
  ·rw [b5];simp [l5,l4,Loc.put,V2,newV,dS]
  ·simp [l5,Loc.put]
  ·simp [l5,l4,l3,l2,l1,Loc.put]
 ·simp only [List.length_nil] at hle
  show (0:Int)+(cI [] T).length - ((0:Nat):Int)<=5+((0:Nat):Int)
  lia
 ·show (0:Int)<((2 ^ 3:Nat):Int);decide
 ·show (0:Int)<=7;lia
 ·have:(3:Nat)=4:=q;lia
noncomputable def tScan:SF:=(ifS (cmpT .NotEq (aF 467 "check_alt" aX (varF "one") (aA (fnF aY (aA (varF "at") nilL)) nilL)) (inF false (fnF aY (aA (varF "at") nilL)) (varF "held"))) (retS (kF (.bool false))) nilB)
theorem bLaw11_eq:pI=(jF "at" (aA (binF .Mod (idxF (varF "numbers") (kF (.int 1))) (kF (.int 3))) (aA (kF (.int 24)) (aA (kF (.int 3)) nilL))) tScan):=rfl
theorem scan_loop (Q:Qf σ V H S) (hj:σ.get jh=.list (S.map .int)):∀ (n:Nat) (v:Int) (l:Loc),0<=v->v+3*n<=26->l "one"=some (.ref V.i)->l "held"=some (.ref jh)->∃ l',forR "at" tScan n v 3 l σ=some (.next,l',σ)/\∀ y,y ≠ "at"->l' y=l y:=by
 intro n
 induction n with
 | zero=>intro v l _ _ _ _;exact ⟨l,rfl,fun _ _=>rfl⟩
 | succ n ih=>
  intro v l h0 h1 l1 l2
  let m:=l.put "at" (.int v)
  have m1:m "one"=some (.ref V.i):=by simp [m,Loc.put,l1]
  have m2:m "held"=some (.ref jh):=by simp [m,Loc.put,l2]
  have m3:m "at"=some (.int v):=by simp [m,Loc.put]
  have hc:=codeE (σ:=σ) (aB m3) h0 (by lia)
  have h2:=iI (x:="check_alt") (g:=aX) m1 Q.inst rfl (gJ hc) (Q.check (lJ h0 (by lia)))
  have h3:=inFE (neg:=false) hc (aB m2) hj
  have h4:=cmpE (op:=.NotEq) (c:=false) h2 h3 (by
   show some (decide (code v∈S) != (decide (code v∈S) != false))=_
   simp)
  have hb:tScan m σ=some (.next,m,σ):=(cC h4).trans rfl
  obtain ⟨l',a1,a2⟩:=ih (v+3) m (by lia) (by lia) m1 m2
  refine ⟨l',?_,fun y hy=>(a2 y hy).trans (by simp [m,Loc.put,hy])⟩
  show (tScan m σ).bind _=_
  rw [hb]
  exact a1
theorem range3:∀ s:Fin 3,Builtin.Range.small (s.val:Int) 24 3=true/\Builtin.Range.rangeSize (s.val:Int) 24 3=8:=by decide +kernel
theorem qM {x:String} {f:LF} {b:SF} {s:Int} {r:Option (Fl×Loc×Sto)} (h0:0<=s) (h3:s<3) (hf:f l τ=some ([.int s,.int 24,.int 3],τ)) (hr:forR x b 8 s 3 l τ=r):jF x f b l τ=r:=by
 obtain ⟨e1,e2⟩:=range3 ⟨s.toNat,by lia⟩
 dsimp only at e1 e2
 rw [Int.toNat_of_nonneg h0] at e1 e2
 unfold jF
 rw [hf,Option.bind_some]
 have hv:rngV [.int s,.int 24,.int 3]=some (s,24,3):=rfl
 simp only [hv,Option.bind_some,e1,if_true,e2]
 exact hr
theorem post_ok {t:Nat} (h0:num[0]?=some n0) (h1:num[1]?=some n1) (ht:t<=9) (ls:LS g V.i i2 jo jh jn room used l) (s:SSt g t σ V W H K S T jh P room used) (hp:(jn,num)∈P) :
  ∃ l' σ',(∀ {X:SF} {r:Option (Fl×Loc×Sto)},X l' σ'=r->seqB pI (seqB pH (seqB pG X)) l σ=r)/\l' "numbers"=some (.ref jn)/\σ'.get jn=.list (num.map .int)/\jn<σ'.n:=by
 have Q:=s.sg.q1
 obtain ⟨gn,ln,_⟩:=s.sg.gp _ hp
 obtain ⟨l1,a1,a2⟩:=scan_loop Q s.sg.gh 8 (n1%3) l (by lia) (by lia) ls.one ls.held
 have e11:pI l σ=some (.next,l1,σ):=by
  rw [bLaw11_eq]
  exact qM (s:=n1%3) (by lia) (by lia) (args3 (iP (idxE ls.numbers gn (by lia) (by lia) h1) (by lia)) rfl rfl) a1
 have m1:l1 "one"=some (.ref V.i):=(a2 _ (by decide)).trans ls.one
 have m2:l1 "held"=some (.ref jh):=(a2 _ (by decide)).trans ls.held
 have m3:l1 "numbers"=some (.ref jn):=(a2 _ (by decide)).trans ls.numbers
 let σ1:=newS true 492 σ
 have x1:Ext σ σ1:=newS_ext
 have r1:restr ["one"] l1 "one"=some (.ref V.i):=m1
 have b1:lH 467 "merge" gR (varF "one") (aA (newF 467 fU (aA (kF (.int 3)) (aA (kF (.bool true)) (aA (kF (.fn 492)) nilL)))) nilL) (restr ["one"] l1) σ=some σ1:=by
  have hm:getF V.fs "merge"=none:=rfl
  have hnew:=newE (σ:=σ) (l:=restr ["one"] l1) (auto:=true) (hf:=492) (fa:=(aA (kF (.int 3)) (aA (kF (.bool true)) (aA (kF (.fn 492)) nilL)))) rfl
  refine bnd (aB r1) (bnd rfl (bnd (eR Q.inst) (bnd (lG hm) ?_)))
  unfold aA nilL
  rw [show newF 467 fU (fun l σ=>(kF (.int 3) l σ).bind fun a=>Option.map (fun b=>(a.1 :: b.1,b.2)) (((fun l σ=>(kF (.bool true) l σ).bind fun a=>Option.map (fun b=>(a.1 :: b.1,b.2)) (((fun l σ=>(kF (.fn 492) l σ).bind fun a=>Option.map (fun b=>(a.1 :: b.1,b.2)) ((fun _ σ=>some ([],σ)) l a.2))) l a.2))) l a.2)) (restr ["one"] l1) σ=_ from hnew]
  simp only [Option.bind_some,Option.map_some]
  exact merge_bad ((Q.ext x1).inst) newS_inst (by rw [nH,Q.hf]) rfl
 have b2:notT (valT (refF ["one"] (fun _ _=>none) (lH 467 "merge" gR (varF "one") (aA (newF 467 fU (aA (kF (.int 3)) (aA (kF (.bool true)) (aA (kF (.fn 492)) nilL)))) nilL)))) l1 σ=some (false,σ1):=by
  unfold notT;rw [dH (rM b1)];rfl
 obtain ⟨σ2,x2,b3⟩:=iM (l:=l1) (x:="one") (y:="held") (Q.ext x1) (s.lt ht) m1 m2 ((s.sg.ext x1).gh) ((s.sg.ext x1).lh)
 have e12:pH l1 σ=some (.next,l1,σ2):=by
  unfold pH
  refine (cC (σ':=σ2) ?_).trans rfl
  simp only [orT,b2,b3,Option.bind_some]
  rfl
 have nb:∀ {k:Int} {υ:Sto},k=2\/k=32->notT (valT (refF [] (fun _ _=>none) (newX 467 iC (aA (kF (.int k)) nilL)))) l1 υ=some (false,υ.push (.inst 467 [])):=by
  intro k υ hk
  have:newX 467 iC (aA (kF (.int k)) nilL) (restr [] l1) υ=some (υ.push (.inst 467 [])):=by
   unfold newX
   rw [gJ (f:=kF (.int k)) (v:=.int k) rfl]
   exact init_bad hk
  unfold notT;rw [dH (rM this)];rfl
 let σ3:=(σ2.push (.inst 467 [])).push (.inst 467 [])
 have e13:pG l1 σ2=some (.next,l1,σ3):=by
  unfold pG
  refine (cC (σ':=σ3) ?_).trans rfl
  simp only [orT,nb (.inl rfl),nb (.inr rfl),Option.bind_some]
  rfl
 have x3:Ext σ σ3:=((x1.trans x2).trans Ext.push).trans Ext.push
 have hn3:=x3.n
 exact ⟨l1,σ3,fun hX=>seqN e11 (seqN e12 (seqN e13 hX)),m3,(x3.same jn ln).trans gn,Nat.lt_of_lt_of_le ln hn3⟩
theorem law_ok {sa:Addr} {sn:List Int} (hs:l "script"=some (.fn sa)):∃ l' σ',bLaw sa sn l σ=some (.ret (.bool true),l',σ'):=by
 have hlen:=num_len (sn:=sn)
 obtain ⟨n0,h0⟩:∃ n0,(kI sn)[0]?=some n0:=⟨_,List.getElem?_eq_getElem (by lia)⟩
 obtain ⟨n1,h1⟩:∃ n1,(kI sn)[1]?=some n1:=⟨_,List.getElem?_eq_getElem (by lia)⟩
 have p0:=qH n0 (List.mem_of_getElem? h0)
 have p1:=qH n1 (List.mem_of_getElem? h1)
 have e0:=bLaw0_ok (sn:=sn) (σ:=σ) hs
 obtain ⟨l1,σ1,V,W,K,T,jo,jh,f1,ls,s⟩:=setup_ok (σ:=(((σ.push (.list ((sn.take 8).map .int))).push (.list (((sn.take 8).map (·%1000003)).map .int))).push (.list ([1,29,56].map .int))).push (.list ((kI sn).map .int))) (jn:=σ.n+3) (l:=l.put "numbers" (.ref (σ.n+3))) h0 h1 p0 p1 (by simp [Loc.put]) (bR _ _) (Nat.lt_succ_self _)
 let xs:=(kI sn).drop 2
 have hxl:xs.length<=9:=by simp [xs];lia
 have gn:=(s.sg.gp (σ.n+3,kI sn) (.tail _ (.head _))).1
 have hcut:cutF false 2 (varF "numbers") l1 σ1=some (.ref σ1.n,σ1.push (.list (xs.map .int))):=by
  refine (bnd (aB ls.numbers) (bnd rfl (bnd (dG gn) (if_pos (by rw [List.length_map];lia))))).trans ?_
  rw [if_neg (by decide),List.map_drop]
 obtain ⟨l2,σ2,V2,H2,S2,jh2,room2,used2,f2,ls2,s2⟩:=loop_ok (xs:=xs) (fun x hx=>qH x (List.mem_of_mem_drop hx)) hxl (.head _) (.tail _ (.head _)) xs.length 0 100 l1 (σ1.push (.list (xs.map .int))) V id [] jh 8 0 (by lia) (by lia) ls (s.more xs)
 have e10:sR l1 σ1=some (.next,l2,σ2):=by
  unfold sR kK
  rw [hcut]
  exact f2
 obtain ⟨l3,σ3,f3,m1,m2,m3⟩:=post_ok h0 h1 (by lia) ls2 s2 (.tail _ (.tail _ (.head _)))
 obtain ⟨l4,σ4,f4⟩:=small_ok h0 h1 m1 m2 m3
 refine ⟨l4,σ4,?_⟩
 unfold bLaw
 exact seqN e0 (f1 (seqN e10 (f3 f4)))
end
end
section
open PySem PySem.W PySem.Calls PyProof.Rows
theorem leftO {p v:Program} {loose:List Str} {Xt:Shared->Bool} {α:Type} {Yf:Shared->α} {Ya:World->α} {N:Nat} {g0:Bool} {H:Params->Heap} {d:Drawn} {k m:Nat} {ann:Option Value} {n1 n2 n3 n4:Nat} {sa:World->OsState->Shared} {sc:World->OsState->SharedT} {b:List Stmt} {env:Env} {c:Code} {pos pos' q:Pos}
  (op:∀ w:World,(fencedOpening treeTable p w N).map (fun s=>(s.heap,s.gens,s.drawn,s.toks))=some (H w.params,#[],d,k))
  (size:∀ w:World,((H w.params).isNs mainGlobals,(H w.params).objs.size,(H w.params).nsMap mainGlobals "__annotations__")=(true,m,ann))
  (r1:∀ w os,topGo treeTable p w m ann n1 ⟨H w.params,#[],d,k,os⟩ (topStub p)=some (sa w os,⟨denote treeTable (.body b env),c,pos,[topFrame q]⟩))
  (r2:∀ w os,segRun treeTable p w m ann 1 n2 (sa w os) (blockOf b env c pos [topFrame q])=some (.next,(sc w os).abs,c,pos'))
  (r3:∀ w os,(segRunT treeTable p w m ann 1 n3 (sc w os) (piecesOf b env c pos' [topFrame q])).bind (fun x=>(topRun treeTable p w m ann n4 x.2.1.abs ⟨doneF .next,x.2.2.1,x.2.2.2,[topFrame q]⟩).map fun s=>(x.1,x.2.2.1,
   ((staticsOk (importedModules p.main.body) (H w.params) s.heap && namesBound p s.heap && gensDone s && laidKept (H w.params) s.heap),openSeen v loose (importedModules p.main.body) Xt g0 s,Yf s)))=some (.next,c,true,openGood v loose,Ya w))
  (le:n1+(n2+(n3+n4))<=N):LeftO p v loose Xt Yf Ya N g0:=fun w=>by
 obtain ⟨⟨h,gs,d',k',os⟩,e,e'⟩:=omx (op w)
 obtain ⟨rfl,rfl,rfl,rfl⟩:h=H w.params/\gs=#[]/\d'=d/\k'=k:=by simpa using e'
 obtain ⟨⟨f,s,c',q'⟩,e1,e2⟩:=obx (r3 w os)
 obtain ⟨s1,e3,e4⟩:=omx e2
 obtain ⟨e7,e8⟩:=Prod.mk.inj e4
 obtain ⟨e9,e8⟩:=Prod.mk.inj e8
 obtain ⟨l1,e5⟩:=Prod.mk.inj e8
 obtain rfl:f=.next:=e7
 obtain rfl:c'=c:=e9
 have e6:=segRun_of e1
 rw [<- List.append_nil b] at e6
 have a:=piece_app (rest:=[]) (by rw [List.append_nil] at e6;exact e6) (piece_nil e3)
 rw [List.append_nil] at a
 have r:=topRun_mono (N - (n1+(n2+(n3+n4)))) _ _ _ _ (go_top (r1 w os) (piece_block (r2 w os) a))
 rw [Nat.add_sub_cancel' le] at r
 obtain ⟨z1,z2⟩:=Prod.mk.inj (size w)
 obtain ⟨z2,z3⟩:=Prod.mk.inj z2
 have t:topFrom treeTable p w N ⟨H w.params,#[],d',k',os⟩=some s1:=by
  unfold topFrom
  dsimp only
  rw [z1,z2,z3,r]
  show (match staticsOk (importedModules p.main.body) (H w.params) s1.heap && namesBound p s1.heap && gensDone s1 && laidKept (H w.params) s1.heap with | true=>_ | false=>_)=_
  rw [l1]
 unfold openEnds
 rw [e]
 show (topFrom treeTable p w N _).map _=_
 rw [t]
 exact congrArg some e5
noncomputable abbrev p0:Program:=PySem.Challenge.rw_kg0023_01.row.toRowW.prog
noncomputable abbrev cl0:Program:=view p0 [16]
noncomputable abbrev lo0:List Str:=["_wall","ProbablesBaseException","QuotientFilterError","UINT32_T_MAX","fnv_1a_32","Bitarray","QuotientFilter","_law_code","_law_hash","_law_other","_law_refused"]
noncomputable abbrev xt0:Shared->Bool:=fun s=>xlAt cl0 [] s && recOk (RowW.records PySem.Challenge.rw_kg0023_01.row.toRowW) s
noncomputable def env0:Env:={ scope:=p0.main.scope,locals:=mainNs,globals:=mainNs,cells:=[],code:=.ref 13,frame:=some 14 }
noncomputable abbrev cd0:Code:=.body (behindTheImports p0) env0
noncomputable abbrev ps0:Pos:=⟨0,0,0,0⟩
noncomputable abbrev an0:Option Value:=some (.ref 6)
noncomputable abbrev b0:List Frame:=[topFrame ps0]
noncomputable def st0 (w:World) (os:OsState):Shared:=⟨boot_heap w.params,#[],boot_drawn,boot_toks,os⟩
noncomputable def treeL:List Obj->Nat->BT->BT
 | [],_,t=>t
 | o :: l,n,t=>treeL l (n+1) (t.ins n o)
noncomputable def sa0 (w:World) (os:OsState):Shared:=match topGo treeTable p0 w 11 an0 12 (st0 w os) (topStub p0) with | some x=>x.1 | none=>st0 w os
noncomputable def sb0 (w:World) (os:OsState):Shared:=match segRun treeTable p0 w 11 an0 1 1 (sa0 w os) (blockOf (behindTheImports p0) env0 cd0 ps0 b0) with | some x=>x.2.1 | none=>st0 w os
noncomputable def sc0 (w:World) (os:OsState):SharedT:=⟨treeL (sb0 w os).heap.objs.toList 0 .nil,15,(sb0 w os).heap.life,#[],(sb0 w os).drawn,187,os⟩
theorem run1 (w:World) (os:OsState):topGo treeTable p0 w 11 an0 12 (st0 w os) (topStub p0)=some (sa0 w os,⟨denote treeTable (.body (behindTheImports p0) env0),cd0,ps0,b0⟩):=by kernel_rfl
theorem run2 (w:World) (os:OsState):segRun treeTable p0 w 11 an0 1 1 (sa0 w os) (blockOf (behindTheImports p0) env0 cd0 ps0 b0)=some (.next,(sc0 w os).abs,cd0,ps0):=by kernel_rfl
noncomputable def cB (i:Nat):List Stmt:=match p0.main.body[i]? with | some (.ClassDef _ _ _ b ..)=>b | _=>[]
noncomputable def fO (l:List Stmt) (j:Nat) (q m:Str) (t c:Nat) (d:Value) (cl:List (Str×Addr)) (ct:Value):Obj:=match l[j]? with
 | some (.FunctionDef n ps b _ _ _ sc ..)=>⟨.type "function",.none,.func { name:=n,qualname:=q,params:=ps,body:=.stmts b,scope:=sc,globals:=3,closure:=cl,defaults:=d,kwdefaults:=.none,pyModule:=.str m t,code:=.ref c,closureTuple:=ct },#[]⟩
 | _=>⟨.none,.none,.fields #[],#[]⟩
noncomputable def cO (n q:Str) (t:Nat) (l:List Value):Obj:=⟨.type "code",.none,.fields ((.str n t :: .str q (t+1) :: .str "/claim/cut.py" (t+2) :: l).toArray),#[]⟩
noncomputable def dE (P:Params) (x:Str) (t:Nat) (v:Value):DictEntry:={ hash:=PyData.keyHash P x,key:=.str x t,val:=v }
noncomputable def dO (c:Value) (es:Array DictEntry) (n:Nat):Obj:=⟨c,.none,.dict es n,#[]⟩
noncomputable def K0 (P:Params):Frag:=[(2,dO (.none) #[dE P "type.__subclasses__.Exception.0" 230 (.int 47 0),dE P "type.__subclasses__.Exception.n" 231 (.int 1 0)] 2),
 (3,dO (.type "dict") #[dE P "__name__" 165 (.str "law_kg0023_01" 796),dE P "__doc__" 166 (.none),dE P "__package__" 167 (.none),dE P "__loader__" 168 (.builtin "__main__.__loader__#opaque"),dE P "__spec__" 169 (.none),dE P "__annotations__" 170 (.ref 6),dE P "__builtins__" 171 (.ref 4),dE P "__file__" 173 (.str "/claim/cut.py" 172),dE P "__cached__" 174 (.none),dE P "_wall" 193 (.ref 21),dE P "ProbablesBaseException" 233 (.ref 47),dE P "QuotientFilterError" 260 (.ref 69),dE P "UINT32_T_MAX" 262 (.int 4294967295 261),dE P "fnv_1a_32" 277 (.ref 79),dE P "Bitarray" 407 (.ref 183),dE P "QuotientFilter" 795 (.ref 467),dE P "_law_code" 804 (.ref 478),dE P "_law_hash" 812 (.ref 485),dE P "_law_other" 820 (.ref 492),dE P "_law_refused" 827 (.ref 499),dE P "law" 833 (.ref 504)] 21),
 (25,⟨.type "cell",.none,.cell (some (.ref 47)),#[]⟩),
 (36,cO "__init__" "ProbablesBaseException.__init__" 208 [.int 7 0,.int 2 0,.int 0 0,.int 0 0,.int 3 0,.ref 31,.bool true,.int 181 0,.ref 32,.none,.ref 33,.ref 34,.ref 35,.int 214 0,.int 7 0,.str "/claim/cut.py" 215]),
 (37,fO (cB 2) 0 "ProbablesBaseException.__init__" "probables.exceptions" 194 36 .none [("__class__",25)] (.ref 30)),
 (46,dO (.type "dict") #[dE P "__module__" 203 (.str "probables.exceptions" 194),dE P "__firstlineno__" 207 (.int 5 206),dE P "__init__" 216 (.ref 37),dE P "__str__" 223 (.ref 44),dE P "__static_attributes__" 225 (.ref 45),dE P "__weakref__" 228 (.ref 48),dE P "__doc__" 229 (.none)] 4),
 (47,⟨.type "type",.none,.cls { name:="ProbablesBaseException",bases:=[.type "Exception"],mro:=[.ref 47,.type "Exception",.type "BaseException",.type "object"],ns:=46,qualname:="ProbablesBaseException",subclasses:=[.ref 69] },#[some (.ref 22),none,some (.str "ProbablesBaseException" 196),some (.str "ProbablesBaseException" 204),some (.builtin "Exception.__new__"),some (.bool true)]⟩),
 (54,⟨.type "cell",.none,.cell (some (.ref 69)),#[]⟩),
 (65,cO "__init__" "QuotientFilterError.__init__" 246 [.int 15 0,.int 2 0,.int 0 0,.int 0 0,.int 3 0,.ref 60,.bool true,.int 181 0,.ref 61,.none,.ref 62,.ref 63,.ref 64,.int 252 0,.int 15 0,.str "/claim/cut.py" 253]),
 (66,fO (cB 3) 0 "QuotientFilterError.__init__" "probables.exceptions" 194 65 .none [("__class__",54)] (.ref 59)),
 (68,dO (.type "dict") #[dE P "__module__" 241 (.str "probables.exceptions" 194),dE P "__firstlineno__" 245 (.int 13 244),dE P "__init__" 254 (.ref 66),dE P "__static_attributes__" 256 (.ref 67),dE P "__doc__" 258 (.none)] 3),
 (69,⟨.type "type",.none,.cls { name:="QuotientFilterError",bases:=[.ref 47],mro:=[.ref 69,.ref 47,.type "Exception",.type "BaseException",.type "object"],ns:=68,qualname:="QuotientFilterError" },#[some (.ref 51),none,some (.str "QuotientFilterError" 234),some (.str "QuotientFilterError" 242),some (.builtin "Exception.__new__"),some (.bool true)]⟩),
 (92,cO "__init__" "Bitarray.__init__" 292 [.int 32 0,.int 2 0,.int 0 0,.int 0 0,.int 3 0,.ref 87,.bool true,.int 181 0,.ref 88,.none,.ref 89,.ref 90,.ref 91,.int 297 0,.int 32 0,.str "/claim/cut.py" 298]),
 (93,fO (cB 8) 0 "Bitarray.__init__" "probables.utilities" 278 92 .none [] .none),
 (107,cO "size" "Bitarray.size" 308 [.int 45 0,.int 1 0,.int 0 0,.int 0 0,.int 3 0,.ref 102,.bool true,.int 181 0,.ref 103,.none,.ref 104,.ref 105,.ref 106,.int 312 0,.int 45 0,.str "/claim/cut.py" 313]),
 (108,fO (cB 8) 2 "Bitarray.size" "probables.utilities" 278 107 .none [] .none),
 (109,⟨.type "property",.none,.fields #[.ref 108,.none,.none,.none,.str "size" 315,.bool false],#[]⟩),
 (115,cO "bitarray" "Bitarray.bitarray" 316 [.int 49 0,.int 1 0,.int 0 0,.int 0 0,.int 3 0,.ref 110,.bool true,.int 181 0,.ref 111,.none,.ref 112,.ref 113,.ref 114,.int 320 0,.int 49 0,.str "/claim/cut.py" 321]),
 (116,fO (cB 8) 3 "Bitarray.bitarray" "probables.utilities" 278 115 .none [] .none),
 (117,⟨.type "property",.none,.fields #[.ref 116,.none,.none,.none,.str "bitarray" 323,.bool false],#[]⟩),
 (123,cO "__getitem__" "Bitarray.__getitem__" 324 [.int 53 0,.int 2 0,.int 0 0,.int 0 0,.int 3 0,.ref 118,.bool true,.int 181 0,.ref 119,.none,.ref 120,.ref 121,.ref 122,.int 329 0,.int 53 0,.str "/claim/cut.py" 330]),
 (124,fO (cB 8) 4 "Bitarray.__getitem__" "probables.utilities" 278 123 .none [] .none),
 (130,cO "__setitem__" "Bitarray.__setitem__" 332 [.int 56 0,.int 3 0,.int 0 0,.int 0 0,.int 3 0,.ref 125,.bool true,.int 181 0,.ref 126,.none,.ref 127,.ref 128,.ref 129,.int 339 0,.int 56 0,.str "/claim/cut.py" 340]),
 (131,fO (cB 8) 5 "Bitarray.__setitem__" "probables.utilities" 278 130 .none [] .none),
 (137,cO "check_bit" "Bitarray.check_bit" 342 [.int 67 0,.int 2 0,.int 0 0,.int 0 0,.int 3 0,.ref 132,.bool true,.int 181 0,.ref 133,.none,.ref 134,.ref 135,.ref 136,.int 347 0,.int 67 0,.str "/claim/cut.py" 348]),
 (138,fO (cB 8) 6 "Bitarray.check_bit" "probables.utilities" 278 137 .none [] .none),
 (158,cO "clear_bit" "Bitarray.clear_bit" 366 [.int 78 0,.int 2 0,.int 0 0,.int 0 0,.int 3 0,.ref 153,.bool true,.int 181 0,.ref 154,.none,.ref 155,.ref 156,.ref 157,.int 372 0,.int 78 0,.str "/claim/cut.py" 373]),
 (159,fO (cB 8) 9 "Bitarray.clear_bit" "probables.utilities" 278 158 .none [] .none),
 (165,cO "clear" "Bitarray.clear" 375 [.int 84 0,.int 1 0,.int 0 0,.int 0 0,.int 3 0,.ref 160,.bool true,.int 181 0,.ref 161,.none,.ref 162,.ref 163,.ref 164,.int 380 0,.int 84 0,.str "/claim/cut.py" 381]),
 (166,fO (cB 8) 10 "Bitarray.clear" "probables.utilities" 278 165 .none [] .none),
 (182,dO (.type "dict") #[dE P "__module__" 287 (.str "probables.utilities" 278),dE P "__firstlineno__" 291 (.int 30 290),dE P "__init__" 299 (.ref 93),dE P "size_bytes" 307 (.ref 101),dE P "size" 315 (.ref 109),dE P "bitarray" 323 (.ref 117),dE P "__getitem__" 331 (.ref 124),dE P "__setitem__" 341 (.ref 131),dE P "check_bit" 349 (.ref 138),dE P "is_bit_set" 357 (.ref 145),dE P "set_bit" 365 (.ref 152),dE P "clear_bit" 374 (.ref 159),dE P "clear" 382 (.ref 166),dE P "as_string" 389 (.ref 173),dE P "num_bits_set" 396 (.ref 180),dE P "__static_attributes__" 400 (.ref 181),dE P "__dict__" 402 (.ref 184),dE P "__weakref__" 404 (.ref 185),dE P "__doc__" 405 (.none)] 4),
 (183,⟨.type "type",.none,.cls { name:="Bitarray",bases:=[.type "object"],mro:=[.ref 183,.type "object"],ns:=182,qualname:="Bitarray" },#[none,none,some (.str "Bitarray" 280),some (.str "Bitarray" 288),some (.builtin "object.__new__"),some (.bool true)]⟩),
 (195,⟨.type "tuple",.none,.seq #[.int 20 422,.bool true,.none] 0,#[]⟩),
 (201,cO "__init__" "QuotientFilter.__init__" 423 [.int 96 0,.int 4 0,.int 0 0,.int 0 0,.int 3 0,.ref 196,.bool true,.int 181 0,.ref 197,.none,.ref 198,.ref 199,.ref 200,.int 430 0,.int 96 0,.str "/claim/cut.py" 431]),
 (202,fO (cB 10) 0 "QuotientFilter.__init__" "probables.quotientfilter.quotientfilter" 408 201 (.ref 195) [] .none),
 (208,cO "__set_params" "QuotientFilter.__set_params" 433 [.int 101 0,.int 4 0,.int 0 0,.int 0 0,.int 3 0,.ref 203,.bool true,.int 181 0,.ref 204,.none,.ref 205,.ref 206,.ref 207,.int 440 0,.int 101 0,.str "/claim/cut.py" 441]),
 (209,fO (cB 10) 1 "QuotientFilter.__set_params" "probables.quotientfilter.quotientfilter" 408 208 .none [] .none),
 (215,cO "__contains__" "QuotientFilter.__contains__" 443 [.int 123 0,.int 2 0,.int 0 0,.int 0 0,.int 3 0,.ref 210,.bool true,.int 181 0,.ref 211,.none,.ref 212,.ref 213,.ref 214,.int 448 0,.int 123 0,.str "/claim/cut.py" 449]),
 (216,fO (cB 10) 2 "QuotientFilter.__contains__" "probables.quotientfilter.quotientfilter" 408 215 .none [] .none),
 (222,cO "quotient" "QuotientFilter.quotient" 451 [.int 126 0,.int 1 0,.int 0 0,.int 0 0,.int 3 0,.ref 217,.bool true,.int 181 0,.ref 218,.none,.ref 219,.ref 220,.ref 221,.int 455 0,.int 126 0,.str "/claim/cut.py" 456]),
 (223,fO (cB 10) 3 "QuotientFilter.quotient" "probables.quotientfilter.quotientfilter" 408 222 .none [] .none),
 (238,cO "num_elements" "QuotientFilter.num_elements" 467 [.int 134 0,.int 1 0,.int 0 0,.int 0 0,.int 3 0,.ref 233,.bool true,.int 181 0,.ref 234,.none,.ref 235,.ref 236,.ref 237,.int 471 0,.int 134 0,.str "/claim/cut.py" 472]),
 (239,fO (cB 10) 5 "QuotientFilter.num_elements" "probables.quotientfilter.quotientfilter" 408 238 .none [] .none),
 (246,cO "elements_added" "QuotientFilter.elements_added" 475 [.int 138 0,.int 1 0,.int 0 0,.int 0 0,.int 3 0,.ref 241,.bool true,.int 181 0,.ref 242,.none,.ref 243,.ref 244,.ref 245,.int 479 0,.int 138 0,.str "/claim/cut.py" 480]),
 (247,fO (cB 10) 6 "QuotientFilter.elements_added" "probables.quotientfilter.quotientfilter" 408 246 .none [] .none),
 (248,⟨.type "property",.none,.fields #[.ref 247,.none,.none,.none,.str "elements_added" 482,.bool false],#[]⟩),
 (262,cO "size" "QuotientFilter.size" 491 [.int 146 0,.int 1 0,.int 0 0,.int 0 0,.int 3 0,.ref 257,.bool true,.int 181 0,.ref 258,.none,.ref 259,.ref 260,.ref 261,.int 495 0,.int 146 0,.str "/claim/cut.py" 496]),
 (263,fO (cB 10) 8 "QuotientFilter.size" "probables.quotientfilter.quotientfilter" 408 262 .none [] .none),
 (287,cO "add" "QuotientFilter.add" 517 [.int 158 0,.int 2 0,.int 0 0,.int 0 0,.int 3 0,.ref 282,.bool true,.int 181 0,.ref 283,.none,.ref 284,.ref 285,.ref 286,.int 523 0,.int 158 0,.str "/claim/cut.py" 524]),
 (288,fO (cB 10) 11 "QuotientFilter.add" "probables.quotientfilter.quotientfilter" 408 287 .none [] .none),
 (294,cO "add_alt" "QuotientFilter.add_alt" 526 [.int 162 0,.int 2 0,.int 0 0,.int 0 0,.int 3 0,.ref 289,.bool true,.int 181 0,.ref 290,.none,.ref 291,.ref 292,.ref 293,.int 533 0,.int 162 0,.str "/claim/cut.py" 534]),
 (295,fO (cB 10) 12 "QuotientFilter.add_alt" "probables.quotientfilter.quotientfilter" 408 294 .none [] .none),
 (301,cO "remove" "QuotientFilter.remove" 536 [.int 170 0,.int 2 0,.int 0 0,.int 0 0,.int 3 0,.ref 296,.bool true,.int 181 0,.ref 297,.none,.ref 298,.ref 299,.ref 300,.int 542 0,.int 170 0,.str "/claim/cut.py" 543]),
 (302,fO (cB 10) 13 "QuotientFilter.remove" "probables.quotientfilter.quotientfilter" 408 301 .none [] .none),
 (308,cO "remove_alt" "QuotientFilter.remove_alt" 545 [.int 174 0,.int 2 0,.int 0 0,.int 0 0,.int 3 0,.ref 303,.bool true,.int 181 0,.ref 304,.none,.ref 305,.ref 306,.ref 307,.int 552 0,.int 174 0,.str "/claim/cut.py" 553]),
 (309,fO (cB 10) 14 "QuotientFilter.remove_alt" "probables.quotientfilter.quotientfilter" 408 308 .none [] .none),
 (315,cO "check" "QuotientFilter.check" 555 [.int 179 0,.int 2 0,.int 0 0,.int 0 0,.int 3 0,.ref 310,.bool true,.int 181 0,.ref 311,.none,.ref 312,.ref 313,.ref 314,.int 561 0,.int 179 0,.str "/claim/cut.py" 562]),
 (316,fO (cB 10) 15 "QuotientFilter.check" "probables.quotientfilter.quotientfilter" 408 315 .none [] .none),
 (322,cO "check_alt" "QuotientFilter.check_alt" 564 [.int 183 0,.int 2 0,.int 0 0,.int 0 0,.int 3 0,.ref 317,.bool true,.int 181 0,.ref 318,.none,.ref 319,.ref 320,.ref 321,.int 571 0,.int 183 0,.str "/claim/cut.py" 572]),
 (323,fO (cB 10) 16 "QuotientFilter.check_alt" "probables.quotientfilter.quotientfilter" 408 322 .none [] .none),
 (329,cO "hashes" "QuotientFilter.hashes" 574 [.int 188 0,.int 1 0,.int 0 0,.int 0 0,.int 35 0,.ref 324,.bool true,.int 181 0,.ref 325,.none,.ref 326,.ref 327,.ref 328,.int 586 0,.int 188 0,.str "/claim/cut.py" 587]),
 (330,fO (cB 10) 17 "QuotientFilter.hashes" "probables.quotientfilter.quotientfilter" 408 329 .none [] .none),
 (336,cO "get_hashes" "QuotientFilter.get_hashes" 589 [.int 208 0,.int 1 0,.int 0 0,.int 0 0,.int 3 0,.ref 331,.bool true,.int 181 0,.ref 332,.none,.ref 333,.ref 334,.ref 335,.int 593 0,.int 208 0,.str "/claim/cut.py" 594]),
 (337,fO (cB 10) 18 "QuotientFilter.get_hashes" "probables.quotientfilter.quotientfilter" 408 336 .none [] .none),
 (338,⟨.type "tuple",.none,.seq #[.none] 0,#[]⟩),
 (344,cO "resize" "QuotientFilter.resize" 596 [.int 211 0,.int 2 0,.int 0 0,.int 0 0,.int 3 0,.ref 339,.bool true,.int 181 0,.ref 340,.none,.ref 341,.ref 342,.ref 343,.int 604 0,.int 211 0,.str "/claim/cut.py" 605]),
 (345,fO (cB 10) 19 "QuotientFilter.resize" "probables.quotientfilter.quotientfilter" 408 344 (.ref 338) [] .none),
 (351,cO "merge" "QuotientFilter.merge" 607 [.int 225 0,.int 2 0,.int 0 0,.int 0 0,.int 3 0,.ref 346,.bool true,.int 181 0,.ref 347,.none,.ref 348,.ref 349,.ref 350,.int 613 0,.int 225 0,.str "/claim/cut.py" 614]),
 (352,fO (cB 10) 20 "QuotientFilter.merge" "probables.quotientfilter.quotientfilter" 408 351 .none [] .none),
 (358,cO "_shift_insert" "QuotientFilter._shift_insert" 616 [.int 231 0,.int 6 0,.int 0 0,.int 0 0,.int 3 0,.ref 353,.bool true,.int 181 0,.ref 354,.none,.ref 355,.ref 356,.ref 357,.int 628 0,.int 231 0,.str "/claim/cut.py" 629]),
 (359,fO (cB 10) 21 "QuotientFilter._shift_insert" "probables.quotientfilter.quotientfilter" 408 358 .none [] .none),
 (365,cO "_get_start_index" "QuotientFilter._get_start_index" 631 [.int 258 0,.int 2 0,.int 0 0,.int 0 0,.int 3 0,.ref 360,.bool true,.int 181 0,.ref 361,.none,.ref 362,.ref 363,.ref 364,.int 638 0,.int 258 0,.str "/claim/cut.py" 639]),
 (366,fO (cB 10) 22 "QuotientFilter._get_start_index" "probables.quotientfilter.quotientfilter" 408 365 .none [] .none),
 (372,cO "_add" "QuotientFilter._add" 641 [.int 278 0,.int 3 0,.int 0 0,.int 0 0,.int 3 0,.ref 367,.bool true,.int 181 0,.ref 368,.none,.ref 369,.ref 370,.ref 371,.int 651 0,.int 278 0,.str "/claim/cut.py" 652]),
 (373,fO (cB 10) 23 "QuotientFilter._add" "probables.quotientfilter.quotientfilter" 408 372 .none [] .none),
 (379,cO "_remove_element" "QuotientFilter._remove_element" 654 [.int 303 0,.int 3 0,.int 0 0,.int 0 0,.int 3 0,.ref 374,.bool true,.int 181 0,.ref 375,.none,.ref 376,.ref 377,.ref 378,.int 664 0,.int 303 0,.str "/claim/cut.py" 665]),
 (380,fO (cB 10) 24 "QuotientFilter._remove_element" "probables.quotientfilter.quotientfilter" 408 379 .none [] .none),
 (386,cO "_should_remove_orig_idx" "QuotientFilter._should_remove_orig_idx" 667 [.int 320 0,.int 3 0,.int 0 0,.int 0 0,.int 3 0,.ref 381,.bool true,.int 181 0,.ref 382,.none,.ref 383,.ref 384,.ref 385,.int 673 0,.int 320 0,.str "/claim/cut.py" 674]),
 (387,fO (cB 10) 25 "QuotientFilter._should_remove_orig_idx" "probables.quotientfilter.quotientfilter" 408 386 .none [] .none),
 (393,cO "_remove_and_clear_bits" "QuotientFilter._remove_and_clear_bits" 676 [.int 323 0,.int 4 0,.int 0 0,.int 0 0,.int 3 0,.ref 388,.bool true,.int 181 0,.ref 389,.none,.ref 390,.ref 391,.ref 392,.int 683 0,.int 323 0,.str "/claim/cut.py" 684]),
 (394,fO (cB 10) 26 "QuotientFilter._remove_and_clear_bits" "probables.quotientfilter.quotientfilter" 408 393 .none [] .none),
 (400,cO "_find_cluster_start" "QuotientFilter._find_cluster_start" 686 [.int 331 0,.int 2 0,.int 0 0,.int 0 0,.int 3 0,.ref 395,.bool true,.int 181 0,.ref 396,.none,.ref 397,.ref 398,.ref 399,.int 692 0,.int 331 0,.str "/claim/cut.py" 693]),
 (401,fO (cB 10) 27 "QuotientFilter._find_cluster_start" "probables.quotientfilter.quotientfilter" 408 400 .none [] .none),
 (407,cO "_handle_first_move" "QuotientFilter._handle_first_move" 695 [.int 337 0,.int 3 0,.int 0 0,.int 0 0,.int 3 0,.ref 402,.bool true,.int 181 0,.ref 403,.none,.ref 404,.ref 405,.ref 406,.int 701 0,.int 337 0,.str "/claim/cut.py" 702]),
 (408,fO (cB 10) 28 "QuotientFilter._handle_first_move" "probables.quotientfilter.quotientfilter" 408 407 .none [] .none),
 (414,cO "_shift_elements" "QuotientFilter._shift_elements" 704 [.int 346 0,.int 3 0,.int 0 0,.int 0 0,.int 3 0,.ref 409,.bool true,.int 181 0,.ref 410,.none,.ref 411,.ref 412,.ref 413,.int 710 0,.int 346 0,.str "/claim/cut.py" 711]),
 (415,fO (cB 10) 29 "QuotientFilter._shift_elements" "probables.quotientfilter.quotientfilter" 408 414 .none [] .none),
 (421,cO "_clear_last_element" "QuotientFilter._clear_last_element" 713 [.int 355 0,.int 2 0,.int 0 0,.int 0 0,.int 3 0,.ref 416,.bool true,.int 181 0,.ref 417,.none,.ref 418,.ref 419,.ref 420,.int 718 0,.int 355 0,.str "/claim/cut.py" 719]),
 (422,fO (cB 10) 30 "QuotientFilter._clear_last_element" "probables.quotientfilter.quotientfilter" 408 421 .none [] .none),
 (428,cO "_fixup_cluster" "QuotientFilter._fixup_cluster" 721 [.int 361 0,.int 3 0,.int 0 0,.int 0 0,.int 3 0,.ref 423,.bool true,.int 181 0,.ref 424,.none,.ref 425,.ref 426,.ref 427,.int 729 0,.int 361 0,.str "/claim/cut.py" 730]),
 (429,fO (cB 10) 31 "QuotientFilter._fixup_cluster" "probables.quotientfilter.quotientfilter" 408 428 .none [] .none),
 (435,cO "_contained_at_loc" "QuotientFilter._contained_at_loc" 732 [.int 375 0,.int 3 0,.int 0 0,.int 0 0,.int 3 0,.ref 430,.bool true,.int 181 0,.ref 431,.none,.ref 432,.ref 433,.ref 434,.int 740 0,.int 375 0,.str "/claim/cut.py" 741]),
 (436,fO (cB 10) 32 "QuotientFilter._contained_at_loc" "probables.quotientfilter.quotientfilter" 408 435 .none [] .none),
 (442,cO "_is_cluster_start" "QuotientFilter._is_cluster_start" 743 [.int 390 0,.int 2 0,.int 0 0,.int 0 0,.int 3 0,.ref 437,.bool true,.int 181 0,.ref 438,.none,.ref 439,.ref 440,.ref 441,.int 748 0,.int 390 0,.str "/claim/cut.py" 749]),
 (443,fO (cB 10) 33 "QuotientFilter._is_cluster_start" "probables.quotientfilter.quotientfilter" 408 442 .none [] .none),
 (449,cO "_is_run_start" "QuotientFilter._is_run_start" 751 [.int 393 0,.int 2 0,.int 0 0,.int 0 0,.int 3 0,.ref 444,.bool true,.int 181 0,.ref 445,.none,.ref 446,.ref 447,.ref 448,.int 756 0,.int 393 0,.str "/claim/cut.py" 757]),
 (450,fO (cB 10) 34 "QuotientFilter._is_run_start" "probables.quotientfilter.quotientfilter" 408 449 .none [] .none),
 (456,cO "_is_run_or_cluster_start" "QuotientFilter._is_run_or_cluster_start" 759 [.int 396 0,.int 2 0,.int 0 0,.int 0 0,.int 3 0,.ref 451,.bool true,.int 181 0,.ref 452,.none,.ref 453,.ref 454,.ref 455,.int 764 0,.int 396 0,.str "/claim/cut.py" 765]),
 (457,fO (cB 10) 35 "QuotientFilter._is_run_or_cluster_start" "probables.quotientfilter.quotientfilter" 408 456 .none [] .none),
 (463,cO "_is_empty_element" "QuotientFilter._is_empty_element" 767 [.int 401 0,.int 2 0,.int 0 0,.int 0 0,.int 3 0,.ref 458,.bool true,.int 181 0,.ref 459,.none,.ref 460,.ref 461,.ref 462,.int 772 0,.int 401 0,.str "/claim/cut.py" 773]),
 (464,fO (cB 10) 36 "QuotientFilter._is_empty_element" "probables.quotientfilter.quotientfilter" 408 463 .none [] .none),
 (466,dO (.type "dict") #[dE P "__module__" 417 (.str "probables.quotientfilter.quotientfilter" 408),dE P "__firstlineno__" 421 (.int 94 420),dE P "__init__" 432 (.ref 202),dE P "_QuotientFilter__set_params" 442 (.ref 209),dE P "__contains__" 450 (.ref 216),dE P "quotient" 458 (.ref 224),dE P "remainder" 466 (.ref 232),dE P "num_elements" 474 (.ref 240),dE P "elements_added" 482 (.ref 248),dE P "bits_per_elm" 490 (.ref 256),dE P "size" 498 (.ref 264),dE P "auto_expand" 506 (.ref 281),dE P "add" 525 (.ref 288),dE P "add_alt" 535 (.ref 295),dE P "remove" 544 (.ref 302),dE P "remove_alt" 554 (.ref 309),dE P "check" 563 (.ref 316),dE P "check_alt" 573 (.ref 323),dE P "hashes" 588 (.ref 330),dE P "get_hashes" 595 (.ref 337),dE P "resize" 606 (.ref 345),dE P "merge" 615 (.ref 352),dE P "_shift_insert" 630 (.ref 359),dE P "_get_start_index" 640 (.ref 366),dE P "_add" 653 (.ref 373),dE P "_remove_element" 666 (.ref 380),dE P "_should_remove_orig_idx" 675 (.ref 387),dE P "_remove_and_clear_bits" 685 (.ref 394),dE P "_find_cluster_start" 694 (.ref 401),dE P "_handle_first_move" 703 (.ref 408),dE P "_shift_elements" 712 (.ref 415),dE P "_clear_last_element" 720 (.ref 422),dE P "_fixup_cluster" 731 (.ref 429),dE P "_contained_at_loc" 742 (.ref 436),dE P "_is_cluster_start" 750 (.ref 443),dE P "_is_run_start" 758 (.ref 450),dE P "_is_run_or_cluster_start" 766 (.ref 457),dE P "_is_empty_element" 774 (.ref 464),dE P "__static_attributes__" 788 (.ref 465),dE P "__dict__" 790 (.ref 468),dE P "__weakref__" 792 (.ref 469),dE P "__doc__" 793 (.none)] 4),
 (467,⟨.type "type",.none,.cls { name:="QuotientFilter",bases:=[.type "object"],mro:=[.ref 467,.type "object"],ns:=466,qualname:="QuotientFilter" },#[none,none,some (.str "QuotientFilter" 410),some (.str "QuotientFilter" 418),some (.builtin "object.__new__"),some (.bool true)]⟩),
 (477,cO "_law_code" "_law_code" 798 [.int 404 0,.int 1 0,.int 0 0,.int 0 0,.int 3 0,.ref 472,.bool true,.int 181 0,.ref 473,.none,.ref 474,.ref 475,.ref 476,.int 802 0,.int 404 0,.str "/claim/cut.py" 803]),
 (478,fO p0.main.body 12 "_law_code" "law_kg0023_01" 796 477 .none [] .none),
 (484,cO "_law_hash" "_law_hash" 805 [.int 406 0,.int 2 0,.int 0 0,.int 0 0,.int 3 0,.ref 479,.bool true,.int 181 0,.ref 480,.none,.ref 481,.ref 482,.ref 483,.int 810 0,.int 406 0,.str "/claim/cut.py" 811]),
 (485,fO p0.main.body 13 "_law_hash" "law_kg0023_01" 796 484 .none [] .none),
 (491,cO "_law_other" "_law_other" 813 [.int 408 0,.int 2 0,.int 0 0,.int 0 0,.int 3 0,.ref 486,.bool true,.int 181 0,.ref 487,.none,.ref 488,.ref 489,.ref 490,.int 818 0,.int 408 0,.str "/claim/cut.py" 819]),
 (492,fO p0.main.body 14 "_law_other" "law_kg0023_01" 796 491 .none [] .none),
 (498,cO "_law_refused" "_law_refused" 821 [.int 410 0,.int 1 0,.int 0 0,.int 0 0,.int 3 0,.ref 493,.bool true,.int 181 0,.ref 494,.none,.ref 495,.ref 496,.ref 497,.int 825 0,.int 410 0,.str "/claim/cut.py" 826]),
 (499,fO p0.main.body 15 "_law_refused" "law_kg0023_01" 796 498 .none [] .none),
 (503,cO "law" "law" 828 [.int 416 0,.int 1 0,.int 0 0,.int 0 0,.int 3 0,.ref 500,.bool true,.int 181 0,.ref 501,.none,.none,.none,.ref 502,.int 831 0,.int 416 0,.str "/claim/cut.py" 832]),
 (504,fO p0.main.body 16 "law" "law_kg0023_01" 796 503 .none [] .none)]
noncomputable abbrev as0:List Addr:=[2,3,25,36,37,46,47,54,65,66,68,69,92,93,107,108,109,115,116,117,123,124,130,131,137,138,158,159,165,166,182,183,195,201,202,208,209,215,216,222,223,238,239,246,247,248,262,263,287,288,294,295,301,302,308,309,315,316,322,323,329,330,336,337,338,344,345,351,352,358,359,365,366,372,373,379,380,386,387,393,394,400,401,407,408,414,415,421,422,428,429,435,436,442,443,449,450,456,457,463,464,466,467,477,478,484,485,491,492,498,499,503,504]
noncomputable abbrev hk0:Hook:=kmHook K0 as0 (fun _=>by kernel_rfl) [501]
theorem left0:LeftO p0 cl0 lo0 xt0 hk0.obs hk0.val 7130 true:=
 leftO (boot_open (p:=p0) (N:=7130) (by kernel_rfl) rfl (fun s=>by kernel_rfl)) (fun w=>by kernel_rfl) run1 run2 (fun w os=>by
 rw [Fast.te10110043849684766642,Fast.te14364793385576792824,Fast.te14082659384304107361,Fast.te4187177175401517315]
 kernel_rfl) (n3:=3503) (n4:=2) (by decide)
theorem ws:OpenLaw.wellSaid PySem.Challenge.rw_kg0023_01=true:=by
 rw [Fast.te9446332074065402090]
 kernel_rfl
noncomputable abbrev gg (prog:Program) (w:World) (P:Params) (base:Heap) (mg mb:Str->Option Value) (ok:Stat (K0 P) base mg mb):G0:=⟨prog,w,K0 P,base,mg,mb,ok⟩
theorem clsB (P:Params):Cls (K0 P) 183:=⟨by kernel_rfl,by kernel_rfl,by kernel_rfl,by kernel_rfl,by kernel_rfl⟩
theorem clsQ (P:Params):Cls (K0 P) 467:=⟨by kernel_rfl,by kernel_rfl,by kernel_rfl,by kernel_rfl,by kernel_rfl⟩
section
variable {prog:Program} {w:World} {P:Params} {base:Heap} {mg mb:Str->Option Value} {ok:Stat (K0 P) base mg mb}
theorem mX:FnOK (gg prog w P base mg mb ok) 1 93 jQ:=
 FnOK.of (ps:=["self","size"]) rfl (by kernel_rfl) (by2 fun _ _=>rfl) (by decide) (by decide) rfl rfl rfl
 (SB.cons (SS.ite (ST.not (ST.val (SE.isInt rfl (fun _=>rfl) (by kernel_rfl) (fun _=>rfl) (by kernel_rfl) nL (fun _=>rfl)) (fun _ _=>rfl))) (SB.one SS.dead) SB.nil)
 (SB.cons (SS.ite (ST.cmp nL SE.int rfl) (SB.one SS.dead) SB.nil)
 (SB.cons (SS.setAttr (clsB P) (SE.un (SE.bin (SE.un nL) SE.int)) nL)
 (SB.cons (SS.setAttr (clsB P) (SE.rep (SE.list (SL.cons SE.int SL.nil)) (SE.attr (clsB P) nL)) nL)
 (SB.one (SS.setAttr (clsB P) nL nL))))))
theorem bH:FnOK (gg prog w P base mg mb ok) 1 138 aK:=
 FnOK.of (ps:=["self","idx"]) rfl (by kernel_rfl) (by2 fun _ _=>rfl) (by decide) (by decide) rfl rfl rfl
 (SB.cons (SS.ite (ST.or (.cons (ST.cmp nL SE.int rfl) (.cons (ST.cmp nL (SE.attr (clsB P) nL) rfl) .nil))) (SB.one SS.dead) SB.nil)
 (SB.one (SS.ret (SE.ite (ST.cmp (SE.bin (SE.idx (SE.attr (clsB P) nL) (SE.bin nL SE.int)) (SE.bin SE.int (SE.bin nL SE.int))) SE.int rfl) SE.int SE.int))))
theorem aN:FnOK (gg prog w P base mg mb ok) 2 124 aD:=
 FnOK.of (ps:=["self","key"]) rfl (by kernel_rfl) (by2 fun _ _=>rfl) (by decide) (by decide) rfl rfl rfl
 (SB.one (SS.ret (SE.meth (clsB P) bH nL (SL.cons nL SL.nil))))
theorem aO:FnOK (gg prog w P base mg mb ok) 1 131 aH:=
 FnOK.of (ps:=["self","idx","val"]) rfl (by kernel_rfl) (by3 fun _ _ _=>rfl) (by decide) (by decide) rfl rfl rfl
 (SB.cons (SS.ite (ST.or (.cons (ST.cmp nL SE.int rfl) (.cons (ST.cmp nL SE.int rfl) .nil))) (SB.one SS.dead) SB.nil)
 (SB.cons (SS.ite (ST.or (.cons (ST.cmp nL SE.int rfl) (.cons (ST.cmp nL (SE.attr (clsB P) nL) rfl) .nil))) (SB.one SS.dead) SB.nil)
 (SB.cons (SS.assign (SE.bin nL SE.int))
 (SB.one (SS.ite (ST.cmp nL SE.int rfl) (SB.one (SS.setIdx (SE.bin (SE.idx (SE.attr (clsB P) nL) nL) (SE.bin SE.int (SE.bin nL SE.int))) (SE.attr (clsB P) nL) nL)) (SB.one (SS.setIdx (SE.bin (SE.idx (SE.attr (clsB P) nL) nL) (SE.un (SE.bin SE.int (SE.bin nL SE.int)))) (SE.attr (clsB P) nL) nL)))))))
theorem gA:FnOK (gg prog w P base mg mb ok) 1 159 bL:=
 FnOK.of (ps:=["self","idx"]) rfl (by kernel_rfl) (by2 fun _ _=>rfl) (by decide) (by decide) rfl rfl rfl
 (SB.cons (SS.ite (ST.or (.cons (ST.cmp nL SE.int rfl) (.cons (ST.cmp nL (SE.attr (clsB P) nL) rfl) .nil))) (SB.one SS.dead) SB.nil)
 (SB.cons (SS.assign (SE.bin nL SE.int))
 (SB.one (SS.setIdx (SE.bin (SE.idx (SE.attr (clsB P) nL) nL) (SE.un (SE.bin SE.int (SE.bin nL SE.int)))) (SE.attr (clsB P) nL) nL))))
theorem cR:FnOK (gg prog w P base mg mb ok) 1 478 aY:=
 FnOK.of (ps:=["at"]) rfl (by kernel_rfl) (by1 fun _=>rfl) (by decide) (by decide) rfl rfl rfl
 (SB.one (SS.ret (SE.bin (SE.bin (SE.bin (SE.bin nL SE.int) SE.int) (SE.bin (SE.bin nL SE.int) SE.int)) (SE.bin nL SE.int))))
theorem oI:FnOK (gg prog w P base mg mb ok) 2 485 fJ:=
 FnOK.of (ps:=["key","seed"]) rfl (by kernel_rfl) (by2 fun _ _=>rfl) (by decide) (by decide) rfl rfl rfl
 (SB.one (SS.ret (SE.fn SE.glob cR (SL.cons (SE.bin (SE.bin (SE.ord rfl (fun _=>rfl) (by kernel_rfl) (SE.chr nL SE.int (fun _ _=>⟨_,rfl⟩)) (fun _=>rfl)) SE.int) SE.int) SL.nil))))
theorem mW:FnOK (gg prog w P base mg mb ok) 2 492 gS:=
 FnOK.of (ps:=["key","seed"]) rfl (by kernel_rfl) (by2 fun _ _=>rfl) (by decide) (by decide) rfl rfl rfl
 (SB.one (SS.ret (SE.fn SE.glob cR (SL.cons (SE.bin (SE.bin (SE.ord rfl (fun _=>rfl) (by kernel_rfl) (SE.chr nL SE.int (fun _ _=>⟨_,rfl⟩)) (fun _=>rfl)) SE.int) SE.int) SL.nil))))
theorem dU:FnTab (gg prog w P base mg mb ok) 2 hashTab:=by
 intro t ht
 rcases List.mem_cons.mp ht with rfl | ht
 ·exact ⟨by kernel_rfl,oI⟩
 ·rcases List.mem_cons.mp ht with rfl | ht
  ·exact ⟨by kernel_rfl,mW⟩
  ·cases ht
end
section
variable {prog:Program} {w:World} {P:Params} {base:Heap} {mg mb:Str->Option Value} {ok:Stat (K0 P) base mg mb}
theorem aW:FnOK (gg prog w P base mg mb ok) 4 464 aI:=
 FnOK.of (ps:=["self","elt"]) rfl (by kernel_rfl) (by2 fun _ _=>rfl) (by decide) (by decide) rfl rfl rfl
 (SB.one (SS.ret (SE.cmp (SE.bin (SE.bin (SE.sub aN (SE.attr (clsQ P) nL) nL) (SE.sub aN (SE.attr (clsQ P) nL) nL)) (SE.sub aN (SE.attr (clsQ P) nL) nL)) SE.int rfl)))
theorem eN:FnOK (gg prog w P base mg mb ok) 4 450 bK:=
 FnOK.of (ps:=["self","elt"]) rfl (by kernel_rfl) (by2 fun _ _=>rfl) (by decide) (by decide) rfl rfl rfl
 (SB.one (SS.ret (SE.bool2 (.cons (SE.cmp (SE.sub aN (SE.attr (clsQ P) nL) nL) SE.int rfl) (.cons (SE.bool2 (.cons (SE.cmp (SE.sub aN (SE.attr (clsQ P) nL) nL) SE.int rfl) (.cons (SE.cmp (SE.sub aN (SE.attr (clsQ P) nL) nL) SE.int rfl) .nil))) .nil)))))
theorem cJ:FnOK (gg prog w P base mg mb ok) 4 443 aL:=
 FnOK.of (ps:=["self","elt"]) rfl (by kernel_rfl) (by2 fun _ _=>rfl) (by decide) (by decide) rfl rfl rfl
 (SB.one (SS.ret (SE.bool2 (.cons (SE.cmp (SE.sub aN (SE.attr (clsQ P) nL) nL) SE.int rfl) (.cons (SE.cmp (SE.sub aN (SE.attr (clsQ P) nL) nL) SE.int rfl) (.cons (SE.cmp (SE.sub aN (SE.attr (clsQ P) nL) nL) SE.int rfl) .nil))))))
theorem cZ:FnOK (gg prog w P base mg mb ok) 5 457 aR:=
 FnOK.of (ps:=["self","elt"]) rfl (by kernel_rfl) (by2 fun _ _=>rfl) (by decide) (by decide) rfl rfl rfl
 (SB.cons (SS.ite (ST.val (SE.meth (clsQ P) cJ nL (SL.cons nL SL.nil)) (fun _ _=>rfl)) (SB.one (SS.ret SE.bool)) SB.nil)
 (SB.one (SS.ret (SE.boolC rfl (fun _=>rfl) (by kernel_rfl) (SE.meth (clsQ P) eN nL (SL.cons nL SL.nil)) (fun _=>rfl)))))
theorem fD:FnOK (gg prog w P base mg mb ok) 5 366 bY:=
 FnOK.of (ps:=["self","quotient"]) rfl (by kernel_rfl) (by2 fun _ _=>rfl) (by decide) (by decide) rfl rfl rfl
 (SB.cons (SS.ite (ST.val (SE.meth (clsQ P) aW nL (SL.cons nL SL.nil)) (fun _ _=>rfl)) (SB.one (SS.ret nL)) SB.nil)
 (SB.cons (SS.assign nL)
 (SB.cons (SS.assign SE.int)
 (SB.cons (SS.while_ 100 (ST.val SE.bool (fun _ _=>rfl)) (SB.cons (SS.ite (ST.or (.cons (ST.cmp nL nL rfl) (.cons (ST.cmp (SE.sub aN (SE.attr (clsQ P) nL) nL) SE.int rfl) .nil))) (SB.one (SS.aug rfl (fun _=>rfl) SE.int)) SB.nil)
 (SB.one (SS.ite (ST.cmp (SE.sub aN (SE.attr (clsQ P) nL) nL) SE.int rfl) (SB.one (SS.assign (SE.bin (SE.bin nL SE.int) (SE.attr (clsQ P) nL)))) (SB.one SS.brk)))))
 (SB.cons (SS.while_ 100 (ST.val SE.bool (fun _ _=>rfl)) (SB.cons (SS.ite (ST.cmp (SE.sub aN (SE.attr (clsQ P) nL) nL) SE.int rfl) (SB.cons (SS.ite (ST.cmp nL SE.int rfl) (SB.one SS.brk) SB.nil)
 (SB.one (SS.aug rfl (fun _=>rfl) SE.int))) SB.nil)
 (SB.one (SS.assign (SE.bin (SE.bin nL SE.int) (SE.attr (clsQ P) nL))))))
 (SB.one (SS.ret nL)))))))
theorem bO:FnOK (gg prog w P base mg mb ok) 6 436 aG:=
 FnOK.of (ps:=["self","q","r"]) rfl (by kernel_rfl) (by3 fun _ _ _=>rfl) (by decide) (by decide) rfl rfl rfl
 (SB.cons (SS.ite (ST.cmp (SE.sub aN (SE.attr (clsQ P) nL) nL) SE.int rfl) (SB.one (SS.ret (SE.un SE.int))) SB.nil)
 (SB.cons (SS.assign (SE.meth (clsQ P) fD nL (SL.cons nL SL.nil)))
 (SB.cons (SS.assign SE.int)
 (SB.cons (SS.while_ 100 (ST.cmp (SE.meth (clsQ P) aW nL (SL.cons nL SL.nil)) SE.bool rfl) (SB.cons (SS.ite (ST.cmp (SE.sub aN (SE.attr (clsQ P) nL) nL) SE.int rfl) (SB.one (SS.aug rfl (fun _=>rfl) SE.int)) SB.nil)
 (SB.cons (SS.ite (ST.or (.cons (ST.cmp nL SE.int rfl) (.cons (ST.cmp (SE.idx (SE.attr (clsQ P) nL) nL) nL rfl) .nil))) (SB.one SS.brk) SB.nil)
 (SB.cons (SS.ite (ST.cmp (SE.idx (SE.attr (clsQ P) nL) nL) nL rfl) (SB.one (SS.ret nL)) SB.nil)
 (SB.one (SS.assign (SE.bin (SE.bin nL SE.int) (SE.attr (clsQ P) nL))))))))
 (SB.one (SS.ret (SE.un SE.int)))))))
theorem eM:FnOK (gg prog w P base mg mb ok) 5 359 bV:=
 FnOK.of (ps:=["self","q","r","orig_idx","insert_idx","flag"]) rfl (by kernel_rfl) (by6 fun _ _ _ _ _ _=>rfl) (by decide) (by decide) rfl rfl rfl
 (SB.one (SS.ite (ST.val (SE.meth (clsQ P) aW nL (SL.cons nL SL.nil)) (fun _ _=>rfl)) (SB.cons (SS.setIdx nL (SE.attr (clsQ P) nL) nL)
 (SB.cons (SS.setSub aO SE.int (SE.attr (clsQ P) nL) nL)
 (SB.cons (SS.setSub aO (SE.ite (ST.cmp nL nL rfl) SE.int SE.int) (SE.attr (clsQ P) nL) nL)
 (SB.one (SS.setSub aO (SE.ite (ST.cmp nL nL rfl) SE.int SE.int) (SE.attr (clsQ P) nL) nL))))) (SB.cons (SS.assign (SE.bin (SE.bin nL SE.int) (SE.attr (clsQ P) nL)))
 (SB.cons (SS.while_ 100 (ST.val SE.bool (fun _ _=>rfl)) (SB.cons (SS.assign (SE.meth (clsQ P) aW nL (SL.cons nL SL.nil)))
 (SB.cons (SS.assign (SE.sub aN (SE.attr (clsQ P) nL) nL))
 (SB.cons (SS.setSub aO (SE.sub aN (SE.attr (clsQ P) nL) nL) (SE.attr (clsQ P) nL) nL)
 (SB.cons (SS.setSub aO nL (SE.attr (clsQ P) nL) nL)
 (SB.cons (SS.setSub aO SE.int (SE.attr (clsQ P) nL) nL)
 (SB.cons (SS.assign (SE.idx (SE.attr (clsQ P) nL) nL))
 (SB.cons (SS.setIdx (SE.idx (SE.attr (clsQ P) nL) nL) (SE.attr (clsQ P) nL) nL)
 (SB.cons (SS.setIdx nL (SE.attr (clsQ P) nL) nL)
 (SB.cons (SS.ite (ST.val nL (fun _ _=>rfl)) (SB.one SS.brk) SB.nil)
 (SB.one (SS.assign (SE.bin (SE.bin nL SE.int) (SE.attr (clsQ P) nL))))))))))))))
 (SB.cons (SS.setIdx nL (SE.attr (clsQ P) nL) nL)
 (SB.cons (SS.setSub aO SE.int (SE.attr (clsQ P) nL) nL)
 (SB.cons (SS.setSub aO (SE.ite (ST.cmp nL nL rfl) SE.int SE.int) (SE.attr (clsQ P) nL) nL)
 (SB.cons (SS.setSub aO (SE.ite (ST.cmp nL nL rfl) SE.int SE.int) (SE.attr (clsQ P) nL) nL)
 (SB.one (SS.ite (ST.cmp nL SE.int rfl) (SB.one (SS.setSub aO SE.int (SE.attr (clsQ P) nL) (SE.bin (SE.bin nL SE.int) (SE.attr (clsQ P) nL)))) SB.nil))))))))))
theorem mI:FnOK (gg prog w P base mg mb ok) 6 373 eF:=
 FnOK.of (ps:=["self","q","r"]) rfl (by kernel_rfl) (by3 fun _ _ _=>rfl) (by decide) (by decide) rfl rfl rfl
 (SB.cons (SS.ite (ST.cmp (SE.attr (clsQ P) nL) (SE.attr (clsQ P) nL) rfl) (SB.one SS.dead) SB.nil)
 (SB.cons (SS.ite (ST.val (SE.meth (clsQ P) aW nL (SL.cons nL SL.nil)) (fun _ _=>rfl)) (SB.cons (SS.setIdx nL (SE.attr (clsQ P) nL) nL)
 (SB.one (SS.setSub aO SE.int (SE.attr (clsQ P) nL) nL))) (SB.cons (SS.assign (SE.meth (clsQ P) fD nL (SL.cons nL SL.nil)))
 (SB.one (SS.ite (ST.cmp (SE.sub aN (SE.attr (clsQ P) nL) nL) SE.int rfl) (SB.one (SS.expr (SE.meth (clsQ P) eM nL (SL.cons nL (SL.cons nL (SL.cons nL (SL.cons nL (SL.cons SE.int SL.nil)))))))) (SB.cons (SS.assign nL)
 (SB.cons (SS.assign SE.int)
 (SB.cons (SS.assign (SE.bin (SE.bin (SE.meth (clsB P) bH (SE.attr (clsQ P) nL) (SL.cons nL SL.nil)) (SE.meth (clsB P) bH (SE.attr (clsQ P) nL) (SL.cons nL SL.nil))) (SE.meth (clsB P) bH (SE.attr (clsQ P) nL) (SL.cons nL SL.nil))))
 (SB.cons (SS.while_ 100 (ST.and (.cons (ST.cmp nL SE.int rfl) (.cons (ST.cmp nL SE.int rfl) (.cons (ST.cmp nL (SE.idx (SE.attr (clsQ P) nL) nL) rfl) .nil)))) (SB.cons (SS.assign (SE.bin (SE.bin nL SE.int) (SE.attr (clsQ P) nL)))
 (SB.cons (SS.ite (ST.cmp (SE.sub aN (SE.attr (clsQ P) nL) nL) SE.int rfl) (SB.one (SS.aug rfl (fun _=>rfl) SE.int)) SB.nil)
 (SB.one (SS.assign (SE.bin (SE.bin (SE.meth (clsB P) bH (SE.attr (clsQ P) nL) (SL.cons nL SL.nil)) (SE.meth (clsB P) bH (SE.attr (clsQ P) nL) (SL.cons nL SL.nil))) (SE.meth (clsB P) bH (SE.attr (clsQ P) nL) (SL.cons nL SL.nil))))))))
 (SB.one (SS.ite (ST.cmp nL SE.int rfl) (SB.one (SS.expr (SE.meth (clsQ P) eM nL (SL.cons nL (SL.cons nL (SL.cons nL (SL.cons nL (SL.cons SE.int SL.nil)))))))) (SB.one (SS.expr (SE.meth (clsQ P) eM nL (SL.cons nL (SL.cons nL (SL.cons nL (SL.cons nL (SL.cons SE.int SL.nil))))))))))))))))))
 (SB.one (SS.augAttr (clsQ P) (by kernel_rfl) (attr:=Option.none) (by kernel_rfl) rfl SE.int nL))))
end
section
variable {prog:Program} {w:World} {P:Params} {base:Heap} {mg mb:Str->Option Value} {ok:Stat (K0 P) base mg mb}
theorem gI:FnOK (gg prog w P base mg mb ok) 2 422 cA:=
 FnOK.of (ps:=["self","idx"]) rfl (by kernel_rfl) (by2 fun _ _=>rfl) (by decide) (by decide) rfl rfl rfl
 (SB.cons (SS.setIdx SE.int (SE.attr (clsQ P) nL) nL)
 (SB.cons (SS.setSub aO SE.int (SE.attr (clsQ P) nL) nL)
 (SB.cons (SS.setSub aO SE.int (SE.attr (clsQ P) nL) nL)
 (SB.one (SS.setSub aO SE.int (SE.attr (clsQ P) nL) nL)))))
theorem iZ:FnOK (gg prog w P base mg mb ok) 5 415 cN:=
 FnOK.of (ps:=["self","idx","next_idx"]) rfl (by kernel_rfl) (by3 fun _ _ _=>rfl) (by decide) (by decide) rfl rfl rfl
 (SB.cons (SS.while_ 100 (ST.and (.cons (ST.not (ST.val (SE.meth (clsQ P) cJ nL (SL.cons nL SL.nil)) (fun _ _=>rfl))) (.cons (ST.not (ST.val (SE.meth (clsQ P) aW nL (SL.cons nL SL.nil)) (fun _ _=>rfl))) .nil))) (SB.cons (SS.setIdx (SE.idx (SE.attr (clsQ P) nL) nL) (SE.attr (clsQ P) nL) nL)
 (SB.cons (SS.setSub aO (SE.sub aN (SE.attr (clsQ P) nL) nL) (SE.attr (clsQ P) nL) nL)
 (SB.cons (SS.setSub aO (SE.sub aN (SE.attr (clsQ P) nL) nL) (SE.attr (clsQ P) nL) nL)
 (SB.cons (SS.assign nL)
 (SB.one (SS.assign (SE.bin (SE.bin nL SE.int) (SE.attr (clsQ P) nL)))))))))
 (SB.one (SS.ret (SE.tup (SL.cons nL (SL.cons nL SL.nil))))))
theorem gQ:FnOK (gg prog w P base mg mb ok) 6 408 cK:=
 FnOK.of (ps:=["self","idx","next_idx"]) rfl (by kernel_rfl) (by3 fun _ _ _=>rfl) (by decide) (by decide) rfl rfl rfl
 (SB.cons (SS.ite (ST.and (.cons (ST.val (SE.meth (clsQ P) cZ nL (SL.cons nL SL.nil)) (fun _ _=>rfl)) (.cons (ST.cmp (SE.sub aN (SE.attr (clsQ P) nL) nL) SE.int rfl) .nil))) (SB.cons (SS.setIdx (SE.idx (SE.attr (clsQ P) nL) nL) (SE.attr (clsQ P) nL) nL)
 (SB.cons (SS.setSub aO SE.int (SE.attr (clsQ P) nL) nL)
 (SB.cons (SS.setSub aO (SE.sub aN (SE.attr (clsQ P) nL) nL) (SE.attr (clsQ P) nL) nL)
 (SB.cons (SS.assign nL)
 (SB.one (SS.assign (SE.bin (SE.bin nL SE.int) (SE.attr (clsQ P) nL)))))))) SB.nil)
 (SB.one (SS.ret (SE.tup (SL.cons nL (SL.cons nL SL.nil))))))
theorem gH:FnOK (gg prog w P base mg mb ok) 5 401 bZ:=
 FnOK.of (ps:=["self","idx"]) rfl (by kernel_rfl) (by2 fun _ _=>rfl) (by decide) (by decide) rfl rfl rfl
 (SB.cons (SS.assign nL)
 (SB.cons (SS.while_ 100 (ST.not (ST.val (SE.meth (clsQ P) cJ nL (SL.cons nL SL.nil)) (fun _ _=>rfl))) (SB.one (SS.assign (SE.bin (SE.bin nL SE.int) (SE.attr (clsQ P) nL)))))
 (SB.one (SS.ret nL))))
theorem fT:FnOK (gg prog w P base mg mb ok) 2 394 bM:=
 FnOK.of (ps:=["self","idx","q","remove_orig_idx"]) rfl (by kernel_rfl) (by4 fun _ _ _ _=>rfl) (by decide) (by decide) rfl rfl rfl
 (SB.cons (SS.setIdx SE.int (SE.attr (clsQ P) nL) nL)
 (SB.cons (SS.expr (SE.meth (clsB P) gA (SE.attr (clsQ P) nL) (SL.cons nL SL.nil)))
 (SB.cons (SS.expr (SE.meth (clsB P) gA (SE.attr (clsQ P) nL) (SL.cons nL SL.nil)))
 (SB.cons (SS.expr (SE.meth (clsB P) gA (SE.attr (clsQ P) nL) (SL.cons nL SL.nil)))
 (SB.one (SS.ite (ST.val nL (fun _ _=>rfl)) (SB.one (SS.setSub aO SE.int (SE.attr (clsQ P) nL) nL)) SB.nil))))))
theorem fL:FnOK (gg prog w P base mg mb ok) 6 387 bI:=
 FnOK.of (ps:=["self","idx","next_idx"]) rfl (by kernel_rfl) (by3 fun _ _ _=>rfl) (by decide) (by decide) rfl rfl rfl
 (SB.one (SS.ret (SE.bool2 (.cons (SE.meth (clsQ P) cZ nL (SL.cons nL SL.nil)) (.cons (SE.cmp (SE.sub aN (SE.attr (clsQ P) nL) nL) SE.int rfl) .nil)))))
theorem jN:FnOK (gg prog w P base mg mb ok) 5 429 bX:=
 FnOK.of (ps:=["self","min_idx","next_idx"]) rfl (by kernel_rfl) (by3 fun _ _ _=>rfl) (by decide) (by decide) rfl rfl rfl
 (SB.cons (SS.assign (SE.un SE.int))
 (SB.cons (SS.assign (SE.list SL.nil))
 (SB.one (SS.while_ 100 (ST.cmp nL nL rfl) (SB.cons (SS.ite (ST.cmp (SE.sub aN (SE.attr (clsQ P) nL) nL) SE.int rfl) (SB.one (SS.expr (SE.append nL nL (fun _=>⟨_,rfl⟩) (fun _=>rfl)))) SB.nil)
 (SB.cons (SS.ite (ST.cmp (SE.meth (clsQ P) eN nL (SL.cons nL SL.nil)) SE.int rfl) (SB.one (SS.assign (SE.pop0 nL (fun _=>⟨_,rfl⟩)))) SB.nil)
 (SB.cons (SS.ite (ST.cmp nL nL rfl) (SB.cons (SS.setSub aO SE.int (SE.attr (clsQ P) nL) nL)
 (SB.cons (SS.setSub aO SE.int (SE.attr (clsQ P) nL) nL)
 (SB.one (SS.setSub aO SE.int (SE.attr (clsQ P) nL) nL)))) SB.nil)
 (SB.one (SS.assign (SE.bin (SE.bin nL SE.int) (SE.attr (clsQ P) nL)))))))))))
theorem jA:FnOK (gg prog w P base mg mb ok) 7 380 dY:=
 FnOK.of (ps:=["self","q","r"]) rfl (by kernel_rfl) (by3 fun _ _ _=>rfl) (by decide) (by decide) rfl rfl rfl
 (SB.cons (SS.assign (SE.meth (clsQ P) bO nL (SL.cons nL (SL.cons nL SL.nil))))
 (SB.cons (SS.ite (ST.cmp nL (SE.un SE.int) rfl) (SB.one SS.ret0) SB.nil)
 (SB.cons (SS.assign (SE.bin (SE.bin nL SE.int) (SE.attr (clsQ P) nL)))
 (SB.cons (SS.assign (SE.meth (clsQ P) fL nL (SL.cons nL (SL.cons nL SL.nil))))
 (SB.cons (SS.ite (ST.or (.cons (ST.val (SE.meth (clsQ P) aW nL (SL.cons nL SL.nil)) (fun _ _=>rfl)) (.cons (ST.val (SE.meth (clsQ P) cJ nL (SL.cons nL SL.nil)) (fun _ _=>rfl)) .nil))) (SB.cons (SS.expr (SE.meth (clsQ P) fT nL (SL.cons nL (SL.cons nL (SL.cons nL SL.nil)))))
 (SB.one SS.ret0)) SB.nil)
 (SB.cons (SS.assign (SE.meth (clsQ P) gH nL (SL.cons nL SL.nil)))
 (SB.cons (SS.unpack2 rfl (fun _=>.inl rfl) (fun _=>.inl rfl) (SE.meth (clsQ P) gQ nL (SL.cons nL (SL.cons nL SL.nil))) (fun _=>rfl) (fun _=>rfl))
 (SB.cons (SS.unpack2 rfl (fun _=>.inl rfl) (fun _=>.inl rfl) (SE.meth (clsQ P) iZ nL (SL.cons nL (SL.cons nL SL.nil))) (fun _=>rfl) (fun _=>rfl))
 (SB.cons (SS.expr (SE.meth (clsQ P) gI nL (SL.cons nL SL.nil)))
 (SB.cons (SS.ite (ST.val nL (fun _ _=>rfl)) (SB.one (SS.setSub aO SE.int (SE.attr (clsQ P) nL) nL)) SB.nil)
 (SB.one (SS.expr (SE.meth (clsQ P) jN nL (SL.cons nL (SL.cons nL SL.nil)))))))))))))))
theorem iL:FnOK (gg prog w P base mg mb ok) 8 309 bS:=
 FnOK.of (ps:=["self","_hash"]) rfl (by kernel_rfl) (by2 fun _ _=>rfl) (by decide) (by decide) rfl rfl rfl
 (SB.cons (SS.assign (SE.bin nL (SE.attr (clsQ P) nL)))
 (SB.cons (SS.assign (SE.bin nL (SE.bin (SE.bin SE.int (SE.attr (clsQ P) nL)) SE.int)))
 (SB.one (SS.expr (SE.meth (clsQ P) jA nL (SL.cons nL (SL.cons nL SL.nil)))))))
theorem tH:FnOK (gg prog w P base mg mb ok) 9 302 fY:=
 FnOK.of (ps:=["self","key"]) rfl (by kernel_rfl) (by2 fun _ _=>rfl) (by decide) (by decide) rfl rfl rfl
 (SB.cons (SS.assign (SE.fld (clsQ P) (by kernel_rfl) (FnTab.mono dU (by decide)) nL (SL.cons nL (SL.cons SE.int SL.nil)) (fun _=>⟨_,rfl⟩) (fun _=>rfl)))
 (SB.one (SS.expr (SE.meth (clsQ P) iL nL (SL.cons nL SL.nil)))))
theorem dR:FnOK (gg prog w P base mg mb ok) 7 323 aX:=
 FnOK.of (ps:=["self","_hash"]) rfl (by kernel_rfl) (by2 fun _ _=>rfl) (by decide) (by decide) rfl rfl rfl
 (SB.cons (SS.assign (SE.bin nL (SE.attr (clsQ P) nL)))
 (SB.cons (SS.assign (SE.bin nL (SE.bin (SE.bin SE.int (SE.attr (clsQ P) nL)) SE.int)))
 (SB.one (SS.ret (SE.cmp (SE.meth (clsQ P) bO nL (SL.cons nL (SL.cons nL SL.nil))) (SE.un SE.int) rfl)))))
theorem oH:FnOK (gg prog w P base mg mb ok) 8 316 iD:=
 FnOK.of (ps:=["self","key"]) rfl (by kernel_rfl) (by2 fun _ _=>rfl) (by decide) (by decide) rfl rfl rfl
 (SB.cons (SS.assign (SE.fld (clsQ P) (by kernel_rfl) (FnTab.mono dU (by decide)) nL (SL.cons nL (SL.cons SE.int SL.nil)) (fun _=>⟨_,rfl⟩) (fun _=>rfl)))
 (SB.one (SS.ret (SE.meth (clsQ P) dR nL (SL.cons nL SL.nil)))))
theorem oG:FnOK (gg prog w P base mg mb ok) 9 216 fH:=
 FnOK.of (ps:=["self","val"]) rfl (by kernel_rfl) (by2 fun _ _=>rfl) (by decide) (by decide) rfl rfl rfl
 (SB.one (SS.ret (SE.meth (clsQ P) oH nL (SL.cons nL SL.nil))))
theorem fS:FnOK (gg prog w P base mg mb ok) 3 209 cS:=
 FnOK.of (ps:=["self","quotient","auto_expand","hash_function"]) rfl (by kernel_rfl) (by4 fun _ _ _ _=>rfl) (by decide) (by decide) rfl rfl rfl
 (SB.cons (SS.setAttr (clsQ P) nL nL)
 (SB.cons (SS.setAttr (clsQ P) (SE.bin SE.int nL) nL)
 (SB.cons (SS.setAttr (clsQ P) (SE.bin SE.int (SE.attr (clsQ P) nL)) nL)
 (SB.cons (SS.setAttr (clsQ P) (SE.bin (SE.attr (clsQ P) nL) SE.int) nL)
 (SB.cons (SS.setAttr (clsQ P) SE.int nL)
 (SB.cons (SS.setAttr (clsQ P) nL nL)
 (SB.cons (SS.setAttr (clsQ P) (SE.ite (ST.cmp nL SE.none rfl) SE.dead nL) nL)
 (SB.cons (SS.ite (ST.cmp (SE.attr (clsQ P) nL) SE.int rfl) (SB.cons (SS.setAttr (clsQ P) SE.str nL)
 (SB.one (SS.setAttr (clsQ P) SE.int nL))) (SB.one (SS.ite (ST.cmp (SE.attr (clsQ P) nL) SE.int rfl) (SB.cons (SS.setAttr (clsQ P) SE.str nL)
 (SB.one (SS.setAttr (clsQ P) SE.int nL))) (SB.cons (SS.setAttr (clsQ P) SE.str nL)
 (SB.one (SS.setAttr (clsQ P) SE.int nL))))))
 (SB.cons (SS.setAttr (clsQ P) (SE.new SE.glob (by kernel_rfl) (by kernel_rfl) (by kernel_rfl) (by kernel_rfl) (FnOK.mono mX (by decide)) (SL.cons (SE.attr (clsQ P) nL) SL.nil) (fun _=>rfl) (fun _=>rfl)) nL)
 (SB.cons (SS.setAttr (clsQ P) (SE.new SE.glob (by kernel_rfl) (by kernel_rfl) (by kernel_rfl) (by kernel_rfl) (FnOK.mono mX (by decide)) (SL.cons (SE.attr (clsQ P) nL) SL.nil) (fun _=>rfl) (fun _=>rfl)) nL)
 (SB.cons (SS.setAttr (clsQ P) (SE.new SE.glob (by kernel_rfl) (by kernel_rfl) (by kernel_rfl) (by kernel_rfl) (FnOK.mono mX (by decide)) (SL.cons (SE.attr (clsQ P) nL) SL.nil) (fun _=>rfl) (fun _=>rfl)) nL)
 (SB.one (SS.setAttr (clsQ P) (SE.rep (SE.list (SL.cons SE.int SL.nil)) (SE.attr (clsQ P) nL)) nL)))))))))))))
theorem kO:FnOK (gg prog w P base mg mb ok) 4 202 fU:=
 FnOK.ofD (ps:=["self","quotient","auto_expand","hash_function"]) (dv:=[]) (dvv:=[]) rfl (by kernel_rfl) (by intro _ _;repeat (first | exact .nil | refine .cons rfl ?_))
 (by intro _ vals X;revert vals;exact bz4 rfl fun _ _ _ _=>binds_K X rfl rfl rfl rfl rfl) (by decide) (by decide) rfl rfl rfl
 (SB.cons (SS.ite (ST.or (.cons (ST.cmp nL SE.int rfl) (.cons (ST.cmp nL SE.int rfl) .nil))) (SB.one SS.dead) SB.nil)
 (SB.one (SS.expr (SE.meth (clsQ P) fS nL (SL.cons nL (SL.cons nL (SL.cons nL SL.nil)))))))
theorem dQ:FnOK (gg prog w P base mg mb ok) 1 247 bB:=
 FnOK.of (ps:=["self"]) rfl (by kernel_rfl) (by1 fun _=>rfl) (by decide) (by decide) rfl rfl rfl
 (SB.one (SS.ret (SE.attr (clsQ P) nL)))
end
section
variable {prog:Program} {w:World} {P:Params} {base:Heap} {mg mb:Str->Option Value} {ok:Stat (K0 P) base mg mb}
theorem mJ:∃ gsc fb,GenFn (gg prog w P base mg mb ok) 330 ["self"] gsc fb/\GenCode (gg prog w P base mg mb ok) gsc 4 fb "i" dL dP aM aP:=
 ⟨_,_,GenFn.of rfl (by kernel_rfl) (by1 fun _=>rfl) (by decide) (by decide) rfl rfl rfl,
 ⟨⟨[_,_,_,_],[_,_,_,_,_,_,_],_,_,_,_,_,_,_,_,rfl,
 (SB.cons (SS.assign (SE.list SL.nil))
 (SB.cons (SS.assign SE.int)
 (SB.cons (SS.while_ 100 (ST.not (ST.val (SE.meth (clsQ P) aW nL (SL.cons nL SL.nil)) (fun _ _=>rfl))) (SB.one (SS.aug rfl (fun _=>rfl) SE.int)))
 (SB.one (SS.assign SE.int))))),
 (SL.cons nL (SL.cons (SE.bin (SE.attr (clsQ P) nL) nL) SL.nil)),
 (SB.cons (SS.assign (SE.bin nL (SE.attr (clsQ P) nL)))
 (SB.cons (SS.assign (SE.meth (clsB P) bH (SE.attr (clsQ P) nL) (SL.cons nL SL.nil)))
 (SB.cons (SS.assign (SE.meth (clsB P) bH (SE.attr (clsQ P) nL) (SL.cons nL SL.nil)))
 (SB.cons (SS.assign (SE.meth (clsB P) bH (SE.attr (clsQ P) nL) (SL.cons nL SL.nil)))
 (SB.cons (SS.ite (ST.cmp (SE.bin (SE.bin nL nL) nL) SE.int rfl) (SB.cons (SS.assert_ (ST.cmp (SE.len rfl (fun _=>rfl) (by kernel_rfl) nL (fun _=>rfl)) SE.int rfl))
 (SB.one SS.cont)) SB.nil)
 (SB.cons (SS.ite (ST.cmp nL SE.int rfl) (SB.one (SS.expr (SE.append nL nL (fun _=>⟨_,rfl⟩) (fun _=>rfl)))) SB.nil)
 (SB.one (SS.ite (ST.val (SE.meth (clsQ P) eN nL (SL.cons nL SL.nil)) (fun _ _=>rfl)) (SB.one (SS.assign (SE.pop0 nL (fun _=>⟨_,rfl⟩)))) SB.nil)))))))),
 (SE.bin (SE.bin nL (SE.attr (clsQ P) nL)) (SE.idx (SE.attr (clsQ P) nL) nL)),(fun _=>rfl)⟩,rfl,(fun _=>.inl rfl),(fun _=>rfl),by kernel_rfl,rfl,(fun _=>rfl)⟩⟩
theorem dI:FnOK (gg prog w P base mg mb ok) 10 337 aV:=
 x2_2 (mJ (prog:=prog) (w:=w) (P:=P) (base:=base) (mg:=mg) (mb:=mb) (ok:=ok)) fun gsc fb GF GC=>FnOK.of (ps:=["self"]) rfl (by kernel_rfl) (by1 fun _=>rfl) (by decide) (by decide) rfl rfl rfl
    (SB.one (SS.ret (SE.listGen 100 rfl (fun _=>rfl) (by kernel_rfl) (clsQ P) (by kernel_rfl) (by kernel_rfl) (by kernel_rfl) GF GC nL (fun _=>⟨_,rfl⟩) (fun _=>rfl))))
theorem kC:FnOK (gg prog w P base mg mb ok) 7 295 dZ:=
 FnOK.of (ps:=["self","_hash"]) rfl (by kernel_rfl) (by2 fun _ _=>rfl) (by decide) (by decide) rfl rfl rfl
 (SB.cons (SS.ite (ST.and (.cons (ST.val (SE.attr (clsQ P) nL) (fun _ _=>rfl)) (.cons (ST.cmp (SE.bin SE.int (SE.attr (clsQ P) nL)) (SE.bin SE.int (SE.attr (clsQ P) nL)) rfl) .nil))) (SB.one SS.dead) SB.nil)
 (SB.cons (SS.assign (SE.bin nL (SE.attr (clsQ P) nL)))
 (SB.cons (SS.assign (SE.bin nL (SE.bin (SE.bin SE.int (SE.attr (clsQ P) nL)) SE.int)))
 (SB.one (SS.ite (ST.cmp (SE.meth (clsQ P) bO nL (SL.cons nL (SL.cons nL SL.nil))) (SE.un SE.int) rfl) (SB.one (SS.expr (SE.meth (clsQ P) mI nL (SL.cons nL (SL.cons nL SL.nil))))) SB.nil)))))
theorem mH:FnOK (gg prog w P base mg mb ok) 11 345 fG:=
 FnOK.ofD (ps:=["self","quotient"]) (dv:=[.none]) (dvv:=[.none]) rfl (by kernel_rfl) (by intro _ _;repeat (first | exact .nil | refine .cons rfl ?_))
 (by intro _ vals X;revert vals;exact bz1 rfl fun _=>binds_K X rfl rfl rfl rfl rfl) (by decide) (by decide) rfl rfl rfl
 (SB.cons (SS.ite (ST.cmp nL SE.none rfl) (SB.one (SS.assign (SE.bin (SE.attr (clsQ P) nL) SE.int))) SB.nil)
 (SB.cons (SS.ite (ST.cmp (SE.prop (pa:=248) (rest:=[.none,.none,.none,.str (Str.ofString "elements_added") 482,.bool false]) (clsQ P) (by kernel_rfl) (by kernel_rfl) (by kernel_rfl) (by kernel_rfl) (FnOK.mono dQ (by decide)) nL (fun _=>rfl)) (SE.bin SE.int nL) rfl) (SB.one SS.dead) SB.nil)
 (SB.cons (SS.ite (ST.or (.cons (ST.cmp nL SE.int rfl) (.cons (ST.cmp nL SE.int rfl) .nil))) (SB.one SS.dead) SB.nil)
 (SB.cons (SS.assign (SE.meth (clsQ P) dI nL SL.nil))
 (SB.cons (SS.forR rfl (fun _=>.inl rfl) (fun _=>rfl) (by kernel_rfl) (SL.cons (SE.attr (clsQ P) nL) SL.nil) (SB.one (SS.setIdx SE.int (SE.attr (clsQ P) nL) nL)) (fun _=>rfl))
 (SB.cons (SS.expr (SE.meth (clsQ P) fS nL (SL.cons nL (SL.cons (SE.attr (clsQ P) nL) (SL.cons (SE.attr (clsQ P) nL) SL.nil)))))
 (SB.one (SS.forL 100 rfl (fun _=>.inl rfl) nL (SB.one (SS.expr (SE.meth (clsQ P) kC nL (SL.cons nL SL.nil)))) (fun _ _=>rfl)))))))))
theorem qG:FnOK (gg prog w P base mg mb ok) 11 345 dX:=
 FnOK.ofD (ps:=["self","quotient"]) (dv:=[]) (dvv:=[]) rfl (by kernel_rfl) (by intro _ _;repeat (first | exact .nil | refine .cons rfl ?_))
 (by intro _ vals X;revert vals;exact bz2 rfl fun _ _=>binds_K X rfl rfl rfl rfl rfl) (by decide) (by decide) rfl rfl rfl
 (SB.cons (SS.ite (ST.cmp nL SE.none rfl) (SB.one (SS.assign (SE.bin (SE.attr (clsQ P) nL) SE.int))) SB.nil)
 (SB.cons (SS.ite (ST.cmp (SE.prop (pa:=248) (rest:=[.none,.none,.none,.str (Str.ofString "elements_added") 482,.bool false]) (clsQ P) (by kernel_rfl) (by kernel_rfl) (by kernel_rfl) (by kernel_rfl) (FnOK.mono dQ (by decide)) nL (fun _=>rfl)) (SE.bin SE.int nL) rfl) (SB.one SS.dead) SB.nil)
 (SB.cons (SS.ite (ST.or (.cons (ST.cmp nL SE.int rfl) (.cons (ST.cmp nL SE.int rfl) .nil))) (SB.one SS.dead) SB.nil)
 (SB.cons (SS.assign (SE.meth (clsQ P) dI nL SL.nil))
 (SB.cons (SS.forR rfl (fun _=>.inl rfl) (fun _=>rfl) (by kernel_rfl) (SL.cons (SE.attr (clsQ P) nL) SL.nil) (SB.one (SS.setIdx SE.int (SE.attr (clsQ P) nL) nL)) (fun _=>rfl))
 (SB.cons (SS.expr (SE.meth (clsQ P) fS nL (SL.cons nL (SL.cons (SE.attr (clsQ P) nL) (SL.cons (SE.attr (clsQ P) nL) SL.nil)))))
 (SB.one (SS.forL 100 rfl (fun _=>.inl rfl) nL (SB.one (SS.expr (SE.meth (clsQ P) kC nL (SL.cons nL SL.nil)))) (fun _ _=>rfl)))))))))
theorem dW:FnOK (gg prog w P base mg mb ok) 12 295 aS:=
 FnOK.of (ps:=["self","_hash"]) rfl (by kernel_rfl) (by2 fun _ _=>rfl) (by decide) (by decide) rfl rfl rfl
 (SB.cons (SS.ite (ST.and (.cons (ST.val (SE.attr (clsQ P) nL) (fun _ _=>rfl)) (.cons (ST.cmp (SE.bin SE.int (SE.attr (clsQ P) nL)) (SE.bin SE.int (SE.attr (clsQ P) nL)) rfl) .nil))) (SB.one (SS.expr (SE.meth (clsQ P) mH nL SL.nil))) SB.nil)
 (SB.cons (SS.assign (SE.bin nL (SE.attr (clsQ P) nL)))
 (SB.cons (SS.assign (SE.bin nL (SE.bin (SE.bin SE.int (SE.attr (clsQ P) nL)) SE.int)))
 (SB.one (SS.ite (ST.cmp (SE.meth (clsQ P) bO nL (SL.cons nL (SL.cons nL SL.nil))) (SE.un SE.int) rfl) (SB.one (SS.expr (SE.meth (clsQ P) mI nL (SL.cons nL (SL.cons nL SL.nil))))) SB.nil)))))
theorem okQ_add:FnOK (gg prog w P base mg mb ok) 13 288 mL:=
 FnOK.of (ps:=["self","key"]) rfl (by kernel_rfl) (by2 fun _ _=>rfl) (by decide) (by decide) rfl rfl rfl
 (SB.cons (SS.assign (SE.fld (clsQ P) (by kernel_rfl) (FnTab.mono dU (by decide)) nL (SL.cons nL (SL.cons SE.int SL.nil)) (fun _=>⟨_,rfl⟩) (fun _=>rfl)))
 (SB.one (SS.expr (SE.meth (clsQ P) dW nL (SL.cons nL SL.nil)))))
theorem okQ_merge:FnOK (gg prog w P base mg mb ok) 13 352 kQ:=
 x2_2 (mJ (prog:=prog) (w:=w) (P:=P) (base:=base) (mg:=mg) (mb:=mb) (ok:=ok)) fun gsc fb GF GC=>FnOK.of (ps:=["self","second"]) rfl (by kernel_rfl) (by2 fun _ _=>rfl) (by decide) (by decide) rfl rfl rfl
    (SB.cons (SS.ite (ST.cmp (SE.fld (clsQ P) (by kernel_rfl) (FnTab.mono dU (by decide)) nL (SL.cons SE.str (SL.cons SE.int SL.nil)) (fun _=>⟨_,rfl⟩) (fun _=>rfl)) (SE.fld (clsQ P) (by kernel_rfl) (FnTab.mono dU (by decide)) nL (SL.cons SE.str (SL.cons SE.int SL.nil)) (fun _=>⟨_,rfl⟩) (fun _=>rfl)) rfl) (SB.one SS.dead) SB.nil)
    (SB.one (SS.forGen 100 (by decide) rfl (fun _=>.inl rfl) (clsQ P) (by kernel_rfl) (by kernel_rfl) (by kernel_rfl) GF GC nL (SB.one (SS.expr (SE.meth (clsQ P) dW nL (SL.cons nL SL.nil)))) (fun _=>⟨_,rfl⟩) (fun _ _=>rfl))))
end
theorem errK (P:Params):ErrK2 (K0 P) where
 cls:=⟨_,rfl,rfl,rfl⟩
 obj:=⟨_,_,_,_,_,_,_,_,_,_,_,_,_,rfl⟩
 sa:=by kernel_rfl
 taker:=by kernel_rfl
 ga:=by kernel_rfl
 gn:=by kernel_rfl
 msg:=by kernel_rfl
 ini:=by kernel_rfl
 dic:=by kernel_rfl
 mro:=by kernel_rfl
 isExc:=by kernel_rfl
 isB:=by kernel_rfl
 isC:=by kernel_rfl
 sup1:=by kernel_rfl
 sup2:=by kernel_rfl
 isE:=by kernel_rfl
 noOp:=by kernel_rfl
 fnJ:=⟨_,_,_,_,rfl,rfl⟩
 fnI:=⟨_,_,_,_,rfl,rfl⟩
structure ProgOK (prog:Program):Prop where
 file:(prog.main.file == ("/claim/cut.py":Str))=true
 noSuper:(prog.main.scope.names.lookup ("super":Str)).isSome=false
section
variable {prog:Program} {w:World} {P:Params} {base:Heap} {mg mb:Str->Option Value} {ok:Stat (K0 P) base mg mb}
theorem init37 (hp:ProgOK prog):pR (gg prog w P base mg mb ok) errJ 1:=by
 intro A s h₀ e t m D es R hdp hb S hl hlen hm hR
 refine rZ (G:=gg prog w P base mg mb ok) rfl (by kernel_rfl) rfl rfl hp.file rfl rfl (by2 fun _ _=>rfl) rfl rfl rfl rfl rfl rfl (by decide) rfl rfl rfl (fun _=>rfl) (by kernel_rfl) hp.noSuper (fun _=>⟨_,rfl⟩) (by kernel_rfl) (errK P).toErrK
  (by lia) hb S hl (by lia) hm fun env h₂ tk d so es' pl S2 hg hn hso hnew=>?_
 exact next_b (G:=gg prog w P base mg mb ok) (errK P) (errK P).sup2 hb S2 hso hR
theorem sA (hp:ProgOK prog):pR (gg prog w P base mg mb ok) errI 2:=by
 intro A s h₀ e t m D es R hdp hb S hl hlen hm hR
 refine rZ (G:=gg prog w P base mg mb ok) rfl (by kernel_rfl) rfl rfl hp.file rfl rfl (by2 fun _ _=>rfl) rfl rfl rfl rfl rfl rfl (by decide) rfl rfl rfl (fun _=>rfl) (by kernel_rfl) hp.noSuper (fun _=>⟨_,rfl⟩) (by kernel_rfl) (errK P).toErrK
  (by lia) hb S hl (by lia) hm fun env h₂ tk d so es' pl S2 hg hn hso hnew=>?_
 exact next_f (G:=gg prog w P base mg mb ok) (errK P) (errK P).sup1 (errK P).fnJ (init37 hp) (by show A.depth+1+1<recursionLimit;lia) hb S2 (by lia) hg hm hso hR
end
section
variable {prog:Program} {w:World} {P:Params} {base:Heap} {mg mb:Str->Option Value} {ok:Stat (K0 P) base mg mb}
theorem oY (hp:ProgOK prog):FnBad (gg prog w P base mg mb ok) 15 202 iC:=
 FnBad.ofD (ps:=["self","quotient","auto_expand","hash_function"]) (dv:=[.bool true,.none]) (dvv:=[.bool true,.none]) rfl (by kernel_rfl) (by intro _ _;repeat (first | exact .nil | refine .cons rfl ?_))
 (by intro _ vals X;revert vals;exact bz2 rfl fun _ _=>binds_K X rfl rfl rfl rfl rfl) (by decide) (by decide) rfl rfl rfl
 (SBX.here (SSX.ite (ST.or (.cons (ST.cmp nL SE.int rfl) (.cons (ST.cmp nL SE.int rfl) .nil))) (SBX.here (SSX.raise rfl (errK P) (sA hp) SE.glob (by kernel_rfl) (SA.fstr nL) (fun _=>rfl) (fun _=>rfl))) SBX.dead))
theorem tY (hp:ProgOK prog):FnBad (gg prog w P base mg mb ok) 15 352 gR:=
 FnBad.ofD (ps:=["self","second"]) (dv:=[]) (dvv:=[]) rfl (by kernel_rfl) (by intro _ _;repeat (first | exact .nil | refine .cons rfl ?_))
 (by intro _ vals X;revert vals;exact bz2 rfl fun _ _=>.of_eq rfl) (by decide) (by decide) rfl rfl rfl
 (SBX.here (SSX.ite (ST.cmp (SE.fld (clsQ P) (by kernel_rfl) (FnTab.mono dU (by decide)) nL (SL.cons SE.str (SL.cons SE.int SL.nil)) (fun _=>⟨_,rfl⟩) (fun _=>rfl)) (SE.fld (clsQ P) (by kernel_rfl) (FnTab.mono dU (by decide)) nL (SL.cons SE.str (SL.cons SE.int SL.nil)) (fun _=>⟨_,rfl⟩) (fun _=>rfl)) rfl) (SBX.here (SSX.raise rfl (errK P) (sA hp) SE.glob (by kernel_rfl) (SA.of SE.str) (fun _=>rfl) (fun _=>rfl))) SBX.dead))
theorem qS (hp:ProgOK prog):FnBad (gg prog w P base mg mb ok) 15 345 eU:=
 FnBad.ofD (ps:=["self","quotient"]) (dv:=[]) (dvv:=[]) rfl (by kernel_rfl) (by intro _ _;repeat (first | exact .nil | refine .cons rfl ?_))
 (by intro _ vals X;revert vals;exact bz2 rfl fun _ _=>binds_K X rfl rfl rfl rfl rfl) (by decide) (by decide) rfl rfl rfl
 (SBX.seq (SS.ite (ST.cmp nL SE.none rfl) (SB.one (SS.assign (SE.bin (SE.attr (clsQ P) nL) SE.int))) SB.nil)
 (SBX.here (SSX.ite (ST.cmp (SE.prop (pa:=248) (rest:=[.none,.none,.none,.str (Str.ofString "elements_added") 482,.bool false]) (clsQ P) (by kernel_rfl) (by kernel_rfl) (by kernel_rfl) (by kernel_rfl) (FnOK.mono dQ (by decide)) nL (fun _=>rfl)) (SE.bin SE.int nL) rfl) (SBX.here (SSX.raise rfl (errK P) (sA hp) SE.glob (by kernel_rfl) (SA.of SE.str) (fun _=>rfl) (fun _=>rfl))) SBX.dead)))
theorem qT (hp:ProgOK prog):FnBad (gg prog w P base mg mb ok) 15 373 jP:=
 FnBad.ofD (ps:=["self","q","r"]) (dv:=[]) (dvv:=[]) rfl (by kernel_rfl) (by intro _ _;repeat (first | exact .nil | refine .cons rfl ?_))
 (by intro _ vals X;revert vals;exact bz3 rfl fun _ _ _=>.of_eq rfl) (by decide) (by decide) rfl rfl rfl
 (SBX.here (SSX.ite (ST.cmp (SE.attr (clsQ P) nL) (SE.attr (clsQ P) nL) rfl) (SBX.here (SSX.raise rfl (errK P) (sA hp) SE.glob (by kernel_rfl) (SA.of SE.str) (fun _=>rfl) (fun _=>rfl))) SBX.dead))
theorem oZ (hp:ProgOK prog):FnBad (gg prog w P base mg mb ok) 18 295 fI:=
 FnBad.ofD (ps:=["self","_hash"]) (dv:=[]) (dvv:=[]) rfl (by kernel_rfl) (by intro _ _;repeat (first | exact .nil | refine .cons rfl ?_))
 (by intro _ vals X;revert vals;exact bz2 rfl fun _ _=>.of_eq rfl) (by decide) (by decide) rfl rfl rfl
 (SBX.seq (SS.ite (ST.and (.cons (ST.val (SE.attr (clsQ P) nL) (fun _ _=>rfl)) (.cons (ST.cmp (SE.bin SE.int (SE.attr (clsQ P) nL)) (SE.bin SE.int (SE.attr (clsQ P) nL)) rfl) .nil))) (SB.one SS.dead) SB.nil)
 (SBX.seq (SS.assign (SE.bin nL (SE.attr (clsQ P) nL)))
 (SBX.seq (SS.assign (SE.bin nL (SE.bin (SE.bin SE.int (SE.attr (clsQ P) nL)) SE.int)))
 (SBX.here (SSX.ite (ST.cmp (SE.meth (clsQ P) bO nL (SL.cons nL (SL.cons nL SL.nil))) (SE.un SE.int) rfl) (SBX.here (SSX.expr rfl (SEX.meth (clsQ P) (by kernel_rfl) (by kernel_rfl) (by kernel_rfl) (FnBad.mono (qT hp) (by decide)) nL (SL.cons nL (SL.cons nL SL.nil)) (fun _=>⟨_,rfl⟩) (fun _=>rfl)) (fun _=>rfl) (fun _=>rfl))) SBX.dead)))))
theorem okRef {d:Nat}:RefFn (gg prog w P base mg mb ok) d 499:=fun A ρ σ σ' s l fo ofo fdo b R rm hfr Fn Rl hfo hfd D hR=>
 oB (G:=gg prog w P base mg mb ok) rfl (by kernel_rfl) (by1 fun _=>rfl) rfl rfl (by decide) rfl rfl rfl (fun _=>rfl) (by kernel_rfl) (errK P) rm hfr Fn Rl hfo hfd D hR
end
section
variable {prog:Program} {w:World} {P:Params} {base:Heap} {mg mb:Str->Option Value} {ok:Stat (K0 P) base mg mb}
theorem okLaw (hp:ProgOK prog) {sa:Addr} {sv:List Value} {sn:List Int} (hb:base.IsList sa sv.toArray) (hi:IntsAre sv sn) (hn:sn.length<=1000):LawOK (gg prog w P base mg mb ok) 504 (bLaw sa sn):=
 LawOK.of rfl fun x A C=>
 (LSB.cons (f:=(bLaw0 sa sn)) (LSS.of (d:=20) C (by decide) (SS.assign (SE.addL (SE.comp' (fr:=[]) 100 (by kernel_rfl) rfl (SE.uptoA (k:=8) hb hi hn nL (fun _ _=>rfl) (fun _ _=>rfl)) STC.nil (SE.bin nL SE.int) (fun _ _=>rfl)) (SE.list (SL.cons SE.int (SL.cons SE.int (SL.cons SE.int SL.nil)))))))
 (LSB.cons (f:=bLaw1) (LSS.of (d:=20) C (by decide) (SS.assign SE.str))
 (LSB.cons (f:=bLaw2) (LSS.of (d:=20) C (by decide) (SS.assign (SE.cmp (SE.bin (SE.idx nL SE.int) SE.int) SE.int rfl)))
 (LSB.cons (f:=bLaw3) (LSS.of (d:=20) C (by decide) (SS.assign (SE.new SE.glob (by kernel_rfl) (by kernel_rfl) (by kernel_rfl) (by kernel_rfl) (FnOK.mono kO (by decide)) (SL.cons SE.int (SL.cons nL (SL.cons SE.glob SL.nil))) (fun _=>rfl) (fun _=>rfl))))
 (LSB.cons (f:=bLaw4) (LSS.of (d:=20) C (by decide) (SS.assign (SE.new SE.glob (by kernel_rfl) (by kernel_rfl) (by kernel_rfl) (by kernel_rfl) (FnOK.mono kO (by decide)) (SL.cons SE.int (SL.cons SE.bool (SL.cons SE.glob SL.nil))) (fun _=>rfl) (fun _=>rfl))))
 (LSB.cons (f:=bLaw5) (LSS.of (d:=20) C (by decide) (SS.assign (SE.list SL.nil)))
 (LSB.cons (f:=bLaw6) (LSS.of (d:=20) C (by decide) (SS.forR rfl (fun _=>.inl rfl) (fun _=>rfl) (by kernel_rfl) (SL.cons (SE.bin (SE.bin (SE.idx nL SE.int) SE.int) SE.int) SL.nil) (SB.cons (SS.assign (SE.fn SE.glob cR (SL.cons (SE.bin (SE.bin (SE.idx nL SE.int) (SE.bin nL (SE.bin (SE.bin (SE.bin (SE.idx nL SE.int) SE.int) SE.int) SE.int))) SE.int) SL.nil)))
 (SB.cons (SS.expr (SE.meth (clsQ P) dW nL (SL.cons nC SL.nil)))
 (SB.one (SS.ite (ST.inL (neg:=true) rfl nC nL rfl) (SB.one (SS.expr (SE.append nL nC (fun _=>⟨_,rfl⟩) (fun _=>rfl)))) SB.nil)))) (fun _=>rfl)))
 (LSB.cons (f:=bLaw7) (LSS.of (d:=20) C (by decide) (SS.assign (SE.list SL.nil)))
 (LSB.cons (f:=bLaw8) (LSS.of (d:=20) C (by decide) (SS.assign SE.int))
 (LSB.cons (f:=bLaw9) (LSS.of (d:=20) C (by decide) (SS.assign SE.int))
 (LSB.cons (f:=sR) (LSS.forL (d:=20) (g:=bTurn) 100 C (by decide) rfl (SE.beyond (k:=2) nL (fun _ _=>rfl) (fun _ _=>rfl)) (LSB.cons (LSS.of (d:=20) C (by decide) (SS.assign (SE.bin nL SE.int)))
 (LSB.cons (LSS.of (d:=20) C (by decide) (SS.assign (SE.bin (SE.bin nL SE.int) SE.int)))
 (LSB.cons (LSS.of (d:=20) C (by decide) (SS.assign (SE.bin nL SE.int)))
 (LSB.cons (LSS.of (d:=20) C (by decide) (SS.assign (SE.fn SE.glob cR (SL.cons nL SL.nil))))
 (LSB.cons (LSS.ite (LST.of (d:=20) C (by decide) (ST.and (.cons (ST.cmp nL SE.int rfl) (.cons (ST.or (.cons (ST.val nL (fun _ _=>rfl)) (.cons (ST.cmp (SE.bin nL SE.int) nL rfl) (.cons (ST.inL (neg:=false) rfl nC nL rfl) .nil)))) .nil)))) (LSB.cons (LSS.of (d:=20) C (by decide) (SS.ite (ST.cmp (SE.bin nL SE.int) SE.int rfl) (SB.one (SS.expr (SE.meth (clsQ P) okQ_add nC (SL.cons (SE.chr nL nL (fun _ _=>⟨_,rfl⟩)) SL.nil)))) (SB.one (SS.expr (SE.meth (clsQ P) dW nC (SL.cons nC SL.nil))))))
 (LSB.one (LSS.of (d:=20) C (by decide) (SS.ite (ST.inL (neg:=true) rfl nC nL rfl) (SB.cons (SS.expr (SE.append nL nC (fun _=>⟨_,rfl⟩) (fun _=>rfl)))
 (SB.one (SS.assign (SE.bin nL SE.int)))) SB.nil)))) (LSB.one (LSS.ite (LST.of (d:=20) C (by decide) (ST.or (.cons (ST.cmp nL SE.int rfl) (.cons (ST.cmp nL SE.int rfl) .nil)))) (LSB.cons (LSS.of (d:=20) C (by decide) (SS.ite (ST.cmp nL SE.int rfl) (SB.one (SS.expr (SE.meth (clsQ P) tH nC (SL.cons (SE.chr nL nL (fun _ _=>⟨_,rfl⟩)) SL.nil)))) (SB.one (SS.expr (SE.meth (clsQ P) iL nC (SL.cons nC SL.nil))))))
 (LSB.one (LSS.of (d:=20) C (by decide) (SS.comp' (fr:=["code"]) 100 (by kernel_rfl) rfl nL (STC.one (ST.cmp nL nC rfl)) nL (fun _ _=>rfl) rfl rfl (fun _=>rfl))))) (LSB.one (LSS.ite (LST.of (d:=20) C (by decide) (ST.and (.cons (ST.cmp nL SE.int rfl) (.cons (ST.cmp (SE.bin nL SE.int) SE.int rfl) (.cons (ST.cmp nL SE.int rfl) (.cons (ST.or (.cons (ST.cmp nL SE.int rfl) (.cons (ST.not (ST.val nL (fun _ _=>rfl))) .nil))) .nil)))))) (LSB.cons (LSS.of (d:=20) C (by decide) (SS.expr (SE.meth (clsQ P) mH nC SL.nil)))
 (LSB.cons (LSS.of (d:=20) C (by decide) (SS.assign (SE.bin nL SE.int)))
 (LSB.one (LSS.of (d:=20) C (by decide) (SS.assign (SE.len rfl (fun _=>rfl) (by kernel_rfl) nL (fun _=>rfl))))))) (LSB.one (LSS.ite (LST.of (d:=20) C (by decide) (ST.and (.cons (ST.cmp nL SE.int rfl) (.cons (ST.cmp (SE.bin nL SE.int) SE.int rfl) (.cons (ST.or (.cons (ST.val nL (fun _ _=>rfl)) (.cons (ST.cmp (SE.bin nL (SE.len rfl (fun _=>rfl) (by kernel_rfl) nL (fun _=>rfl))) nL rfl) .nil))) .nil))))) (LSB.cons (LSS.of (d:=20) C (by decide) (SS.expr (SE.meth (clsQ P) okQ_merge nC (SL.cons nL SL.nil))))
 (LSB.cons (LSS.of (d:=20) C (by decide) (SS.forL 100 rfl (fun _=>.inl rfl) nL (SB.one (SS.ite (ST.inL (neg:=true) rfl nL nL rfl) (SB.cons (SS.expr (SE.append nL nL (fun _=>⟨_,rfl⟩) (fun _=>rfl)))
 (SB.one (SS.assign (SE.bin nL SE.int)))) SB.nil)) (fun _ _=>rfl)))
 (LSB.one (LSS.of (d:=20) C (by decide) (SS.ite (ST.eqL (neg:=true) rfl (SE.sorted rfl (fun _=>rfl) (by kernel_rfl) (SE.meth (clsQ P) dI nL SL.nil) (fun _=>rfl)) (SE.sorted rfl (fun _=>rfl) (by kernel_rfl) nL (fun _=>rfl)) rfl) (SB.one (SS.ret SE.bool)) SB.nil))))) (LSB.one (LSS.ite (LST.of (d:=20) C (by decide) (ST.and (.cons (ST.cmp nL SE.int rfl) (.cons (ST.cmp (SE.bin nL SE.int) SE.int rfl) (.cons (ST.not (ST.val nL (fun _ _=>rfl))) (.cons (ST.cmp nL SE.int rfl) (.cons (ST.or (.cons (ST.cmp (SE.len rfl (fun _=>rfl) (by kernel_rfl) nL (fun _=>rfl)) SE.int rfl) (.cons (ST.cmp nL (SE.len rfl (fun _=>rfl) (by kernel_rfl) nL (fun _=>rfl)) rfl) .nil))) .nil))))))) (LSB.cons (LSS.ite (LST.cmp (LSE.refused (d:=20) C (by decide) (okRef (d:=21)) (by kernel_rfl) SE.glob (Inner.of (by kernel_rfl)) (fun _=>rfl) (fun _ _ _ _ _=>rfl) rfl rfl (SE.meth (clsQ P) qG nF (SL.cons SE.int SL.nil)) (SEX.meth (clsQ P) (by kernel_rfl) (by kernel_rfl) (by kernel_rfl) (FnBad.mono (qS hp) (by decide)) nF (SL.cons SE.int SL.nil) (fun _=>⟨_,rfl⟩) (fun _=>rfl)) (fun _=>rfl) (fun _=>rfl)) (LSE.of (d:=20) C (by decide) (SE.cmp (SE.len rfl (fun _=>rfl) (by kernel_rfl) nL (fun _=>rfl)) SE.int rfl)) rfl) (LSB.one (LSS.of (d:=20) C (by decide) (SS.ret SE.bool))) (LSB.nil C))
 (LSB.one (LSS.of (d:=20) C (by decide) (SS.ite (ST.cmp (SE.len rfl (fun _=>rfl) (by kernel_rfl) nL (fun _=>rfl)) SE.int rfl) (SB.one (SS.assign SE.int)) SB.nil)))) (LSB.one (LSS.of (d:=20) C (by decide) (SS.ite (ST.cmp nL SE.int rfl) (SB.one (SS.ite (ST.cmp (SE.inOb (by kernel_rfl) (by kernel_rfl) (FnOK.mono oG (by decide)) (SE.chr nL nL (fun _ _=>⟨_,rfl⟩)) nC rfl) (SE.inL (neg:=false) rfl nC nL rfl) rfl) (SB.one (SS.ret SE.bool)) SB.nil)) (SB.one (SS.ite (ST.cmp (SE.bin nL SE.int) SE.int rfl) (SB.one (SS.ite (ST.cmp (SE.meth (clsQ P) oH nC (SL.cons (SE.chr nL nL (fun _ _=>⟨_,rfl⟩)) SL.nil)) (SE.inL (neg:=false) rfl nC nL rfl) rfl) (SB.one (SS.ret SE.bool)) SB.nil)) (SB.one (SS.ite (ST.cmp (SE.meth (clsQ P) dR nC (SL.cons nC SL.nil)) (SE.inL (neg:=false) rfl nC nL rfl) rfl) (SB.one (SS.ret SE.bool)) SB.nil))))))))))))))))
 (LSB.one (LSS.of (d:=20) C (by decide) (SS.ite (ST.and (.cons (ST.cmp nL SE.int rfl) (.cons (ST.eqL (neg:=true) rfl (SE.sorted rfl (fun _=>rfl) (by kernel_rfl) (SE.meth (clsQ P) dI nC SL.nil) (fun _=>rfl)) (SE.sorted rfl (fun _=>rfl) (by kernel_rfl) nL (fun _=>rfl)) rfl) .nil))) (SB.one (SS.ret SE.bool)) SB.nil)))))))) (fun _ _=>rfl))
 (LSB.cons (f:=pI) (LSS.of (d:=20) C (by decide) (SS.forR rfl (fun _=>.inl rfl) (fun _=>rfl) (by kernel_rfl) (SL.cons (SE.bin (SE.idx nL SE.int) SE.int) (SL.cons SE.int (SL.cons SE.int SL.nil))) (SB.one (SS.ite (ST.cmp (SE.meth (clsQ P) dR nC (SL.cons (SE.fn SE.glob cR (SL.cons nL SL.nil)) SL.nil)) (SE.inL (neg:=false) rfl (SE.fn SE.glob cR (SL.cons nL SL.nil)) nL rfl) rfl) (SB.one (SS.ret SE.bool)) SB.nil)) (fun _=>rfl)))
 (LSB.cons (f:=pH) (LSS.ite (LST.or (.cons (LST.not (LST.val (LSE.refused (d:=20) C (by decide) (okRef (d:=21)) (by kernel_rfl) SE.glob (Inner.of (by kernel_rfl)) (fun _=>rfl) (fun _ _ _ _ _=>rfl) rfl rfl SE.dead (SEX.meth (clsQ P) (by kernel_rfl) (by kernel_rfl) (by kernel_rfl) (FnBad.mono (tY hp) (by decide)) nF (SL.cons (SE.new SE.glob (by kernel_rfl) (by kernel_rfl) (by kernel_rfl) (by kernel_rfl) (FnOK.mono kO (by decide)) (SL.cons SE.int (SL.cons SE.bool (SL.cons SE.glob SL.nil))) (fun _=>rfl) (fun _=>rfl)) SL.nil) (fun _=>⟨_,rfl⟩) (fun _=>rfl)) (fun _=>rfl) (fun _=>rfl)) (fun _ _=>rfl))) (.cons (LST.of (d:=20) C (by decide) (ST.eqL (neg:=true) rfl (SE.sorted rfl (fun _=>rfl) (by kernel_rfl) (SE.meth (clsQ P) dI nC SL.nil) (fun _=>rfl)) (SE.sorted rfl (fun _=>rfl) (by kernel_rfl) nL (fun _=>rfl)) rfl)) .nil))) (LSB.one (LSS.of (d:=20) C (by decide) (SS.ret SE.bool))) (LSB.nil C))
 (LSB.cons (f:=pG) (LSS.ite (LST.or (.cons (LST.not (LST.val (LSE.refused (d:=20) C (by decide) (okRef (d:=21)) (by kernel_rfl) SE.glob (Inner.of (by kernel_rfl)) (fun _=>rfl) (fun _ _ _ _ _=>rfl) rfl rfl SE.dead (SEX.new SE.glob (by kernel_rfl) (by kernel_rfl) (by kernel_rfl) (by kernel_rfl) (FnBad.mono (oY hp) (by decide)) (SL.cons SE.int SL.nil) (fun _=>rfl) (fun _=>rfl)) (fun _=>rfl) (fun _=>rfl)) (fun _ _=>rfl))) (.cons (LST.not (LST.val (LSE.refused (d:=20) C (by decide) (okRef (d:=21)) (by kernel_rfl) SE.glob (Inner.of (by kernel_rfl)) (fun _=>rfl) (fun _ _ _ _ _=>rfl) rfl rfl SE.dead (SEX.new SE.glob (by kernel_rfl) (by kernel_rfl) (by kernel_rfl) (by kernel_rfl) (FnBad.mono (oY hp) (by decide)) (SL.cons SE.int SL.nil) (fun _=>rfl) (fun _=>rfl)) (fun _=>rfl) (fun _=>rfl)) (fun _ _=>rfl))) .nil))) (LSB.one (LSS.of (d:=20) C (by decide) (SS.ret SE.bool))) (LSB.nil C))
 (LSB.cons (f:=sQ) (LSS.of (d:=20) C (by decide) (SS.assign (SE.new SE.glob (by kernel_rfl) (by kernel_rfl) (by kernel_rfl) (by kernel_rfl) (FnOK.mono kO (by decide)) (SL.cons SE.int (SL.cons SE.bool (SL.cons SE.glob SL.nil))) (fun _=>rfl) (fun _=>rfl))))
 (LSB.cons (f:=sP) (LSS.of (d:=20) C (by decide) (SS.assign (SE.list SL.nil)))
 (LSB.cons (f:=pF) (LSS.of (d:=20) C (by decide) (SS.forR rfl (fun _=>.inl rfl) (fun _=>rfl) (by kernel_rfl) (SL.cons SE.int SL.nil) (SB.one (SS.ite (ST.cmp (SE.bin (SE.idx nL SE.int) SE.int) SE.int rfl) (SB.one (SS.expr (SE.append nC (SE.fn SE.glob cR (SL.cons (SE.bin (SE.bin (SE.bin (SE.idx nL SE.int) (SE.bin (SE.bin nL SE.int) SE.int)) (SE.bin (SE.bin nL SE.int) SE.int)) SE.int) SL.nil)) (fun _=>⟨_,rfl⟩) (fun _=>rfl)))) (SB.one (SS.expr (SE.append nC (SE.fn SE.glob cR (SL.cons (SE.bin (SE.bin (SE.idx nL SE.int) (SE.bin nL SE.int)) SE.int) SL.nil)) (fun _=>⟨_,rfl⟩) (fun _=>rfl)))))) (fun _=>rfl)))
 (LSB.cons (f:=pE) (LSS.of (d:=20) C (by decide) (SS.forL 100 rfl (fun _=>.inr rfl) (SE.upto (k:=8) nC (fun _ _=>rfl) (fun _ _=>rfl)) (SB.one (SS.expr (SE.meth (clsQ P) dW nC (SL.cons nC SL.nil)))) (fun _ _=>rfl)))
 (LSB.cons (f:=sO) (LSS.of (d:=20) C (by decide) (SS.expr (SE.meth (clsQ P) dW nC (SL.cons (SE.idx nC SE.int) SL.nil))))
 (LSB.cons (f:=pD) (LSS.ite (LST.or (.cons (LST.not (LST.val (LSE.refused (d:=20) C (by decide) (okRef (d:=21)) (by kernel_rfl) SE.glob (Inner.of (by kernel_rfl)) (fun _=>rfl) (fun _ _ _ _ _=>rfl) rfl rfl SE.dead (SEX.meth (clsQ P) (by kernel_rfl) (by kernel_rfl) (by kernel_rfl) (FnBad.mono (oZ hp) (by decide)) nF (SL.cons (SE.idx nF SE.int) SL.nil) (fun _=>⟨_,rfl⟩) (fun _=>rfl)) (fun _=>rfl) (fun _=>rfl)) (fun _ _=>rfl))) (.cons (LST.of (d:=20) C (by decide) (ST.val (SE.meth (clsQ P) dR nC (SL.cons (SE.idx nC SE.int) SL.nil)) (fun _ _=>rfl))) .nil))) (LSB.one (LSS.of (d:=20) C (by decide) (SS.ret SE.bool))) (LSB.nil C))
 (LSB.one (f:=sN) (LSS.of (d:=20) C (by decide) (SS.ret (SE.eqL (neg:=false) rfl (SE.comp' (fr:=["small"]) 100 (by kernel_rfl) rfl (SE.upto (k:=8) nC (fun _ _=>rfl) (fun _ _=>rfl)) (STC.one (ST.not (ST.val (SE.meth (clsQ P) dR nC (SL.cons nL SL.nil)) (fun _ _=>rfl)))) nL (fun _ _=>rfl)) (SE.list SL.nil) rfl))))))))))))))))))))))))
end
end
end Mine
open PySem PySem.W PySem.Calls PyProof.Rows
theorem PySem.Challenge.cw_kg0023_01_holds : PySem.Challenge.rw_kg0023_01.Holds := by
  refine holds_law Mine.ws fun said=>holds_open (q:=Mine.cl0) (loose:=Mine.lo0) (Xt:=Mine.xt0) (XP:=XL Mine.cl0 []) (Yf:=Mine.hk0.obs) (Ya:=Mine.hk0.val) (YP:=Mine.hk0.says) (N:=7130) Mine.left0 Mine.hk0.of Mine.hk0.keeps
    (fun s e=>xl_of s (Bool.and_eq_true_iff.mp e).1) XL.keeps (by rfl) (by rfl) (by rfl) (fun s e=>recFacts_of (Bool.and_eq_true_iff.mp e).2) (by rfl) said (by decide +kernel) ⟨rfl,rfl,rfl,rfl,rfl,by decide +kernel⟩ ⟨[.list []],by decide +kernel,by decide +kernel⟩ ?_
  intro w s₀ s₁ mg mb G Y fa o pm cd doc dV kV ho hd hcd hD hmg hg args vals as hpre hlay hrd hwl hlo
  have KX:=km_in_of Y
  have hT8:=km_tabs_of Y
  refine Ground.open G ?_
  intro T B D TE TW
  have hT9:TabsAt ([(503,501)]:List (Addr×Addr)) s₁.heap:=List.forall_mem_cons.mpr ⟨⟨codeHd_of_K (c:=503) (P:=501) KX (by kernel_rfl),hT8 501 (.head _)⟩,fun _ h=>nomatch h⟩
  have he9:cd=Value.ref 503:=law_code (x:="law") (c:=503) (P:=501) KX (Top.g T) (by kernel_rfl) hmg ho hd
  subst he9
  clear hmg
  wrow_args hpre hlay hrd hwl hlo
  all_goals (
    first | refine callC_kw (enter_call ?_) | refine enter_call ?_
    w_top on
    refine Mine.fine_post hT9 (fun _=>rfl) ?_ ?_)
  · exact postW_of (by wrow_shape) (by wtm_val) (by first | rfl | (str_meet;first | done | w_fin))
  w_call any ho hd hcd hD T F
  clear hd
  kn_ghosts F T
  rename Fr (ghostOf _ _) _ _ _=>F9
  rename News (ghostOf _ _) _ _ _=>N9
  rename CodeHd (ghostOf _ _) _ _=>C9
  rename Heap.IsList (ghostOf _ _) _ _=>I9
  rename IntsAre _ _=>J9
  rename Top topProg _ _ _ _ _=>T9
  rename Frag.In _ (ghostOf _ _)=>X9
  have n501:(ghostOf s₁.heap [(503,501)]).get? 501=none:=(N9 (501,tabObj #[]) (by simp)).2.2
  have l501:501<(ghostOf s₁.heap [(503,501)]).objs.size:=Nat.lt_of_lt_of_eq (Heap.lt_size (hT9 _ (.head _)).2) (hideAll_size _ _).symm
  have ok:Mine.Stat (Mine.K0 w.params) (ghostOf s₁.heap [(503,501)]) mg mb:=⟨X9,T9.g,T9.b,T9.nolimit,T9.builtins⟩
  have K9:=Mine.okLaw (prog:=PySem.Challenge.rw_kg0023_01.row.prog) (w:=w) (P:=w.params) (ok:=ok) ⟨by rfl,by rfl⟩ I9 J9 (by lia)
  refine Mine.law_run K9 ⟨_,_,_,_,rfl,rfl,rfl⟩ rfl rfl F9 (by kernel_rfl) (by kernel_rfl) N9 (by assumption) (by assumption) (by assumption) (by assumption) l501 C9 (Mine.bat_of T9 n501) (Mine.law_ok rfl) ?_
  intro s' k os gens grown
  exact ⟨rfl,k,os,gens (.of_eq hg),⟨grown,trivial⟩⟩
