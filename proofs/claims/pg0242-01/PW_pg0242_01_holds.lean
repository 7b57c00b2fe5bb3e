import PyProof.Rows.All
import Wide.All
import OpenK.AllK
import Wide.FinOn
import PySem.Challenge.RW_pg0242_01
open PySem PySem.W PyProof.Rows PyProof.V PySem.Spec PySem.Calls
set_option Elab.async false
set_option maxRecDepth 100000
set_option maxHeartbeats 8000000
noncomputable section
namespace Mine
noncomputable def pwT.tw14499600553213025613:Program := PySem.Challenge.pw_pg0242_01
theorem pwT.te14499600553213025613:PySem.Challenge.pw_pg0242_01 = pwT.tw14499600553213025613 := rfl
set_option Elab.async true in
theorem pwT:(fun _:Program=>true) PySem.Challenge.pw_pg0242_01 = true := by k_qdec
theorem pwU:(fun _:Program=>true) PySem.Challenge.pw_pg0242_01 = true := pwT
set_option synthInstance.maxSize 1 in
open_top topT for PySem.Challenge.rw_pg0242_01

noncomputable abbrev KK (w:World):Frag := topT.heap_39 w.params
noncomputable abbrev PG:Program := PySem.Challenge.rw_pg0242_01.row.prog
noncomputable abbrev VW := topT.view_39
noncomputable abbrev LO:List Str := looseW topT.view_39 [PySem.Str.ofString "Whitespace"]
theorem exE1 {α:Type} {p:α→Prop} {G:Prop} (h:∃ a,p a) (k:∀ a,p a→G):G := Exists.elim h k
theorem exE2 {α:Type} {β:Type} {p:α→β→Prop} {G:Prop} (h:∃ a b,p a b) (k:∀ a b,p a b→G):G := Exists.elim h fun a h=>exE1 h (k a)
theorem exE3 {α:Type} {β:Type} {γ:Type} {p:α→β→γ→Prop} {G:Prop} (h:∃ a b c,p a b c) (k:∀ a b c,p a b c→G):G := Exists.elim h fun a h=>exE2 h (k a)
theorem exE4 {α:Type} {β:Type} {γ:Type} {δ:Type} {p:α→β→γ→δ→Prop} {G:Prop} (h:∃ a b c d,p a b c d) (k:∀ a b c d,p a b c d→G):G := Exists.elim h fun a h=>exE3 h (k a)
theorem exE5 {α:Type} {β:Type} {γ:Type} {δ:Type} {ε:Type} {p:α→β→γ→δ→ε→Prop} {G:Prop} (h:∃ a b c d e,p a b c d e) (k:∀ a b c d e,p a b c d e→G):G := Exists.elim h fun a h=>exE4 h (k a)
theorem andE2 {a b G:Prop} (h:a ∧ b) (k:a→b→G):G := k h.1 h.2
theorem andE3 {a b c G:Prop} (h:a ∧ b ∧ c) (k:a→b→c→G):G := k h.1 h.2.1 h.2.2
theorem andE4 {a b c d G:Prop} (h:a ∧ b ∧ c ∧ d) (k:a→b→c→d→G):G := k h.1 h.2.1 h.2.2.1 h.2.2.2
theorem andE5 {a b c d e G:Prop} (h:a ∧ b ∧ c ∧ d ∧ e) (k:a→b→c→d→e→G):G := k h.1 h.2.1 h.2.2.1 h.2.2.2.1 h.2.2.2.2
theorem andE6 {a b c d e f G:Prop} (h:a ∧ b ∧ c ∧ d ∧ e ∧ f) (k:a→b→c→d→e→f→G):G := k h.1 h.2.1 h.2.2.1 h.2.2.2.1 h.2.2.2.2.1 h.2.2.2.2.2
theorem andE7 {a b c d e f g G:Prop} (h:a ∧ b ∧ c ∧ d ∧ e ∧ f ∧ g) (k:a→b→c→d→e→f→g→G):G := k h.1 h.2.1 h.2.2.1 h.2.2.2.1 h.2.2.2.2.1 h.2.2.2.2.2.1 h.2.2.2.2.2.2
theorem andE8 {a b c d e f g i G:Prop} (h:a ∧ b ∧ c ∧ d ∧ e ∧ f ∧ g ∧ i) (k:a→b→c→d→e→f→g→i→G):G := k h.1 h.2.1 h.2.2.1 h.2.2.2.1 h.2.2.2.2.1 h.2.2.2.2.2.1 h.2.2.2.2.2.2.1 h.2.2.2.2.2.2.2
set_option linter.unusedVariables false
theorem neP:Nonempty Params := ⟨{ strHash := fun _=>0,shareClass := fun _=>0,mergeTok := fun t=>t,idOf := fun _=>0,idOfShared := fun _ _=>0,followText := fun _=>true,idOfImm := fun _=>0 }⟩
theorem neW:Nonempty World := neP.elim fun p=>⟨⟨fun _ _=>0,p⟩⟩
theorem neA:Nonempty Around := ⟨{}⟩
theorem neS:Nonempty Shared := ⟨{}⟩
noncomputable def bad {α:Type} (i:Nonempty α) (P:α→Prop):α := @Classical.epsilon α i fun x=>¬ P x
theorem bad_ok {α:Type} (i:Nonempty α) (P:α→Prop) (h:P (bad i P)):∀ x,P x := fun x=>Classical.byContradiction fun n=>@Classical.epsilon_spec_aux α i (fun x=>¬ P x) ⟨x,n⟩ h
theorem ne2 {α β:Type} (i:Nonempty α) (j:Nonempty β):Nonempty (α × β) := i.elim fun a=>j.elim fun b=>⟨(a,b)⟩
noncomputable abbrev NE (α:Type):Prop := Nonempty α
section
variable {A0 A1 A2:Type} (P:A0->A1->A2->Prop)
noncomputable def appT3 (a:A0)(b:A1)(c:A2):Prop:=P a b c
noncomputable def unT3 (t:A0×A1×A2):Prop:=appT3 P t.1 t.2.1 t.2.2
variable (a:NE A0)(b:NE A1)(c:NE A2)
noncomputable def tupT3:A0×A1×A2:=bad (ne2 a (ne2 b c)) (unT3 P)
theorem badT3 (h:unT3 P (tupT3 P a b c)):∀ a b c,P a b c:=fun a b c=>bad_ok _ (unT3 P) h (a,b,c)
end
section
variable {A0 A1 A2 A3 A4:Type} (P:A0->A1->A2->A3->A4->Prop)
noncomputable def appT5 (a:A0)(b:A1)(c:A2)(d:A3)(e:A4):Prop:=P a b c d e
noncomputable def unT5 (t:A0×A1×A2×A3×A4):Prop:=appT5 P t.1 t.2.1 t.2.2.1 t.2.2.2.1 t.2.2.2.2
variable (a:NE A0)(b:NE A1)(c:NE A2)(d:NE A3)(e:NE A4)
noncomputable def tupT5:A0×A1×A2×A3×A4:=bad (ne2 a (ne2 b (ne2 c (ne2 d e)))) (unT5 P)
theorem badT5 (h:unT5 P (tupT5 P a b c d e)):∀ a b c d e,P a b c d e:=fun a b c d e=>bad_ok _ (unT5 P) h (a,b,c,d,e)
end
section
variable {A0 A1 A2 A3 A4 A5 A6 A7 A8 A9 A10 A11 A12 A13 A14 A15 A16 A17 A18 A19 A20 A21 A22 A23 A24 A25:Type} (P:A0->A1->A2->A3->A4->A5->A6->A7->A8->A9->A10->A11->A12->A13->A14->A15->A16->A17->A18->A19->A20->A21->A22->A23->A24->A25->Prop)
noncomputable def appT26 (a:A0)(b:A1)(c:A2)(d:A3)(e:A4)(f:A5)(g:A6)(i:A7)(j:A8)(k:A9)(l:A10)(m:A11)(n:A12)(o:A13)(p:A14)(q:A15)(r:A16)(s:A17)(u:A18)(v:A19)(w:A20)(x:A21)(y:A22)(z:A23)(A:A24)(B:A25):Prop:=P a b c d e f g i j k l m n o p q r s u v w x y z A B
noncomputable def unT26 (t:A0×A1×A2×A3×A4×A5×A6×A7×A8×A9×A10×A11×A12×A13×A14×A15×A16×A17×A18×A19×A20×A21×A22×A23×A24×A25):Prop:=appT26 P t.1 t.2.1 t.2.2.1 t.2.2.2.1 t.2.2.2.2.1 t.2.2.2.2.2.1 t.2.2.2.2.2.2.1 t.2.2.2.2.2.2.2.1 t.2.2.2.2.2.2.2.2.1 t.2.2.2.2.2.2.2.2.2.1 t.2.2.2.2.2.2.2.2.2.2.1 t.2.2.2.2.2.2.2.2.2.2.2.1 t.2.2.2.2.2.2.2.2.2.2.2.2.1 t.2.2.2.2.2.2.2.2.2.2.2.2.2.1 t.2.2.2.2.2.2.2.2.2.2.2.2.2.2.1 t.2.2.2.2.2.2.2.2.2.2.2.2.2.2.2.1 t.2.2.2.2.2.2.2.2.2.2.2.2.2.2.2.2.1 t.2.2.2.2.2.2.2.2.2.2.2.2.2.2.2.2.2.1 t.2.2.2.2.2.2.2.2.2.2.2.2.2.2.2.2.2.2.1 t.2.2.2.2.2.2.2.2.2.2.2.2.2.2.2.2.2.2.2.1 t.2.2.2.2.2.2.2.2.2.2.2.2.2.2.2.2.2.2.2.2.1 t.2.2.2.2.2.2.2.2.2.2.2.2.2.2.2.2.2.2.2.2.2.1 t.2.2.2.2.2.2.2.2.2.2.2.2.2.2.2.2.2.2.2.2.2.2.1 t.2.2.2.2.2.2.2.2.2.2.2.2.2.2.2.2.2.2.2.2.2.2.2.1 t.2.2.2.2.2.2.2.2.2.2.2.2.2.2.2.2.2.2.2.2.2.2.2.2.1 t.2.2.2.2.2.2.2.2.2.2.2.2.2.2.2.2.2.2.2.2.2.2.2.2.2
variable (a:NE A0)(b:NE A1)(c:NE A2)(d:NE A3)(e:NE A4)(f:NE A5)(g:NE A6)(i:NE A7)(j:NE A8)(k:NE A9)(l:NE A10)(m:NE A11)(n:NE A12)(o:NE A13)(p:NE A14)(q:NE A15)(r:NE A16)(s:NE A17)(u:NE A18)(v:NE A19)(w:NE A20)(x:NE A21)(y:NE A22)(z:NE A23)(A:NE A24)(B:NE A25)
noncomputable def tupT26:A0×A1×A2×A3×A4×A5×A6×A7×A8×A9×A10×A11×A12×A13×A14×A15×A16×A17×A18×A19×A20×A21×A22×A23×A24×A25:=bad (ne2 a (ne2 b (ne2 c (ne2 d (ne2 e (ne2 f (ne2 g (ne2 i (ne2 j (ne2 k (ne2 l (ne2 m (ne2 n (ne2 o (ne2 p (ne2 q (ne2 r (ne2 s (ne2 u (ne2 v (ne2 w (ne2 x (ne2 y (ne2 z (ne2 A B))))))))))))))))))))))))) (unT26 P)
theorem badT26 (h:unT26 P (tupT26 P a b c d e f g i j k l m n o p q r s u v w x y z A B)):∀ a b c d e f g i j k l m n o p q r s u v w x y z A B,P a b c d e f g i j k l m n o p q r s u v w x y z A B:=fun a b c d e f g i j k l m n o p q r s u v w x y z A B=>bad_ok _ (unT26 P) h (a,b,c,d,e,f,g,i,j,k,l,m,n,o,p,q,r,s,u,v,w,x,y,z,A,B)
end
section
variable {A0 A1 A2 A3 A4 A5 A6 A7 A8 A9 A10 A11 A12 A13 A14 A15 A16 A17 A18 A19 A20 A21 A22 A23 A24 A25 A26 A27 A28 A29:Type} (P:A0->A1->A2->A3->A4->A5->A6->A7->A8->A9->A10->A11->A12->A13->A14->A15->A16->A17->A18->A19->A20->A21->A22->A23->A24->A25->A26->A27->A28->A29->Prop)
noncomputable def appT30 (a:A0)(b:A1)(c:A2)(d:A3)(e:A4)(f:A5)(g:A6)(i:A7)(j:A8)(k:A9)(l:A10)(m:A11)(n:A12)(o:A13)(p:A14)(q:A15)(r:A16)(s:A17)(u:A18)(v:A19)(w:A20)(x:A21)(y:A22)(z:A23)(A:A24)(B:A25)(C:A26)(D:A27)(E:A28)(F:A29):Prop:=P a b c d e f g i j k l m n o p q r s u v w x y z A B C D E F
noncomputable def unT30 (t:A0×A1×A2×A3×A4×A5×A6×A7×A8×A9×A10×A11×A12×A13×A14×A15×A16×A17×A18×A19×A20×A21×A22×A23×A24×A25×A26×A27×A28×A29):Prop:=appT30 P t.1 t.2.1 t.2.2.1 t.2.2.2.1 t.2.2.2.2.1 t.2.2.2.2.2.1 t.2.2.2.2.2.2.1 t.2.2.2.2.2.2.2.1 t.2.2.2.2.2.2.2.2.1 t.2.2.2.2.2.2.2.2.2.1 t.2.2.2.2.2.2.2.2.2.2.1 t.2.2.2.2.2.2.2.2.2.2.2.1 t.2.2.2.2.2.2.2.2.2.2.2.2.1 t.2.2.2.2.2.2.2.2.2.2.2.2.2.1 t.2.2.2.2.2.2.2.2.2.2.2.2.2.2.1 t.2.2.2.2.2.2.2.2.2.2.2.2.2.2.2.1 t.2.2.2.2.2.2.2.2.2.2.2.2.2.2.2.2.1 t.2.2.2.2.2.2.2.2.2.2.2.2.2.2.2.2.2.1 t.2.2.2.2.2.2.2.2.2.2.2.2.2.2.2.2.2.2.1 t.2.2.2.2.2.2.2.2.2.2.2.2.2.2.2.2.2.2.2.1 t.2.2.2.2.2.2.2.2.2.2.2.2.2.2.2.2.2.2.2.2.1 t.2.2.2.2.2.2.2.2.2.2.2.2.2.2.2.2.2.2.2.2.2.1 t.2.2.2.2.2.2.2.2.2.2.2.2.2.2.2.2.2.2.2.2.2.2.1 t.2.2.2.2.2.2.2.2.2.2.2.2.2.2.2.2.2.2.2.2.2.2.2.1 t.2.2.2.2.2.2.2.2.2.2.2.2.2.2.2.2.2.2.2.2.2.2.2.2.1 t.2.2.2.2.2.2.2.2.2.2.2.2.2.2.2.2.2.2.2.2.2.2.2.2.2.1 t.2.2.2.2.2.2.2.2.2.2.2.2.2.2.2.2.2.2.2.2.2.2.2.2.2.2.1 t.2.2.2.2.2.2.2.2.2.2.2.2.2.2.2.2.2.2.2.2.2.2.2.2.2.2.2.1 t.2.2.2.2.2.2.2.2.2.2.2.2.2.2.2.2.2.2.2.2.2.2.2.2.2.2.2.2.1 t.2.2.2.2.2.2.2.2.2.2.2.2.2.2.2.2.2.2.2.2.2.2.2.2.2.2.2.2.2
variable (a:NE A0)(b:NE A1)(c:NE A2)(d:NE A3)(e:NE A4)(f:NE A5)(g:NE A6)(i:NE A7)(j:NE A8)(k:NE A9)(l:NE A10)(m:NE A11)(n:NE A12)(o:NE A13)(p:NE A14)(q:NE A15)(r:NE A16)(s:NE A17)(u:NE A18)(v:NE A19)(w:NE A20)(x:NE A21)(y:NE A22)(z:NE A23)(A:NE A24)(B:NE A25)(C:NE A26)(D:NE A27)(E:NE A28)(F:NE A29)
noncomputable def tupT30:A0×A1×A2×A3×A4×A5×A6×A7×A8×A9×A10×A11×A12×A13×A14×A15×A16×A17×A18×A19×A20×A21×A22×A23×A24×A25×A26×A27×A28×A29:=bad (ne2 a (ne2 b (ne2 c (ne2 d (ne2 e (ne2 f (ne2 g (ne2 i (ne2 j (ne2 k (ne2 l (ne2 m (ne2 n (ne2 o (ne2 p (ne2 q (ne2 r (ne2 s (ne2 u (ne2 v (ne2 w (ne2 x (ne2 y (ne2 z (ne2 A (ne2 B (ne2 C (ne2 D (ne2 E F))))))))))))))))))))))))))))) (unT30 P)
theorem badT30 (h:unT30 P (tupT30 P a b c d e f g i j k l m n o p q r s u v w x y z A B C D E F)):∀ a b c d e f g i j k l m n o p q r s u v w x y z A B C D E F,P a b c d e f g i j k l m n o p q r s u v w x y z A B C D E F:=fun a b c d e f g i j k l m n o p q r s u v w x y z A B C D E F=>bad_ok _ (unT30 P) h (a,b,c,d,e,f,g,i,j,k,l,m,n,o,p,q,r,s,u,v,w,x,y,z,A,B,C,D,E,F)
end
section
variable {A0 A1 A2 A3 A4 A5 A6 A7 A8 A9 A10 A11 A12 A13 A14 A15 A16 A17 A18 A19 A20 A21 A22 A23 A24 A25 A26 A27 A28 A29 A30 A31 A32 A33 A34 A35:Type} (P:A0->A1->A2->A3->A4->A5->A6->A7->A8->A9->A10->A11->A12->A13->A14->A15->A16->A17->A18->A19->A20->A21->A22->A23->A24->A25->A26->A27->A28->A29->A30->A31->A32->A33->A34->A35->Prop)
noncomputable def appT36 (a:A0)(b:A1)(c:A2)(d:A3)(e:A4)(f:A5)(g:A6)(i:A7)(j:A8)(k:A9)(l:A10)(m:A11)(n:A12)(o:A13)(p:A14)(q:A15)(r:A16)(s:A17)(u:A18)(v:A19)(w:A20)(x:A21)(y:A22)(z:A23)(A:A24)(B:A25)(C:A26)(D:A27)(E:A28)(F:A29)(G:A30)(H:A31)(I:A32)(J:A33)(K:A34)(L:A35):Prop:=P a b c d e f g i j k l m n o p q r s u v w x y z A B C D E F G H I J K L
noncomputable def unT36 (t:A0×A1×A2×A3×A4×A5×A6×A7×A8×A9×A10×A11×A12×A13×A14×A15×A16×A17×A18×A19×A20×A21×A22×A23×A24×A25×A26×A27×A28×A29×A30×A31×A32×A33×A34×A35):Prop:=appT36 P t.1 t.2.1 t.2.2.1 t.2.2.2.1 t.2.2.2.2.1 t.2.2.2.2.2.1 t.2.2.2.2.2.2.1 t.2.2.2.2.2.2.2.1 t.2.2.2.2.2.2.2.2.1 t.2.2.2.2.2.2.2.2.2.1 t.2.2.2.2.2.2.2.2.2.2.1 t.2.2.2.2.2.2.2.2.2.2.2.1 t.2.2.2.2.2.2.2.2.2.2.2.2.1 t.2.2.2.2.2.2.2.2.2.2.2.2.2.1 t.2.2.2.2.2.2.2.2.2.2.2.2.2.2.1 t.2.2.2.2.2.2.2.2.2.2.2.2.2.2.2.1 t.2.2.2.2.2.2.2.2.2.2.2.2.2.2.2.2.1 t.2.2.2.2.2.2.2.2.2.2.2.2.2.2.2.2.2.1 t.2.2.2.2.2.2.2.2.2.2.2.2.2.2.2.2.2.2.1 t.2.2.2.2.2.2.2.2.2.2.2.2.2.2.2.2.2.2.2.1 t.2.2.2.2.2.2.2.2.2.2.2.2.2.2.2.2.2.2.2.2.1 t.2.2.2.2.2.2.2.2.2.2.2.2.2.2.2.2.2.2.2.2.2.1 t.2.2.2.2.2.2.2.2.2.2.2.2.2.2.2.2.2.2.2.2.2.2.1 t.2.2.2.2.2.2.2.2.2.2.2.2.2.2.2.2.2.2.2.2.2.2.2.1 t.2.2.2.2.2.2.2.2.2.2.2.2.2.2.2.2.2.2.2.2.2.2.2.2.1 t.2.2.2.2.2.2.2.2.2.2.2.2.2.2.2.2.2.2.2.2.2.2.2.2.2.1 t.2.2.2.2.2.2.2.2.2.2.2.2.2.2.2.2.2.2.2.2.2.2.2.2.2.2.1 t.2.2.2.2.2.2.2.2.2.2.2.2.2.2.2.2.2.2.2.2.2.2.2.2.2.2.2.1 t.2.2.2.2.2.2.2.2.2.2.2.2.2.2.2.2.2.2.2.2.2.2.2.2.2.2.2.2.1 t.2.2.2.2.2.2.2.2.2.2.2.2.2.2.2.2.2.2.2.2.2.2.2.2.2.2.2.2.2.1 t.2.2.2.2.2.2.2.2.2.2.2.2.2.2.2.2.2.2.2.2.2.2.2.2.2.2.2.2.2.2.1 t.2.2.2.2.2.2.2.2.2.2.2.2.2.2.2.2.2.2.2.2.2.2.2.2.2.2.2.2.2.2.2.1 t.2.2.2.2.2.2.2.2.2.2.2.2.2.2.2.2.2.2.2.2.2.2.2.2.2.2.2.2.2.2.2.2.1 t.2.2.2.2.2.2.2.2.2.2.2.2.2.2.2.2.2.2.2.2.2.2.2.2.2.2.2.2.2.2.2.2.2.1 t.2.2.2.2.2.2.2.2.2.2.2.2.2.2.2.2.2.2.2.2.2.2.2.2.2.2.2.2.2.2.2.2.2.2.1 t.2.2.2.2.2.2.2.2.2.2.2.2.2.2.2.2.2.2.2.2.2.2.2.2.2.2.2.2.2.2.2.2.2.2.2
variable (a:NE A0)(b:NE A1)(c:NE A2)(d:NE A3)(e:NE A4)(f:NE A5)(g:NE A6)(i:NE A7)(j:NE A8)(k:NE A9)(l:NE A10)(m:NE A11)(n:NE A12)(o:NE A13)(p:NE A14)(q:NE A15)(r:NE A16)(s:NE A17)(u:NE A18)(v:NE A19)(w:NE A20)(x:NE A21)(y:NE A22)(z:NE A23)(A:NE A24)(B:NE A25)(C:NE A26)(D:NE A27)(E:NE A28)(F:NE A29)(G:NE A30)(H:NE A31)(I:NE A32)(J:NE A33)(K:NE A34)(L:NE A35)
noncomputable def tupT36:A0×A1×A2×A3×A4×A5×A6×A7×A8×A9×A10×A11×A12×A13×A14×A15×A16×A17×A18×A19×A20×A21×A22×A23×A24×A25×A26×A27×A28×A29×A30×A31×A32×A33×A34×A35:=bad (ne2 a (ne2 b (ne2 c (ne2 d (ne2 e (ne2 f (ne2 g (ne2 i (ne2 j (ne2 k (ne2 l (ne2 m (ne2 n (ne2 o (ne2 p (ne2 q (ne2 r (ne2 s (ne2 u (ne2 v (ne2 w (ne2 x (ne2 y (ne2 z (ne2 A (ne2 B (ne2 C (ne2 D (ne2 E (ne2 F (ne2 G (ne2 H (ne2 I (ne2 J (ne2 K L))))))))))))))))))))))))))))))))))) (unT36 P)
theorem badT36 (h:unT36 P (tupT36 P a b c d e f g i j k l m n o p q r s u v w x y z A B C D E F G H I J K L)):∀ a b c d e f g i j k l m n o p q r s u v w x y z A B C D E F G H I J K L,P a b c d e f g i j k l m n o p q r s u v w x y z A B C D E F G H I J K L:=fun a b c d e f g i j k l m n o p q r s u v w x y z A B C D E F G H I J K L=>bad_ok _ (unT36 P) h (a,b,c,d,e,f,g,i,j,k,l,m,n,o,p,q,r,s,u,v,w,x,y,z,A,B,C,D,E,F,G,H,I,J,K,L)
end
section
variable {A0 A1 A2 A3 A4 A5 A6 A7 A8 A9 A10 A11 A12 A13 A14 A15 A16 A17 A18 A19 A20 A21 A22 A23 A24 A25 A26 A27 A28 A29 A30 A31 A32 A33 A34 A35 A36 A37 A38 A39 A40 A41:Type} (P:A0->A1->A2->A3->A4->A5->A6->A7->A8->A9->A10->A11->A12->A13->A14->A15->A16->A17->A18->A19->A20->A21->A22->A23->A24->A25->A26->A27->A28->A29->A30->A31->A32->A33->A34->A35->A36->A37->A38->A39->A40->A41->Prop)
noncomputable def appT42 (a:A0)(b:A1)(c:A2)(d:A3)(e:A4)(f:A5)(g:A6)(i:A7)(j:A8)(k:A9)(l:A10)(m:A11)(n:A12)(o:A13)(p:A14)(q:A15)(r:A16)(s:A17)(u:A18)(v:A19)(w:A20)(x:A21)(y:A22)(z:A23)(A:A24)(B:A25)(C:A26)(D:A27)(E:A28)(F:A29)(G:A30)(H:A31)(I:A32)(J:A33)(K:A34)(L:A35)(M:A36)(N:A37)(O:A38)(Q:A39)(R:A40)(S:A41):Prop:=P a b c d e f g i j k l m n o p q r s u v w x y z A B C D E F G H I J K L M N O Q R S
noncomputable def unT42 (t:A0×A1×A2×A3×A4×A5×A6×A7×A8×A9×A10×A11×A12×A13×A14×A15×A16×A17×A18×A19×A20×A21×A22×A23×A24×A25×A26×A27×A28×A29×A30×A31×A32×A33×A34×A35×A36×A37×A38×A39×A40×A41):Prop:=appT42 P t.1 t.2.1 t.2.2.1 t.2.2.2.1 t.2.2.2.2.1 t.2.2.2.2.2.1 t.2.2.2.2.2.2.1 t.2.2.2.2.2.2.2.1 t.2.2.2.2.2.2.2.2.1 t.2.2.2.2.2.2.2.2.2.1 t.2.2.2.2.2.2.2.2.2.2.1 t.2.2.2.2.2.2.2.2.2.2.2.1 t.2.2.2.2.2.2.2.2.2.2.2.2.1 t.2.2.2.2.2.2.2.2.2.2.2.2.2.1 t.2.2.2.2.2.2.2.2.2.2.2.2.2.2.1 t.2.2.2.2.2.2.2.2.2.2.2.2.2.2.2.1 t.2.2.2.2.2.2.2.2.2.2.2.2.2.2.2.2.1 t.2.2.2.2.2.2.2.2.2.2.2.2.2.2.2.2.2.1 t.2.2.2.2.2.2.2.2.2.2.2.2.2.2.2.2.2.2.1 t.2.2.2.2.2.2.2.2.2.2.2.2.2.2.2.2.2.2.2.1 t.2.2.2.2.2.2.2.2.2.2.2.2.2.2.2.2.2.2.2.2.1 t.2.2.2.2.2.2.2.2.2.2.2.2.2.2.2.2.2.2.2.2.2.1 t.2.2.2.2.2.2.2.2.2.2.2.2.2.2.2.2.2.2.2.2.2.2.1 t.2.2.2.2.2.2.2.2.2.2.2.2.2.2.2.2.2.2.2.2.2.2.2.1 t.2.2.2.2.2.2.2.2.2.2.2.2.2.2.2.2.2.2.2.2.2.2.2.2.1 t.2.2.2.2.2.2.2.2.2.2.2.2.2.2.2.2.2.2.2.2.2.2.2.2.2.1 t.2.2.2.2.2.2.2.2.2.2.2.2.2.2.2.2.2.2.2.2.2.2.2.2.2.2.1 t.2.2.2.2.2.2.2.2.2.2.2.2.2.2.2.2.2.2.2.2.2.2.2.2.2.2.2.1 t.2.2.2.2.2.2.2.2.2.2.2.2.2.2.2.2.2.2.2.2.2.2.2.2.2.2.2.2.1 t.2.2.2.2.2.2.2.2.2.2.2.2.2.2.2.2.2.2.2.2.2.2.2.2.2.2.2.2.2.1 t.2.2.2.2.2.2.2.2.2.2.2.2.2.2.2.2.2.2.2.2.2.2.2.2.2.2.2.2.2.2.1 t.2.2.2.2.2.2.2.2.2.2.2.2.2.2.2.2.2.2.2.2.2.2.2.2.2.2.2.2.2.2.2.1 t.2.2.2.2.2.2.2.2.2.2.2.2.2.2.2.2.2.2.2.2.2.2.2.2.2.2.2.2.2.2.2.2.1 t.2.2.2.2.2.2.2.2.2.2.2.2.2.2.2.2.2.2.2.2.2.2.2.2.2.2.2.2.2.2.2.2.2.1 t.2.2.2.2.2.2.2.2.2.2.2.2.2.2.2.2.2.2.2.2.2.2.2.2.2.2.2.2.2.2.2.2.2.2.1 t.2.2.2.2.2.2.2.2.2.2.2.2.2.2.2.2.2.2.2.2.2.2.2.2.2.2.2.2.2.2.2.2.2.2.2.1 t.2.2.2.2.2.2.2.2.2.2.2.2.2.2.2.2.2.2.2.2.2.2.2.2.2.2.2.2.2.2.2.2.2.2.2.2.1 t.2.2.2.2.2.2.2.2.2.2.2.2.2.2.2.2.2.2.2.2.2.2.2.2.2.2.2.2.2.2.2.2.2.2.2.2.2.1 t.2.2.2.2.2.2.2.2.2.2.2.2.2.2.2.2.2.2.2.2.2.2.2.2.2.2.2.2.2.2.2.2.2.2.2.2.2.2.1 t.2.2.2.2.2.2.2.2.2.2.2.2.2.2.2.2.2.2.2.2.2.2.2.2.2.2.2.2.2.2.2.2.2.2.2.2.2.2.2.1 t.2.2.2.2.2.2.2.2.2.2.2.2.2.2.2.2.2.2.2.2.2.2.2.2.2.2.2.2.2.2.2.2.2.2.2.2.2.2.2.2.1 t.2.2.2.2.2.2.2.2.2.2.2.2.2.2.2.2.2.2.2.2.2.2.2.2.2.2.2.2.2.2.2.2.2.2.2.2.2.2.2.2.2
variable (a:NE A0)(b:NE A1)(c:NE A2)(d:NE A3)(e:NE A4)(f:NE A5)(g:NE A6)(i:NE A7)(j:NE A8)(k:NE A9)(l:NE A10)(m:NE A11)(n:NE A12)(o:NE A13)(p:NE A14)(q:NE A15)(r:NE A16)(s:NE A17)(u:NE A18)(v:NE A19)(w:NE A20)(x:NE A21)(y:NE A22)(z:NE A23)(A:NE A24)(B:NE A25)(C:NE A26)(D:NE A27)(E:NE A28)(F:NE A29)(G:NE A30)(H:NE A31)(I:NE A32)(J:NE A33)(K:NE A34)(L:NE A35)(M:NE A36)(N:NE A37)(O:NE A38)(Q:NE A39)(R:NE A40)(S:NE A41)
noncomputable def tupT42:A0×A1×A2×A3×A4×A5×A6×A7×A8×A9×A10×A11×A12×A13×A14×A15×A16×A17×A18×A19×A20×A21×A22×A23×A24×A25×A26×A27×A28×A29×A30×A31×A32×A33×A34×A35×A36×A37×A38×A39×A40×A41:=bad (ne2 a (ne2 b (ne2 c (ne2 d (ne2 e (ne2 f (ne2 g (ne2 i (ne2 j (ne2 k (ne2 l (ne2 m (ne2 n (ne2 o (ne2 p (ne2 q (ne2 r (ne2 s (ne2 u (ne2 v (ne2 w (ne2 x (ne2 y (ne2 z (ne2 A (ne2 B (ne2 C (ne2 D (ne2 E (ne2 F (ne2 G (ne2 H (ne2 I (ne2 J (ne2 K (ne2 L (ne2 M (ne2 N (ne2 O (ne2 Q (ne2 R S))))))))))))))))))))))))))))))))))))))))) (unT42 P)
theorem badT42 (h:unT42 P (tupT42 P a b c d e f g i j k l m n o p q r s u v w x y z A B C D E F G H I J K L M N O Q R S)):∀ a b c d e f g i j k l m n o p q r s u v w x y z A B C D E F G H I J K L M N O Q R S,P a b c d e f g i j k l m n o p q r s u v w x y z A B C D E F G H I J K L M N O Q R S:=fun a b c d e f g i j k l m n o p q r s u v w x y z A B C D E F G H I J K L M N O Q R S=>bad_ok _ (unT42 P) h (a,b,c,d,e,f,g,i,j,k,l,m,n,o,p,q,r,s,u,v,w,x,y,z,A,B,C,D,E,F,G,H,I,J,K,L,M,N,O,Q,R,S)
end
section
variable {A0 A1 A2 A3 A4 A5 A6 A7 A8 A9 A10 A11 A12 A13 A14 A15 A16 A17 A18 A19 A20 A21 A22 A23 A24 A25 A26 A27 A28 A29 A30 A31 A32 A33 A34 A35 A36 A37 A38 A39 A40 A41 A42 A43 A44 A45 A46 A47 A48 A49 A50 A51 A52 A53:Type} (P:A0->A1->A2->A3->A4->A5->A6->A7->A8->A9->A10->A11->A12->A13->A14->A15->A16->A17->A18->A19->A20->A21->A22->A23->A24->A25->A26->A27->A28->A29->A30->A31->A32->A33->A34->A35->A36->A37->A38->A39->A40->A41->A42->A43->A44->A45->A46->A47->A48->A49->A50->A51->A52->A53->Prop)
noncomputable def appT54 (a:A0)(b:A1)(c:A2)(d:A3)(e:A4)(f:A5)(g:A6)(i:A7)(j:A8)(k:A9)(l:A10)(m:A11)(n:A12)(o:A13)(p:A14)(q:A15)(r:A16)(s:A17)(u:A18)(v:A19)(w:A20)(x:A21)(y:A22)(z:A23)(A:A24)(B:A25)(C:A26)(D:A27)(E:A28)(F:A29)(G:A30)(H:A31)(I:A32)(J:A33)(K:A34)(L:A35)(M:A36)(N:A37)(O:A38)(Q:A39)(R:A40)(S:A41)(T:A42)(U:A43)(V:A44)(W:A45)(X:A46)(Y:A47)(Z:A48)(i0:A49)(i1:A50)(i2:A51)(i3:A52)(i4:A53):Prop:=P a b c d e f g i j k l m n o p q r s u v w x y z A B C D E F G H I J K L M N O Q R S T U V W X Y Z i0 i1 i2 i3 i4
noncomputable def unT54 (t:A0×A1×A2×A3×A4×A5×A6×A7×A8×A9×A10×A11×A12×A13×A14×A15×A16×A17×A18×A19×A20×A21×A22×A23×A24×A25×A26×A27×A28×A29×A30×A31×A32×A33×A34×A35×A36×A37×A38×A39×A40×A41×A42×A43×A44×A45×A46×A47×A48×A49×A50×A51×A52×A53):Prop:=appT54 P t.1 t.2.1 t.2.2.1 t.2.2.2.1 t.2.2.2.2.1 t.2.2.2.2.2.1 t.2.2.2.2.2.2.1 t.2.2.2.2.2.2.2.1 t.2.2.2.2.2.2.2.2.1 t.2.2.2.2.2.2.2.2.2.1 t.2.2.2.2.2.2.2.2.2.2.1 t.2.2.2.2.2.2.2.2.2.2.2.1 t.2.2.2.2.2.2.2.2.2.2.2.2.1 t.2.2.2.2.2.2.2.2.2.2.2.2.2.1 t.2.2.2.2.2.2.2.2.2.2.2.2.2.2.1 t.2.2.2.2.2.2.2.2.2.2.2.2.2.2.2.1 t.2.2.2.2.2.2.2.2.2.2.2.2.2.2.2.2.1 t.2.2.2.2.2.2.2.2.2.2.2.2.2.2.2.2.2.1 t.2.2.2.2.2.2.2.2.2.2.2.2.2.2.2.2.2.2.1 t.2.2.2.2.2.2.2.2.2.2.2.2.2.2.2.2.2.2.2.1 t.2.2.2.2.2.2.2.2.2.2.2.2.2.2.2.2.2.2.2.2.1 t.2.2.2.2.2.2.2.2.2.2.2.2.2.2.2.2.2.2.2.2.2.1 t.2.2.2.2.2.2.2.2.2.2.2.2.2.2.2.2.2.2.2.2.2.2.1 t.2.2.2.2.2.2.2.2.2.2.2.2.2.2.2.2.2.2.2.2.2.2.2.1 t.2.2.2.2.2.2.2.2.2.2.2.2.2.2.2.2.2.2.2.2.2.2.2.2.1 t.2.2.2.2.2.2.2.2.2.2.2.2.2.2.2.2.2.2.2.2.2.2.2.2.2.1 t.2.2.2.2.2.2.2.2.2.2.2.2.2.2.2.2.2.2.2.2.2.2.2.2.2.2.1 t.2.2.2.2.2.2.2.2.2.2.2.2.2.2.2.2.2.2.2.2.2.2.2.2.2.2.2.1 t.2.2.2.2.2.2.2.2.2.2.2.2.2.2.2.2.2.2.2.2.2.2.2.2.2.2.2.2.1 t.2.2.2.2.2.2.2.2.2.2.2.2.2.2.2.2.2.2.2.2.2.2.2.2.2.2.2.2.2.1 t.2.2.2.2.2.2.2.2.2.2.2.2.2.2.2.2.2.2.2.2.2.2.2.2.2.2.2.2.2.2.1 t.2.2.2.2.2.2.2.2.2.2.2.2.2.2.2.2.2.2.2.2.2.2.2.2.2.2.2.2.2.2.2.1 t.2.2.2.2.2.2.2.2.2.2.2.2.2.2.2.2.2.2.2.2.2.2.2.2.2.2.2.2.2.2.2.2.1 t.2.2.2.2.2.2.2.2.2.2.2.2.2.2.2.2.2.2.2.2.2.2.2.2.2.2.2.2.2.2.2.2.2.1 t.2.2.2.2.2.2.2.2.2.2.2.2.2.2.2.2.2.2.2.2.2.2.2.2.2.2.2.2.2.2.2.2.2.2.1 t.2.2.2.2.2.2.2.2.2.2.2.2.2.2.2.2.2.2.2.2.2.2.2.2.2.2.2.2.2.2.2.2.2.2.2.1 t.2.2.2.2.2.2.2.2.2.2.2.2.2.2.2.2.2.2.2.2.2.2.2.2.2.2.2.2.2.2.2.2.2.2.2.2.1 t.2.2.2.2.2.2.2.2.2.2.2.2.2.2.2.2.2.2.2.2.2.2.2.2.2.2.2.2.2.2.2.2.2.2.2.2.2.1 t.2.2.2.2.2.2.2.2.2.2.2.2.2.2.2.2.2.2.2.2.2.2.2.2.2.2.2.2.2.2.2.2.2.2.2.2.2.2.1 t.2.2.2.2.2.2.2.2.2.2.2.2.2.2.2.2.2.2.2.2.2.2.2.2.2.2.2.2.2.2.2.2.2.2.2.2.2.2.2.1 t.2.2.2.2.2.2.2.2.2.2.2.2.2.2.2.2.2.2.2.2.2.2.2.2.2.2.2.2.2.2.2.2.2.2.2.2.2.2.2.2.1 t.2.2.2.2.2.2.2.2.2.2.2.2.2.2.2.2.2.2.2.2.2.2.2.2.2.2.2.2.2.2.2.2.2.2.2.2.2.2.2.2.2.1 t.2.2.2.2.2.2.2.2.2.2.2.2.2.2.2.2.2.2.2.2.2.2.2.2.2.2.2.2.2.2.2.2.2.2.2.2.2.2.2.2.2.2.1 t.2.2.2.2.2.2.2.2.2.2.2.2.2.2.2.2.2.2.2.2.2.2.2.2.2.2.2.2.2.2.2.2.2.2.2.2.2.2.2.2.2.2.2.1 t.2.2.2.2.2.2.2.2.2.2.2.2.2.2.2.2.2.2.2.2.2.2.2.2.2.2.2.2.2.2.2.2.2.2.2.2.2.2.2.2.2.2.2.2.1 t.2.2.2.2.2.2.2.2.2.2.2.2.2.2.2.2.2.2.2.2.2.2.2.2.2.2.2.2.2.2.2.2.2.2.2.2.2.2.2.2.2.2.2.2.2.1 t.2.2.2.2.2.2.2.2.2.2.2.2.2.2.2.2.2.2.2.2.2.2.2.2.2.2.2.2.2.2.2.2.2.2.2.2.2.2.2.2.2.2.2.2.2.2.1 t.2.2.2.2.2.2.2.2.2.2.2.2.2.2.2.2.2.2.2.2.2.2.2.2.2.2.2.2.2.2.2.2.2.2.2.2.2.2.2.2.2.2.2.2.2.2.2.1 t.2.2.2.2.2.2.2.2.2.2.2.2.2.2.2.2.2.2.2.2.2.2.2.2.2.2.2.2.2.2.2.2.2.2.2.2.2.2.2.2.2.2.2.2.2.2.2.2.1 t.2.2.2.2.2.2.2.2.2.2.2.2.2.2.2.2.2.2.2.2.2.2.2.2.2.2.2.2.2.2.2.2.2.2.2.2.2.2.2.2.2.2.2.2.2.2.2.2.2.1 t.2.2.2.2.2.2.2.2.2.2.2.2.2.2.2.2.2.2.2.2.2.2.2.2.2.2.2.2.2.2.2.2.2.2.2.2.2.2.2.2.2.2.2.2.2.2.2.2.2.2.1 t.2.2.2.2.2.2.2.2.2.2.2.2.2.2.2.2.2.2.2.2.2.2.2.2.2.2.2.2.2.2.2.2.2.2.2.2.2.2.2.2.2.2.2.2.2.2.2.2.2.2.2.1 t.2.2.2.2.2.2.2.2.2.2.2.2.2.2.2.2.2.2.2.2.2.2.2.2.2.2.2.2.2.2.2.2.2.2.2.2.2.2.2.2.2.2.2.2.2.2.2.2.2.2.2.2.1 t.2.2.2.2.2.2.2.2.2.2.2.2.2.2.2.2.2.2.2.2.2.2.2.2.2.2.2.2.2.2.2.2.2.2.2.2.2.2.2.2.2.2.2.2.2.2.2.2.2.2.2.2.2
variable (a:NE A0)(b:NE A1)(c:NE A2)(d:NE A3)(e:NE A4)(f:NE A5)(g:NE A6)(i:NE A7)(j:NE A8)(k:NE A9)(l:NE A10)(m:NE A11)(n:NE A12)(o:NE A13)(p:NE A14)(q:NE A15)(r:NE A16)(s:NE A17)(u:NE A18)(v:NE A19)(w:NE A20)(x:NE A21)(y:NE A22)(z:NE A23)(A:NE A24)(B:NE A25)(C:NE A26)(D:NE A27)(E:NE A28)(F:NE A29)(G:NE A30)(H:NE A31)(I:NE A32)(J:NE A33)(K:NE A34)(L:NE A35)(M:NE A36)(N:NE A37)(O:NE A38)(Q:NE A39)(R:NE A40)(S:NE A41)(T:NE A42)(U:NE A43)(V:NE A44)(W:NE A45)(X:NE A46)(Y:NE A47)(Z:NE A48)(i0:NE A49)(i1:NE A50)(i2:NE A51)(i3:NE A52)(i4:NE A53)
noncomputable def tupT54:A0×A1×A2×A3×A4×A5×A6×A7×A8×A9×A10×A11×A12×A13×A14×A15×A16×A17×A18×A19×A20×A21×A22×A23×A24×A25×A26×A27×A28×A29×A30×A31×A32×A33×A34×A35×A36×A37×A38×A39×A40×A41×A42×A43×A44×A45×A46×A47×A48×A49×A50×A51×A52×A53:=bad (ne2 a (ne2 b (ne2 c (ne2 d (ne2 e (ne2 f (ne2 g (ne2 i (ne2 j (ne2 k (ne2 l (ne2 m (ne2 n (ne2 o (ne2 p (ne2 q (ne2 r (ne2 s (ne2 u (ne2 v (ne2 w (ne2 x (ne2 y (ne2 z (ne2 A (ne2 B (ne2 C (ne2 D (ne2 E (ne2 F (ne2 G (ne2 H (ne2 I (ne2 J (ne2 K (ne2 L (ne2 M (ne2 N (ne2 O (ne2 Q (ne2 R (ne2 S (ne2 T (ne2 U (ne2 V (ne2 W (ne2 X (ne2 Y (ne2 Z (ne2 i0 (ne2 i1 (ne2 i2 (ne2 i3 i4))))))))))))))))))))))))))))))))))))))))))))))))))))) (unT54 P)
theorem badT54 (h:unT54 P (tupT54 P a b c d e f g i j k l m n o p q r s u v w x y z A B C D E F G H I J K L M N O Q R S T U V W X Y Z i0 i1 i2 i3 i4)):∀ a b c d e f g i j k l m n o p q r s u v w x y z A B C D E F G H I J K L M N O Q R S T U V W X Y Z i0 i1 i2 i3 i4,P a b c d e f g i j k l m n o p q r s u v w x y z A B C D E F G H I J K L M N O Q R S T U V W X Y Z i0 i1 i2 i3 i4:=fun a b c d e f g i j k l m n o p q r s u v w x y z A B C D E F G H I J K L M N O Q R S T U V W X Y Z i0 i1 i2 i3 i4=>bad_ok _ (unT54 P) h (a,b,c,d,e,f,g,i,j,k,l,m,n,o,p,q,r,s,u,v,w,x,y,z,A,B,C,D,E,F,G,H,I,J,K,L,M,N,O,Q,R,S,T,U,V,W,X,Y,Z,i0,i1,i2,i3,i4)
end
def ClsMark:Prop := True
theorem clsMark:ClsMark := trivial
local macro_rules | `(tactic| walk_at "my enter") => `(tactic| first
  | cell_enter
  | (refine' code_defC ?k1 ?k2 ?k3 ?k4 ?k5 ?kA ?kF ?kK ?k6 ?k7 ?k8 ?k9 ?kB ?kD ?_ ?c2 ?c3 ?c4;(case kA=>exact rfl);(case kF=>exact rfl);(case kK=>assumption);(case k1=>k_asm);(case k2=>k_asm);(case k3=>k_asm);(case k4=>k_asm);(case k5=>k_asm);(case k6=>k_is);(case k7=>k_is);(case k8=>ktr_room);(case k9=>exact BindsTo.of_eq rfl);(case kB=>exact rfl);(case kD=>decide +kernel);(case c2=>exact rfl);(case c3=>exact rfl);(case c4=>exact rfl);k_whole;(first | ((have hC:ClsMark := by assumption);clear hC;intros g' L' h' tk' cells' _ _;intro FG' F' N' Y' B' X' T' l1) | intro g' L' h' tk' cells' FG' F' N' Y' B' X' T' l1);(try k_lt l1);k_cells Y';(try simp only [List.cons_append,List.nil_append] at N');(try dsimp only);(try k_lift B');(try k_fold)))
local macro_rules | `(tactic| walk_at $s:str) => `(tactic| first | k_extra $(Lean.Syntax.mkStrLit ("^" ++ s.getString)) | k_extra $s)
local macro_rules | `(tactic| omega) => `(tactic| k_extra "omega")
local macro_rules | `(tactic| k_ne) => `(tactic| (refine neN ?_; (try dsimp only); omega))
local macro_rules | `(tactic| k_all) => `(tactic| first
  | (with_reducible assumption)
  | exact List.forall_mem_nil _
  | (refine' List.forall_mem_cons.mpr ⟨?a,?b⟩;(case a=>k_ne);(case b=>k_all))
  | kst_allNe)
local macro_rules | `(tactic| k_mem) => `(tactic| first
  | (with_reducible assumption)
  | exact List.Mem.head _
  | (refine List.mem_cons_of_mem _ ?_;k_mem)
  | (refine List.mem_append.mpr (Or.inl ?_);k_mem)
  | (refine List.mem_append.mpr (Or.inr ?_);k_mem))
open Lean in
local macro_rules
  | `(tactic| obtain ⟨$ps,*⟩ := $e) => do
    let ps := ps.getElems
    let n := ps.size
    if n < 2 then Macro.throwUnsupported
    let isId (p : TSyntax ``Parser.Tactic.rcasesPatLo) : Option (TSyntax `ident) :=
      match p with
      | `(Parser.Tactic.rcasesPatLo| $x:ident) => if x.getId.eraseMacroScopes == `rfl then none else some x
      | _=>none
    let isHole (p : TSyntax ``Parser.Tactic.rcasesPatLo) : Bool :=
      match p with
      | `(Parser.Tactic.rcasesPatLo| _) => true
      | _=>false
    let clash (k:Nat):Bool := (ps.extract 0 (k - 1)).any (fun p=>match isId p with | some y=>y.getId == e.raw.getId | none=>false)
    let clr : Array (TSyntax `tactic) ← if e.raw.isIdent then do let x : TSyntax `ident := ⟨e.raw⟩; pure #[← `(tactic| try clear $x)] else pure #[]
    let one (lem : Name) (k : Nat) : MacroM (TSyntax `tactic) := do
      let mut bs : Array (TSyntax `ident) := #[]
      let mut post : Array (TSyntax `tactic) := clr
      for i in [0:k] do
        let x ← Macro.addMacroScope (Name.mkSimple s!"p{i}")
        let xi := mkIdent x
        if i + 1 == k && k < n then
          bs := bs.push xi
          let r := ps.extract i n
          post := post.push (← `(tactic| obtain ⟨$r,*⟩ := $xi))
        else
          match isId ps[i]! with
          | some y => if y.getId == e.raw.getId then bs := bs.push xi; post := (post.push (← `(tactic| revert $xi))).push (← `(tactic| intro $y:ident)) else bs := bs.push y
          | none =>
            bs := bs.push xi
            unless isHole ps[i]! do
              match ps[i]! with
              | `(Parser.Tactic.rcasesPatLo| $q:rcasesPatMed) => post := post.push (← `(tactic| obtain $q:rcasesPatMed := $xi))
              | _=>Macro.throwUnsupported
      let l := mkIdent lem
      `(tactic| ((refine $l $e fun $bs* => ?_); ($[$post];*)))
    let mut alts : Array (TSyntax `tactic) := #[]
    for (k, l) in [(6, `Mine.exE5), (5, `Mine.exE4), (4, `Mine.exE3), (3, `Mine.exE2), (2, `Mine.exE1)] do
      if k ≤ n && !clash k then alts := alts.push (← one l k)
    for (k, l) in [(8, `Mine.andE8), (7, `Mine.andE7), (6, `Mine.andE6), (5, `Mine.andE5), (4, `Mine.andE4), (3, `Mine.andE3), (2, `Mine.andE2)] do
      if k ≤ n then alts := alts.push (← one l k)
    `(tactic| first $[| $alts:tactic]* | rcases $e:term with ⟨$ps,*⟩)
open Lean in
local macro_rules
  | `(tactic| intros $xs*) => do
    let hs := (List.range xs.size).toArray.filter fun i=>!xs[i]!.raw.isIdent
    if hs.isEmpty || xs.size < 2 then Macro.throwUnsupported
    let gp (a b : Nat) : Array (TSyntax `ident) := (xs.extract a b).map fun x => ⟨x.raw⟩
    let raws (l : String) : Array (TSyntax `ident) := (l.splitOn " ").toArray.map fun s => mkIdent (.mkSimple s)
    let OUT := raws "dp un gd cn cs a ccd cl outer A₀ base h₀ L m s Q E"
    let HY := raws "B F X N T hk hd hu hret"
    let X := mkIdent `X
    let two := hs.size == 2
    let start := two && hs[0]! == 0
    let h1 := hs[hs.size - 1]!
    let mut D := if start then gp 1 h1 ++ OUT else gp 0 hs[0]!
    let mut H := gp (h1 + 1) xs.size
    let mut st : Array (TSyntax `tactic) := #[]
    if start then
      for x in OUT ++ HY do st := st.push (← `(tactic| intro $x:ident))
    if start || !two then
      let pads : Array (TSyntax `ident) := (List.range ((([26, 30, 36, 42, 54].find? (D.size ≤ ·)).getD 0) - D.size)).toArray.map fun q => mkIdent (.mkSimple s!"z9{q}")
      for z in pads do st := st.push (← `(tactic| have $z:ident : Nat := 0))
      if start then
        st := st.push (← `(tactic| revert $HY*))
        for x in (pads ++ H).reverse do st := st.push (← `(tactic| revert $x:ident))
        st := st.push (← `(tactic| revert $OUT*))
        for x in (gp 1 h1).reverse do st := st.push (← `(tactic| revert $x:ident))
        H := H ++ HY
      else
        for x in (D ++ pads ++ H).reverse do st := st.push (← `(tactic| revert $x:ident))
      D := D ++ pads
    let n := D.size
    let nm (s:String) := mkIdent (Name.mkStr (.mkSimple "Mine") s!"{s}{n}")
    let holes ← (List.range n).toArray.mapM fun _ => `(?_)
    st := st.push (← `(tactic| with_reducible refine no_implicit_lambda% ($(nm "badT") _ $holes* ?_)))
    for _ in [0:n] do
      st := st.push (← `(tactic| first | exact inferInstance | exact Mine.neW | exact Mine.neA | exact Mine.neS | exact Mine.neP | exact Nonempty.intro (by constructor <;> exact default)))
    st := st.push (← `(tactic| delta $(nm "unT"):ident))
    let us ← (List.range n).toArray.mapM fun _ => `(_)
    st := st.push (← `(tactic| with_reducible refine no_implicit_lambda% ((?_ : ∀ $D:ident*, $(nm "appT") _ $D:ident*) $us*)))
    for x in D do st := st.push (← `(tactic| intro $x:ident))
    st := st.push (← `(tactic| delta $(nm "appT"):ident))
    for x in H do st := st.push (← `(tactic| intro $x:ident))
    if start then
      st := st.push (← `(tactic| (revert $X:ident; unfold PG; k_fill; intro $X:ident; refine wpAny_call ?_; have kCls : ClsMark := clsMark; k_dflt (walk_at "my enter"); clear kCls)))
    `(tactic| ($[$st];*))
section
example:True := by
  w_top off
  k_with_none
  k_with "a" => with_reducible assumption
  k_with "sh" => first | exact sh1 (by k_extra "a") rfl | exact sh2 (by k_extra "a") rfl | exact sh3 (by k_extra "a") rfl | exact sh4 (by k_extra "a") rfl | exact sl1 (by k_extra "a") rfl | exact sl2 (by k_extra "a") rfl | exact sl3 (by k_extra "a") rfl | omega
  k_with "omega" => first | k_extra "a" | decide | exact Int.not_le.mp (by k_extra "a") | exact Int.not_lt.mp (by k_extra "a") | exact nUp (by k_extra "a") rfl | exact iDn (by k_extra "a") rfl | exact iUp (by k_extra "a") rfl | exact iUpLt (by k_extra "a") rfl | exact iDn (Int.add_le_add iLit iCast0) rfl | exact iDn iCast0 rfl | exact nUpLt (Nat.add_le_add (by k_extra "a") (Nat.le_refl _)) rfl | exact Nat.ne_of_lt (Nat.lt_succ_self _) | exact Ne.symm (Nat.ne_of_lt (Nat.lt_succ_self _)) | exact Nat.ne_of_lt (by k_extra "a") | exact Ne.symm (Nat.ne_of_lt (by k_extra "a")) | exact Ne.symm (Int.ne_of_lt (by k_extra "a")) | exact Int.not_le.mpr (iUpLt (iCast (by k_extra "a")) rfl) | lia
  k_with "my news" => first | k_asm | (refine cb_drop (by assumption) (by (intro p9 hp9;kst_mem)))
  k_with "ctr K" => first | exact rfl | assumption
  k_with "ctr D" => ((try simp only [depth_under_make,depth_under_kw,depth_in1,depth_deeper,depth_caller]);(try dsimp only [ktrTop]);k_extra "sh")
  k_with "ctr U" => ((try simp only [units_in1,units_deeper,Around.mark_units,units_caller]);(try dsimp only [ktrTop]);k_extra "sh")
  k_with "nmx" => (with_reducible show wpAny _ _ (eval _ (envX _ _ _ _ _ _)) _ _ _)
  k_with "^eval Name" => (k_here;k_extra "nmx";name_kind "globalImplicit";name_is_builtin;k_dflt (refine nameX_B (by k_asm) (by k_asm) (by k_asm) (by k_is) (by boot_fast) (by decide) ?_ (by rfl) (by kernel_rfl!));k_whole)
  k_with "^eval Name" => (k_here;k_extra "nmx";name_kind "globalImplicit";k_dflt (refine nameX_K (by k_asm) (by k_asm) (by k_asm) (by k_is) ?_ (by rfl) (by kernel_rfl!));k_whole)
  k_with "^eval Name" => (k_here;k_extra "nmx";name_kind "local";k_dflt (refine nmL (by rfl) (by rfl) (by k_asm) (by exact rfl) ?_);k_whole)
  k_with "call type:range" => ((rename Fr _ _ _ _=>f9);(rename News _ _ _ _=>n9);k_dflt (first | refine range1_rows f9 n9 ?_ | refine range2_rows f9 n9 ?_);intro _ _ _ _ _ _ _ _ _)
  k_with "call builtin:len" => ((with_reducible show wpAny _ _ (call (Value.builtin "len") [Value.str _ _]) _ _ _);refine SBL.len (by omega) ?_)
  k_with "ws here" => first | k_extra "a" | exact WsIn.mono (by k_extra "a") (by intro p hp;kst_mem)
  k_with "ctr back" => (intro r9 h9 tk9 hr9 F9 N9;obtain ⟨t9,hr9⟩ := hr9;subst hr9;(try dsimp only);(try k_fold))
  trivial
abbrev LX := Int.Internal.Linear.Expr
noncomputable abbrev Lv (j:Nat):LX := .var j
noncomputable abbrev Lk (c:Int):LX := .num c
noncomputable abbrev La (x y:LX):LX := .add x y
noncomputable abbrev Ls (x y:LX):LX := .sub x y
noncomputable abbrev Lm (c:Int) (x:LX):LX := .mulL c x
noncomputable abbrev Lr (x:LX) (c:Int):LX := .mulR x c
noncomputable abbrev Lg (x:LX):LX := .neg x
noncomputable abbrev Lh (k c:Int) (x y t:LX):LX := .add (.mulL k (.mulL c (.sub x y))) t
noncomputable abbrev Lf:LX := .num 0
noncomputable def gI (l:List Int):Nat→Int := @List.rec Int (fun _=>Nat→Int) (fun _=>0) (fun x _ ih j=>@Nat.rec (fun _=>Int) x (fun j _=>ih j) j) l
noncomputable def gN (l:List Nat):Nat→Nat := @List.rec Nat (fun _=>Nat→Nat) (fun _=>0) (fun x _ ih j=>@Nat.rec (fun _=>Nat) x (fun j _=>ih j) j) l
noncomputable def lC (ys:List Nat) (xs:List Int):List Int := @List.rec Nat (fun _=>List Int) xs (fun y _ t=>(y:Int) :: t) ys
noncomputable def lU (j:Nat):List Int := @Nat.rec (fun _=>List Int) [1] (fun _ r=>0 :: r) j
noncomputable def lS (c:Int) (p:List Int):List Int := @List.rec Int (fun _=>List Int) [] (fun a _ r=>c * a :: r) p
noncomputable def lA (p:List Int):List Int→List Int := @List.rec Int (fun _=>List Int→List Int) (fun q=>q) (fun a p ih q=>@List.rec Int (fun _=>List Int) (a :: p) (fun b q _=>(a + b) :: ih q) q) p
noncomputable def lD (p:List Int):List Int→Int := @List.rec Int (fun _=>List Int→Int) (fun _=>0) (fun a _ ih q=>@List.rec Int (fun _=>Int) 0 (fun x t _=>a * x + ih t) q) p
noncomputable def dI (L:List Int) (e:LX):Int := @Int.Internal.Linear.Expr.rec (fun _=>Int) (fun c=>c) (fun j=>gI L j) (fun _ _ a b=>a + b) (fun _ _ a b=>a - b) (fun _ a=>-a) (fun k _ a=>k * a) (fun _ k a=>a * k) e
noncomputable def pI (e:LX):List Int := @Int.Internal.Linear.Expr.rec (fun _=>List Int) (fun c=>[c]) (fun j=>lU (j + 1)) (fun _ _ a b=>lA a b) (fun _ _ a b=>lA a (lS (-1) b)) (fun _ a=>lS (-1) a) (fun k _ a=>lS k a) (fun _ k a=>lS k a) e
noncomputable def dN (ys:List Nat) (e:LX):Nat := @Int.Internal.Linear.Expr.rec (fun _=>Nat) (fun c=>c.toNat) (fun j=>gN ys j) (fun _ _ a b=>a + b) (fun _ _ _ _=>0) (fun _ _=>0) (fun k _ a=>k.toNat * a) (fun _ k a=>a * k.toNat) e
noncomputable def pN (n:Nat) (e:LX):List Int := @Int.Internal.Linear.Expr.rec (fun _=>List Int) (fun c=>[(c.toNat:Int)]) (fun j=>bif Nat.blt j n then lU (j + 1) else []) (fun _ _ a b=>lA a b) (fun _ _ _ _=>[]) (fun _ _=>[]) (fun k _ a=>lS k.toNat a) (fun _ k a=>lS k.toNat a) e
theorem aC {a b c d:Int} (h:a = b) (k:c = d):a + c = b + d := h ▸ k ▸ rfl
theorem lU_ok (j:Nat):∀ l,lD (lU j) l = gI l j := @Nat.rec (fun j=>∀ l,lD (lU j) l = gI l j) (fun l=>@List.rec Int (fun l=>lD (lU 0) l = gI l 0) rfl (fun x _ _=>(Int.add_zero _).trans (Int.one_mul x)) l) (fun j ih l=>@List.rec Int (fun l=>lD (lU (j + 1)) l = gI l (j + 1)) rfl (fun x t _=>(congrArg (· + lD (lU j) t) (Int.zero_mul x)).trans ((Int.zero_add _).trans (ih t))) l) j
theorem lS_ok (c:Int) (p:List Int):∀ l,lD (lS c p) l = c * lD p l := @List.rec Int (fun p=>∀ l,lD (lS c p) l = c * lD p l) (fun _=>(Int.mul_zero c).symm) (fun a p ih l=>@List.rec Int (fun l=>lD (lS c (a :: p)) l = c * lD (a :: p) l) (Int.mul_zero c).symm (fun x t _=>(aC (Int.mul_assoc c a x) (ih t)).trans (Int.mul_add c _ _).symm) l) p
theorem addC (a b c d:Int):(a + b) + (c + d) = (a + c) + (b + d) := by omega
theorem lA_ok (p:List Int):∀ q l,lD (lA p q) l = lD p l + lD q l := @List.rec Int (fun p=>∀ q l,lD (lA p q) l = lD p l + lD q l) (fun _ _=>(Int.zero_add _).symm) (fun a p ih q=>@List.rec Int (fun q=>∀ l,lD (lA (a :: p) q) l = lD (a :: p) l + lD q l) (fun _=>(Int.add_zero _).symm) (fun b q _ l=>@List.rec Int (fun l=>lD (lA (a :: p) (b :: q)) l = lD (a :: p) l + lD (b :: q) l) rfl (fun x t _=>(aC (Int.add_mul a b x) (ih q t)).trans (addC _ _ _ _)) l) q) p
theorem gC (xs:List Int) (ys:List Nat):∀ j,Nat.blt j ys.length = true→gI (lC ys xs) j = (gN ys j:Int) := @List.rec Nat (fun ys=>∀ j,Nat.blt j ys.length = true→gI (lC ys xs) j = (gN ys j:Int)) (fun j h=>Bool.noConfusion (h:false = true)) (fun y t ih j=>@Nat.rec (fun j=>Nat.blt j (y :: t).length = true→gI (lC (y :: t) xs) j = (gN (y :: t) j:Int)) (fun _=>rfl) (fun j _ h=>ih j h) j) ys
theorem gO (ys:List Nat):∀ j,Nat.blt j ys.length = false→(0:Int) = (gN ys j:Int) := @List.rec Nat (fun ys=>∀ j,Nat.blt j ys.length = false→(0:Int) = (gN ys j:Int)) (fun _ _=>rfl) (fun y t ih j=>@Nat.rec (fun j=>Nat.blt j (y :: t).length = false→(0:Int) = (gN (y :: t) j:Int)) (fun h=>Bool.noConfusion (h:true = false)) (fun j _ h=>ih j h) j) ys
theorem pI_ok (L:List Int) (e:LX):lD (pI e) (1 :: L) = dI L e := @Int.Internal.Linear.Expr.rec (fun e=>lD (pI e) (1 :: L) = dI L e) (fun c=>(Int.add_zero _).trans (Int.mul_one c)) (fun j=>lU_ok (j + 1) (1 :: L)) (fun _ _ a b=>(lA_ok _ _ _).trans (aC a b)) (fun _ _ a b=>(lA_ok _ _ _).trans (aC a ((lS_ok _ _ _).trans ((Int.neg_one_mul _).trans (congrArg (-·) b))))) (fun _ a=>(lS_ok _ _ _).trans ((Int.neg_one_mul _).trans (congrArg (-·) a))) (fun k _ a=>(lS_ok _ _ _).trans (congrArg (k * ·) a)) (fun _ k a=>(lS_ok _ _ _).trans ((congrArg (k * ·) a).trans (Int.mul_comm _ _))) e
theorem pN_ok (xs:List Int) (ys:List Nat) (e:LX):lD (pN ys.length e) (1 :: lC ys xs) = (dN ys e:Int) := @Int.Internal.Linear.Expr.rec (fun e=>lD (pN ys.length e) (1 :: lC ys xs) = (dN ys e:Int)) (fun c=>(Int.add_zero _).trans (Int.mul_one _)) (fun j=>@Bool.rec (fun b=>Nat.blt j ys.length = b→lD (bif b then lU (j + 1) else []) (1 :: lC ys xs) = (gN ys j:Int)) (fun h=>gO ys j h) (fun h=>(lU_ok (j + 1) (1 :: lC ys xs)).trans (gC xs ys j h)) (Nat.blt j ys.length) rfl) (fun _ _ a b=>(lA_ok _ _ _).trans (aC a b)) (fun _ _ _ _=>rfl) (fun _ _=>rfl) (fun k _ a=>(lS_ok _ _ _).trans (congrArg ((k.toNat:Int) * ·) a)) (fun _ k a=>(lS_ok _ _ _).trans ((congrArg ((k.toNat:Int) * ·) a).trans (Int.mul_comm _ _))) e
noncomputable def KP (V:List Int):Type := { a:Prop × List Int // a.1→0 ≤ lD a.2 V }
theorem s0 {q V:List Int} {a b:Int} (e:lD q V = b - a) (h:a ≤ b):0 ≤ lD q V := e ▸ Int.sub_nonneg_of_le h
theorem s1 {q V:List Int} {a b:Int} (e:lD q (1 :: V) = b - a) (h:a < b):0 ≤ lD (lA q [-1]) (1 :: V) := by
  rw [lA_ok,e];show 0 ≤ b - a + (-1 * 1 + 0);omega
noncomputable def ki (L:List Int) (x y:LX) (t:List (KP (1 :: L))):List (KP (1 :: L)) :=
  have e (x y:LX):lD (lA (pI y) (lS (-1) (pI x))) (1 :: L) = dI L y - dI L x := pI_ok L (.sub y x)
  ⟨(dI L x ≤ dI L y,lA (pI y) (lS (-1) (pI x))),s0 (e x y)⟩ :: ⟨(dI L x < dI L y,lA (lA (pI y) (lS (-1) (pI x))) [-1]),s1 (e x y)⟩ ::
  ⟨(dI L x = dI L y,lA (pI y) (lS (-1) (pI x))),fun h=>s0 (e x y) (Int.le_of_eq h)⟩ :: ⟨(dI L x = dI L y,lA (pI x) (lS (-1) (pI y))),fun h=>s0 (e y x) (Int.le_of_eq h.symm)⟩ ::
  ⟨(¬ dI L x ≤ dI L y,lA (lA (pI x) (lS (-1) (pI y))) [-1]),fun h=>s1 (e y x) (Int.not_le.mp h)⟩ :: ⟨(¬ dI L x < dI L y,lA (pI x) (lS (-1) (pI y))),fun h=>s0 (e y x) (Int.not_lt.mp h)⟩ :: t
theorem eN (xs:List Int) (ys:List Nat) (x y:LX):lD (lA (pN ys.length y) (lS (-1) (pN ys.length x))) (1 :: lC ys xs) = (dN ys y:Int) - (dN ys x:Int) := (lA_ok _ _ _).trans (aC (pN_ok xs ys y) ((lS_ok _ _ _).trans ((Int.neg_one_mul _).trans (congrArg (-·) (pN_ok xs ys x)))))
noncomputable def kn (xs:List Int) (ys:List Nat) (x y:LX):List (KP (1 :: lC ys xs)) :=
  let p (x y:LX) := lA (pN ys.length y) (lS (-1) (pN ys.length x))
  have e := eN xs ys
  ⟨(dN ys x ≤ dN ys y,p x y),fun h=>s0 (e x y) (Int.ofNat_le.mpr h)⟩ :: ⟨(dN ys x < dN ys y,lA (p x y) [-1]),fun h=>s1 (e x y) (Int.ofNat_lt.mpr h)⟩ ::
  ⟨(dN ys x = dN ys y,p x y),fun h=>s0 (e x y) (Int.ofNat_le.mpr (Nat.le_of_eq h))⟩ :: ⟨(dN ys x = dN ys y,p y x),fun h=>s0 (e y x) (Int.ofNat_le.mpr (Nat.le_of_eq h.symm))⟩ ::
  ⟨(¬ dN ys x ≤ dN ys y,lA (p y x) [-1]),fun h=>s1 (e y x) (Int.ofNat_lt.mpr (Nat.lt_of_not_le h))⟩ :: ⟨(¬ dN ys x < dN ys y,p y x),fun h=>s0 (e y x) (Int.ofNat_le.mpr (Nat.le_of_not_lt h))⟩ ::
  ⟨(True,pN ys.length x),fun _=>(pN_ok xs ys x) ▸ Int.natCast_nonneg _⟩ :: []
noncomputable def kd (V:List Int):KP V := ⟨(True,[]),fun _=>Int.le_refl _⟩
noncomputable def kf (xs:List Int) (ys:List Nat) (p:LX):KP (1 :: lC ys xs) :=
  @Int.Internal.Linear.Expr.casesOn (fun _=>KP (1 :: lC ys xs)) p (fun _=>kd _) (fun _=>kd _) (fun _ _=>kd _) (fun _ _=>kd _) (fun _=>kd _)
    (fun k p=>@Int.Internal.Linear.Expr.casesOn (fun _=>KP (1 :: lC ys xs)) p (fun _=>kd _) (fun _=>kd _) (fun _ _=>kd _) (fun _ _=>kd _) (fun _=>kd _)
      (fun c p=>@Int.Internal.Linear.Expr.casesOn (fun _=>KP (1 :: lC ys xs)) p (fun _=>kd _) (fun _=>kd _) (fun _ _=>kd _)
        (fun x y=>let f := (ki (lC ys xs) x y (kn xs ys x y)).getD k.toNat (kd _)
          ⟨(f.1.1,lS c.toNat f.1.2),fun h=>(lS_ok _ _ _) ▸ Int.mul_nonneg (Int.natCast_nonneg _) (f.2 h)⟩)
        (fun _=>kd _) (fun _ _=>kd _) (fun _ _=>kd _)) (fun _ _=>kd _)) (fun _ _=>kd _)
noncomputable def dC (xs:List Int) (ys:List Nat) (t:LX):Prop := @Int.Internal.Linear.Expr.rec (fun _=>Prop) (fun _=>False) (fun _=>False) (fun p _ _ i=>(kf xs ys p).1.1→i) (fun _ _ _ _=>False) (fun _ _=>False) (fun _ _ _=>False) (fun _ _ _=>False) t
noncomputable def l0 (s:List Int):Bool := @List.rec Int (fun _=>Bool) true (fun a _ r=>and (decide (a = 0)) r) s
noncomputable def lN (s:List Int):Bool := @List.rec Int (fun _=>Bool) false (fun a t _=>and (decide (a < 0)) (l0 t)) s
noncomputable def chk (xs:List Int) (ys:List Nat) (t:LX):List Int→Bool := @Int.Internal.Linear.Expr.rec (fun _=>List Int→Bool) (fun _=>lN) (fun _=>lN) (fun p _ _ i s=>i (lA s (kf xs ys p).1.2)) (fun _ _ _ _=>lN) (fun _ _=>lN) (fun _ _ _=>lN) (fun _ _ _=>lN) t
theorem aB {a b:Bool} (h:and a b = true):a = true ∧ b = true := (Bool.and_eq_true_iff).mp h
theorem l0_ok (s:List Int):l0 s = true→∀ l,lD s l = 0 := @List.rec Int (fun s=>l0 s = true→∀ l,lD s l = 0) (fun _ _=>rfl) (fun a t ih h l=>@List.rec Int (fun l=>lD (a :: t) l = 0) rfl (fun x l _=>(aC ((congrArg (· * x) (of_decide_eq_true (aB h).1)).trans (Int.zero_mul x)) (ih (aB h).2 l)).trans rfl) l) s
theorem lN_ok (L s:List Int):lN s = true→0 ≤ lD s (1 :: L)→False := @List.rec Int (fun s=>lN s = true→0 ≤ lD s (1 :: L)→False) (fun h _=>Bool.noConfusion h) (fun a t _ h k=>Int.not_le.mpr (of_decide_eq_true (aB h).1) (((aC (Int.mul_one a) (l0_ok t (aB h).2 L)).trans (Int.add_zero a)) ▸ k)) s
theorem chk_ok (xs:List Int) (ys:List Nat) (t:LX):∀ s,chk xs ys t s = true→0 ≤ lD s (1 :: lC ys xs)→dC xs ys t :=
  @Int.Internal.Linear.Expr.rec (fun t=>∀ s,chk xs ys t s = true→0 ≤ lD s (1 :: lC ys xs)→dC xs ys t) (fun _=>lN_ok _) (fun _=>lN_ok _) (fun p _ _ i s h k q=>i _ h ((lA_ok s _ _) ▸ Int.add_nonneg k ((kf xs ys p).2 q))) (fun _ _ _ _=>lN_ok _) (fun _ _=>lN_ok _) (fun _ _ _=>lN_ok _) (fun _ _ _=>lN_ok _) t
theorem fk (xs:List Int) (ys:List Nat) (t:LX) (h:chk xs ys t [] = true):dC xs ys t := chk_ok xs ys t [] h (Int.le_refl _)
theorem nSubA {a b:Nat}:a ≤ a - b + b := Nat.le_add_of_sub_le (Nat.le_refl _)
noncomputable abbrev V0:LX := .var 0
noncomputable abbrev V1:LX := .var 1
noncomputable abbrev V2:LX := .var 2
noncomputable abbrev V3:LX := .var 3
noncomputable abbrev V4:LX := .var 4
noncomputable abbrev V5:LX := .var 5
noncomputable abbrev V6:LX := .var 6
noncomputable abbrev V7:LX := .var 7
noncomputable abbrev V8:LX := .var 8
noncomputable abbrev V9:LX := .var 9
noncomputable abbrev K0:LX := .num 0
noncomputable abbrev K1:LX := .num 1
noncomputable abbrev K2:LX := .num 2
noncomputable abbrev Z0 (x y t:LX):LX := Lh 0 1 x y t
noncomputable abbrev Z1 (x y t:LX):LX := Lh 1 1 x y t
noncomputable abbrev Z2 (x y t:LX):LX := Lh 2 1 x y t
noncomputable abbrev Z3 (x y t:LX):LX := Lh 3 1 x y t
noncomputable abbrev Z4 (x y t:LX):LX := Lh 4 1 x y t
noncomputable abbrev Z5 (x y t:LX):LX := Lh 5 1 x y t
noncomputable abbrev Z6 (x y t:LX):LX := Lh 6 1 x y t
noncomputable abbrev Z7 (x y t:LX):LX := Lh 7 1 x y t
noncomputable abbrev Z8 (x y t:LX):LX := Lh 8 1 x y t
noncomputable abbrev Z9 (x y t:LX):LX := Lh 9 1 x y t
noncomputable abbrev Z10 (x y t:LX):LX := Lh 10 1 x y t
noncomputable abbrev Z11 (x y t:LX):LX := Lh 11 1 x y t
noncomputable abbrev Z12 (x t:LX):LX := Lh 12 1 x Lf t
theorem fk01 {x0:Int} (t:LX) (h:chk [x0] [] t [] = true):dC [x0] [] t := fk _ _ t h
theorem fk010 {x0 x1 x2 x3 x4 x5 x6 x7 x8 x9:Int} (t:LX) (h:chk [x0,x1,x2,x3,x4,x5,x6,x7,x8,x9] [] t [] = true):dC [x0,x1,x2,x3,x4,x5,x6,x7,x8,x9] [] t := fk _ _ t h
theorem fk02 {x0 x1:Int} (t:LX) (h:chk [x0,x1] [] t [] = true):dC [x0,x1] [] t := fk _ _ t h
theorem fk03 {x0 x1 x2:Int} (t:LX) (h:chk [x0,x1,x2] [] t [] = true):dC [x0,x1,x2] [] t := fk _ _ t h
theorem fk04 {x0 x1 x2 x3:Int} (t:LX) (h:chk [x0,x1,x2,x3] [] t [] = true):dC [x0,x1,x2,x3] [] t := fk _ _ t h
theorem fk05 {x0 x1 x2 x3 x4:Int} (t:LX) (h:chk [x0,x1,x2,x3,x4] [] t [] = true):dC [x0,x1,x2,x3,x4] [] t := fk _ _ t h
theorem fk06 {x0 x1 x2 x3 x4 x5:Int} (t:LX) (h:chk [x0,x1,x2,x3,x4,x5] [] t [] = true):dC [x0,x1,x2,x3,x4,x5] [] t := fk _ _ t h
theorem fk10 {y0:Nat} (t:LX) (h:chk [] [y0] t [] = true):dC [] [y0] t := fk _ _ t h
theorem fk11 {y0:Nat} {x0:Int} (t:LX) (h:chk [x0] [y0] t [] = true):dC [x0] [y0] t := fk _ _ t h
theorem fk12 {y0:Nat} {x0 x1:Int} (t:LX) (h:chk [x0,x1] [y0] t [] = true):dC [x0,x1] [y0] t := fk _ _ t h
theorem fk13 {y0:Nat} {x0 x1 x2:Int} (t:LX) (h:chk [x0,x1,x2] [y0] t [] = true):dC [x0,x1,x2] [y0] t := fk _ _ t h
theorem fk15 {y0:Nat} {x0 x1 x2 x3 x4:Int} (t:LX) (h:chk [x0,x1,x2,x3,x4] [y0] t [] = true):dC [x0,x1,x2,x3,x4] [y0] t := fk _ _ t h
theorem fk20 {y0 y1:Nat} (t:LX) (h:chk [] [y0,y1] t [] = true):dC [] [y0,y1] t := fk _ _ t h
theorem fk21 {y0 y1:Nat} {x0:Int} (t:LX) (h:chk [x0] [y0,y1] t [] = true):dC [x0] [y0,y1] t := fk _ _ t h
theorem fk22 {y0 y1:Nat} {x0 x1:Int} (t:LX) (h:chk [x0,x1] [y0,y1] t [] = true):dC [x0,x1] [y0,y1] t := fk _ _ t h
theorem fk23 {y0 y1:Nat} {x0 x1 x2:Int} (t:LX) (h:chk [x0,x1,x2] [y0,y1] t [] = true):dC [x0,x1,x2] [y0,y1] t := fk _ _ t h
theorem fk24 {y0 y1:Nat} {x0 x1 x2 x3:Int} (t:LX) (h:chk [x0,x1,x2,x3] [y0,y1] t [] = true):dC [x0,x1,x2,x3] [y0,y1] t := fk _ _ t h
theorem fk30 {y0 y1 y2:Nat} (t:LX) (h:chk [] [y0,y1,y2] t [] = true):dC [] [y0,y1,y2] t := fk _ _ t h
theorem fk31 {y0 y1 y2:Nat} {x0:Int} (t:LX) (h:chk [x0] [y0,y1,y2] t [] = true):dC [x0] [y0,y1,y2] t := fk _ _ t h
theorem fk32 {y0 y1 y2:Nat} {x0 x1:Int} (t:LX) (h:chk [x0,x1] [y0,y1,y2] t [] = true):dC [x0,x1] [y0,y1,y2] t := fk _ _ t h
theorem fk40 {y0 y1 y2 y3:Nat} (t:LX) (h:chk [] [y0,y1,y2,y3] t [] = true):dC [] [y0,y1,y2,y3] t := fk _ _ t h
theorem fk41 {y0 y1 y2 y3:Nat} {x0:Int} (t:LX) (h:chk [x0] [y0,y1,y2,y3] t [] = true):dC [x0] [y0,y1,y2,y3] t := fk _ _ t h
theorem fk50 {y0 y1 y2 y3 y4:Nat} (t:LX) (h:chk [] [y0,y1,y2,y3,y4] t [] = true):dC [] [y0,y1,y2,y3,y4] t := fk _ _ t h
theorem fk51 {y0 y1 y2 y3 y4:Nat} {x0:Int} (t:LX) (h:chk [x0] [y0,y1,y2,y3,y4] t [] = true):dC [x0] [y0,y1,y2,y3,y4] t := fk _ _ t h
theorem fk60 {y0 y1 y2 y3 y4 y5:Nat} (t:LX) (h:chk [] [y0,y1,y2,y3,y4,y5] t [] = true):dC [] [y0,y1,y2,y3,y4,y5] t := fk _ _ t h
theorem fk70 {y0 y1 y2 y3 y4 y5 y6:Nat} (t:LX) (h:chk [] [y0,y1,y2,y3,y4,y5,y6] t [] = true):dC [] [y0,y1,y2,y3,y4,y5,y6] t := fk _ _ t h
theorem fk80 {y0 y1 y2 y3 y4 y5 y6 y7:Nat} (t:LX) (h:chk [] [y0,y1,y2,y3,y4,y5,y6,y7] t [] = true):dC [] [y0,y1,y2,y3,y4,y5,y6,y7] t := fk _ _ t h
theorem bC {p:Prop} (h:¬p→False):p := Classical.byContradiction h
theorem sC {a b:Nat} (h:b ≤ a):a - b + b = a := Nat.sub_add_cancel h
theorem tC {z:Int} (h:0 ≤ z):(z.toNat:Int) = z := Int.toNat_of_nonneg h
theorem nLit {n:Nat} {i:OfNat Nat n}:(@OfNat.ofNat Nat n i) ≤ @OfNat.ofNat Nat n i := Nat.le_refl _
theorem iLit {n:Nat} {i:OfNat Int n}:(@OfNat.ofNat Int n i) ≤ @OfNat.ofNat Int n i := Int.le_refl _
theorem iNeg {n:Nat} {i:OfNat Int n}:-(@OfNat.ofNat Int n i) ≤ -@OfNat.ofNat Int n i := Int.le_refl _
theorem nUp {a m n:Nat} (h:a ≤ m) (d:Nat.ble m n = true):a ≤ n := Nat.le_trans h (Nat.le_of_ble_eq_true d)
theorem nUpLt {a m n:Nat} (h:a ≤ m) (d:Nat.ble (m + 1) n = true):a < n := Nat.le_trans (Nat.succ_le_succ h) (Nat.le_of_ble_eq_true d)
theorem iUp {x z y:Int} (h:x ≤ z) (d:decide (z ≤ y) = true):x ≤ y := Int.le_trans h (of_decide_eq_true d)
theorem iUpLt {x z y:Int} (h:x ≤ z) (d:decide (z < y) = true):x < y := Int.lt_of_le_of_lt h (of_decide_eq_true d)
theorem iDn {x z y:Int} (h:z ≤ x) (d:decide (y ≤ z) = true):y ≤ x := Int.le_trans (of_decide_eq_true d) h
theorem iDnLt {x z y:Int} (h:z ≤ x) (d:decide (y < z) = true):y < x := Int.lt_of_lt_of_le (of_decide_eq_true d) h
theorem iCast {a m:Nat} (h:a ≤ m):(a:Int) ≤ (m:Int) := Int.ofNat_le.mpr h
theorem iCast0 {a:Nat}:0 ≤ (a:Int) := Int.natCast_nonneg a
theorem iLt1 {x z:Int} (h:x < z):x ≤ z - 1 := Int.le_sub_one_of_lt h
theorem iGt1 {x z:Int} (h:z < x):z + 1 ≤ x := h
theorem nLt1 {a m:Nat} (h:a < m):a ≤ m - 1 := Nat.le_pred_of_lt h
theorem nSubU {a b m:Nat} (h:a ≤ m):a - b ≤ m := Nat.le_trans (Nat.sub_le a b) h
theorem iMulR {x z:Int} {n:Nat} {i:OfNat Int n} (h:x ≤ z) (d:decide ((0:Int) ≤ @OfNat.ofNat Int n i) = true):x * @OfNat.ofNat Int n i ≤ z * @OfNat.ofNat Int n i := Int.mul_le_mul_of_nonneg_right h (of_decide_eq_true d)
theorem iMulL {x z:Int} {n:Nat} {i:OfNat Int n} (h:x ≤ z) (d:decide ((0:Int) ≤ @OfNat.ofNat Int n i) = true):@OfNat.ofNat Int n i * x ≤ @OfNat.ofNat Int n i * z := Int.mul_le_mul_of_nonneg_left h (of_decide_eq_true d)
theorem nMulL {a m:Nat} {n:Nat} {i:OfNat Nat n} (h:a ≤ m):@OfNat.ofNat Nat n i * a ≤ @OfNat.ofNat Nat n i * m := Nat.mul_le_mul_left _ h
theorem nMulR {a m:Nat} {n:Nat} {i:OfNat Nat n} (h:a ≤ m):a * @OfNat.ofNat Nat n i ≤ m * @OfNat.ofNat Nat n i := Nat.mul_le_mul_right _ h
theorem iToNat {x z:Int} (h:x ≤ z):x.toNat ≤ z.toNat := Int.toNat_le_toNat h
theorem iEqU {x z:Int} (h:x = z):x ≤ z := Int.le_of_eq h
theorem iEqD {x z:Int} (h:x = z):z ≤ x := Int.le_of_eq h.symm
theorem nSubR {a m n:Nat} {i:OfNat Nat n} (h:a ≤ m):a - @OfNat.ofNat Nat n i ≤ m - @OfNat.ofNat Nat n i := Nat.sub_le_sub_right h _
theorem nOfI {a:Nat} {z:Int} (h:(a:Int) ≤ z):a ≤ z.toNat := by exact bC (fk21 (Z0 V0 V2 (Z3 V1 V2 (Z10 V0 V1 Lf))) rfl h (tC (bC (fk11 (Z0 V0 V1 (Z12 V0 (Z4 K0 V1 Lf))) rfl h trivial))))
theorem nOfIlt {a:Nat} {z:Int} (h:(a:Int) < z):a ≤ (z - 1).toNat := by exact bC (fk21 (Z1 V0 V2 (Z3 V1 (Ls V2 K1) (Z10 V0 V1 Lf))) rfl h (tC (bC (fk11 (Z1 V0 V1 (Z12 V0 (Z4 K0 (Ls V1 K1) Lf))) rfl h trivial))))
theorem nOfNlt {a:Nat} {z:Int} (h:¬ z < (a:Int)):a ≤ z.toNat := by exact bC (fk21 (Z5 V2 V0 (Z3 V1 V2 (Z10 V0 V1 Lf))) rfl h (tC (bC (fk11 (Z5 V1 V0 (Z12 V0 (Z4 K0 V1 Lf))) rfl h trivial))))
theorem nOfL {a:Nat} {z:Int} (h:z ≤ (a:Int)):z.toNat ≤ a := by lia
theorem nOfLlt {a:Nat} {z:Int} (h:z < (a:Int)):(z + 1).toNat ≤ a := by lia
theorem nDn {a m n:Nat} (h:m ≤ a) (d:Nat.ble n m = true):n ≤ a := Nat.le_trans (Nat.le_of_ble_eq_true d) h
theorem nDnLt {a m n:Nat} (h:m ≤ a) (d:Nat.ble (n + 1) m = true):n < a := Nat.le_trans (Nat.le_of_ble_eq_true d) h
theorem nUp2 {a b m n:Nat} (h:a ≤ m) (k:n ≤ b) (d:Nat.ble m n = true):a ≤ b := Nat.le_trans h (Nat.le_trans (Nat.le_of_ble_eq_true d) k)
theorem nUp2Lt {a b m n:Nat} (h:a ≤ m) (k:n ≤ b) (d:Nat.ble (m + 1) n = true):a < b := Nat.lt_of_le_of_lt h (Nat.le_trans (Nat.le_of_ble_eq_true d) k)
theorem iUp2 {x y z u:Int} (h:x ≤ z) (k:u ≤ y) (d:decide (z ≤ u) = true):x ≤ y := Int.le_trans h (Int.le_trans (of_decide_eq_true d) k)
theorem iUp2Lt {x y z u:Int} (h:x ≤ z) (k:u ≤ y) (d:decide (z < u) = true):x < y := Int.lt_of_le_of_lt h (Int.lt_of_lt_of_le (of_decide_eq_true d) k)

theorem sh1 {x c m a n:Nat} (h:x + c < m) (d:Nat.ble (a + m) (n + c) = true):x + a < n := by have := Nat.le_of_ble_eq_true d;exact bC (fk50 (Z6 (La V0 V1) (La V2 V3) (Z7 (La V4 V3) V1 (Z11 (La V4 V0) V2 Lf))) rfl this h)
theorem sh2 {x c m a b n:Nat} (h:x + c < m) (d:Nat.ble (a + b + m) (n + c) = true):x + a + b < n := by have := Nat.le_of_ble_eq_true d;exact bC (fk60 (Z6 (La (La V0 V1) V2) (La V3 V4) (Z7 (La V5 V4) V2 (Z11 (La (La V5 V0) V1) V3 Lf))) rfl this h)
theorem sh3 {x c m a b e n:Nat} (h:x + c < m) (d:Nat.ble (a + b + e + m) (n + c) = true):x + a + b + e < n := by have := Nat.le_of_ble_eq_true d;exact bC (fk70 (Z6 (La (La (La V0 V1) V2) V3) (La V4 V5) (Z7 (La V6 V5) V3 (Z11 (La (La (La V6 V0) V1) V2) V4 Lf))) rfl this h)
theorem sh4 {x c m a b e f n:Nat} (h:x + c < m) (d:Nat.ble (a + b + e + f + m) (n + c) = true):x + a + b + e + f < n := by have := Nat.le_of_ble_eq_true d;exact bC (fk80 (Z6 (La (La (La (La V0 V1) V2) V3) V4) (La V5 V6) (Z7 (La V7 V6) V4 (Z11 (La (La (La (La V7 V0) V1) V2) V3) V5 Lf))) rfl this h)
theorem sl1 {x m a n:Nat} (h:x ≤ m) (d:Nat.ble (a + m + 1) n = true):x + a < n := by have := Nat.le_of_ble_eq_true d;exact bC (fk40 (Z6 (La (La V0 V1) K1) V2 (Z6 V3 V1 (Z11 (La V3 V0) V2 Lf))) rfl this h)
theorem sl2 {x m a b n:Nat} (h:x ≤ m) (d:Nat.ble (a + b + m + 1) n = true):x + a + b < n := by have := Nat.le_of_ble_eq_true d;exact bC (fk50 (Z6 (La (La (La V0 V1) V2) K1) V3 (Z6 V4 V2 (Z11 (La (La V4 V0) V1) V3 Lf))) rfl this h)
theorem sl3 {x m a b e n:Nat} (h:x ≤ m) (d:Nat.ble (a + b + e + m + 1) n = true):x + a + b + e < n := by have := Nat.le_of_ble_eq_true d;exact bC (fk60 (Z6 (La (La (La (La V0 V1) V2) V3) K1) V4 (Z6 V5 V3 (Z11 (La (La (La V5 V0) V1) V2) V4 Lf))) rfl this h)
theorem sk1 {x c m a n:Nat} (h:x + c < m) (d:Nat.ble (a + m) (n + c + 1) = true):x + a ≤ n := by have := Nat.le_of_ble_eq_true d;exact bC (fk50 (Z6 (La V0 V1) (La (La V2 V3) K1) (Z7 (La V4 V3) V1 (Z10 (La V4 V0) V2 Lf))) rfl this h)
theorem sk2 {x c m a b n:Nat} (h:x + c < m) (d:Nat.ble (a + b + m) (n + c + 1) = true):x + a + b ≤ n := by have := Nat.le_of_ble_eq_true d;exact bC (fk60 (Z6 (La (La V0 V1) V2) (La (La V3 V4) K1) (Z7 (La V5 V4) V2 (Z10 (La (La V5 V0) V1) V3 Lf))) rfl this h)
theorem sm1 {x m a n:Nat} (h:x ≤ m) (d:Nat.ble (a + m) n = true):x + a ≤ n := by have := Nat.le_of_ble_eq_true d;exact bC (fk40 (Z6 (La V0 V1) V2 (Z6 V3 V1 (Z10 (La V3 V0) V2 Lf))) rfl this h)
theorem sm2 {x m a b n:Nat} (h:x ≤ m) (d:Nat.ble (a + b + m) n = true):x + a + b ≤ n := by have := Nat.le_of_ble_eq_true d;exact bC (fk50 (Z6 (La (La V0 V1) V2) V3 (Z6 V4 V2 (Z10 (La (La V4 V0) V1) V3 Lf))) rfl this h)
theorem neUp {a b c:Nat} (h:a < b) (k:b ≤ c):a ≠ c := Nat.ne_of_lt (Nat.lt_of_lt_of_le h k)
theorem nmL {M:Model} {A:Around} {E:Value→Shared→Prop} {s:Shared} {h₀:Heap} {L a:Addr} {m:Str→Option Value} {cn:Str} {cs:Scope} {ccd:Value} {cl:List (Str × Addr)} {x:Str} {pos:Pos} {v:Value} {Q:Value→Shared→Prop} (hx:(envX cn cs L a ccd cl).kindOf x = some .local) (hk:cs.kind = .function) (F:Fr h₀ L s.heap m) (hv:m x = some v) (h:Q v s) (hd:(x == ("__debug__" : Str)) = false := by decide):wpAny M A (eval (.Name x pos) (envX cn cs L a ccd cl)) Q E s := nameX_L F hv h hk hx hd
theorem nmC {M:Model} {A:Around} {E:Value→Shared→Prop} {s:Shared} {h₀:Heap} {L a:Addr} {cn:Str} {cs:Scope} {ccd:Value} {cl:List (Str × Addr)} {x:Str} {pos:Pos} {v:Value} {Q:Value→Shared→Prop} {news:List (Addr × Obj)} {c:Addr} {o:Obj} (hx:(envX cn cs L a ccd cl).kindOf x = some .cell) (hk:cs.kind = .function) (N:News h₀ L s.heap news) (hc:cl.lookup x = some c) (hm:(c,o) ∈ news) (ho:o.data = .cell (some v)) (h:Q v s) (hd:(x == ("__debug__" : Str)) = false := by decide):wpAny M A (eval (.Name x pos) (envX cn cs L a ccd cl)) Q E s := nameX_C N hc hm ho h hk hx hd
noncomputable abbrev LG:List Str := LO ++ (recsOf VW).map (·.name) ++ (litsOf VW).map (·.1) ++ (clssOf VW LO).map (·.name)
noncomputable abbrev Ctr (w:World) (mean:ExcName→Option Value) (mg mb:Str→Option Value) (f:Addr) (lv:Nat) (vs:List Value) (news:List (Addr × Obj)) (R:Value→Prop):Prop :=
  ∀ (dp un:Nat) (gd:Option (List Code)) (cn:Str) (cs:Scope) (a:Addr) (ccd:Value) (cl:List (Str × Addr)) (outer:List Env) (A₀:Around) (base h₀:Heap) (L:Addr) (m:Str→Option Value) (s:Shared) (Q E:Value→Shared→Prop),
    Below A₀ base outer h₀→Fr h₀ L s.heap m→(topT.heap_39 w.params).In h₀→News h₀ L s.heap news→Top topProg LG mean mg mb h₀→cs.kind = .function→dp + 10 * lv < 600→un + 100 * lv < 6000 →
    (∀ r h' tk',R r→Fr h₀ L h' m→News h₀ L h' news→Q r { s with heap := h',toks := tk' }) →
    wpAny (model PG w) (ktrTop dp un gd cn cs L a ccd cl outer) (call (.ref f) vs) Q E s
noncomputable def Fresh (tl news:List (Addr × Obj)):Prop := ∀ p ∈ tl,∀ q ∈ news,q.1 ≠ p.1
noncomputable abbrev CtrO (w:World) (mean:ExcName→Option Value) (mg mb:Str→Option Value) (f:Addr) (lv:Nat) (vs:List Value) (news:List (Addr × Obj)) (R:List (Addr × Obj)→Value→Prop):Prop :=
  ∀ (dp un:Nat) (gd:Option (List Code)) (cn:Str) (cs:Scope) (a:Addr) (ccd:Value) (cl:List (Str × Addr)) (outer:List Env) (A₀:Around) (base h₀:Heap) (L:Addr) (m:Str→Option Value) (s:Shared) (Q E:Value→Shared→Prop),
    Below A₀ base outer h₀→Fr h₀ L s.heap m→(topT.heap_39 w.params).In h₀→News h₀ L s.heap news→Top topProg LG mean mg mb h₀→cs.kind = .function→dp + 10 * lv < 600→un + 100 * lv < 6000 →
    (∀ r tl h' tk',R tl r→Fresh tl news→Fr h₀ L h' m→News h₀ L h' (tl ++ news)→Q r { s with heap := h',toks := tk' }) →
    wpAny (model PG w) (ktrTop dp un gd cn cs L a ccd cl outer) (call (.ref f) vs) Q E s
theorem ctr_use {w:World} {mean:ExcName→Option Value} {mg mb:Str→Option Value} {f:Addr} {lv:Nat} {vs:List Value} {news:List (Addr × Obj)} {R:Value→Prop}
    {dp un:Nat} {gd:Option (List Code)} {cn:Str} {cs:Scope} {a:Addr} {ccd:Value} {cl:List (Str × Addr)} {outer:List Env} {A₀:Around} {base h₀:Heap} {L:Addr} {m:Str→Option Value} {s:Shared} {Q E:Value→Shared→Prop}
    (B:Below A₀ base outer h₀) (F:Fr h₀ L s.heap m) (X:(topT.heap_39 w.params).In h₀) (N:News h₀ L s.heap news) (T:Top topProg LG mean mg mb h₀) (hk:cs.kind = .function) (C:Ctr w mean mg mb f lv vs news R) (hd:dp + 10 * lv < 600) (hu:un + 100 * lv < 6000)
    (ret:∀ r h' tk',R r→Fr h₀ L h' m→News h₀ L h' news→Q r { s with heap := h',toks := tk' }) :
    wpAny (model PG w) (ktrTop dp un gd cn cs L a ccd cl outer) (call (.ref f) vs) Q E s := C dp un gd cn cs a ccd cl outer A₀ base h₀ L m s Q E B F X N T hk hd hu ret
theorem ctrO_use {w:World} {mean:ExcName→Option Value} {mg mb:Str→Option Value} {f:Addr} {lv:Nat} {vs:List Value} {news:List (Addr × Obj)} {R:List (Addr × Obj)→Value→Prop}
    {dp un:Nat} {gd:Option (List Code)} {cn:Str} {cs:Scope} {a:Addr} {ccd:Value} {cl:List (Str × Addr)} {outer:List Env} {A₀:Around} {base h₀:Heap} {L:Addr} {m:Str→Option Value} {s:Shared} {Q E:Value→Shared→Prop}
    (B:Below A₀ base outer h₀) (F:Fr h₀ L s.heap m) (X:(topT.heap_39 w.params).In h₀) (N:News h₀ L s.heap news) (T:Top topProg LG mean mg mb h₀) (hk:cs.kind = .function) (C:CtrO w mean mg mb f lv vs news R) (hd:dp + 10 * lv < 600) (hu:un + 100 * lv < 6000)
    (ret:∀ r tl h' tk',R tl r→Fresh tl news→Fr h₀ L h' m→News h₀ L h' (tl ++ news)→Q r { s with heap := h',toks := tk' }) :
    wpAny (model PG w) (ktrTop dp un gd cn cs L a ccd cl outer) (call (.ref f) vs) Q E s := C dp un gd cn cs a ccd cl outer A₀ base h₀ L m s Q E B F X N T hk hd hu ret
end
section
inductive TEnd (h₀:Heap) (L:Addr) (m:Str→Option Value) (s:Shared) (all:List (Addr × Obj)) (Y:Value→Prop) (y:Value) (s':Shared):Prop
  | con (h':_) (tk':_)
      (q1:s' = { s with heap := h',toks := tk' })
      (q2:Fr h₀ L h' m)
      (q3:News h₀ L h' all)
      (q4:Y y):TEnd h₀ L m s all Y y s'
theorem TEnd.intro {h₀:Heap} {L:Addr} {m:Str→Option Value} {s:Shared} {all:List (Addr × Obj)} {Y:Value→Prop} {y:Value} {h':Heap} {tk':Nat} (F:Fr h₀ L h' m) (N:News h₀ L h' all) (hy:Y y):TEnd h₀ L m s all Y y { s with heap := h',toks := tk' } := ⟨h',tk',rfl,F,N,hy⟩
section
variable {prog:Program} {w:World} {A:Around} {h₀:Heap} {L:Addr} {m:Str→Option Value} {env:Env} {elt:Expr} {x:Str} {scope:Scope} {cl:List (Str × Addr)} {s:Shared} {S:List (Addr × Obj)→Prop} {P:Nat→Value→Prop} {Fin:List Value→List (Addr × Obj)→Prop} {news:List (Addr × Obj)}
theorem lc_rest {n:Nat} (Y:Nat→Value→Prop) (hS:S news)
    (turn:∀ i v I oI C oC D m₂ ys h tk (E':Value→Shared→Prop),i < n→P i v→LCg.NsObj oC m₂→m₂ x = some v→Fr h₀ L h m→News h₀ L h ((I,oI) :: (C,oC) :: (D,LCg.lst ys) :: news)→LCg.Off3 I C D news→((@Ne Nat I C) ∧ (@Ne Nat I D) ∧ (@Ne Nat C D)) →
      wpAny (model prog w) A (eval elt (compEnvC scope cl C env)) (TEnd h₀ L m { s with heap := h,toks := tk } ((I,oI) :: (C,oC) :: (D,LCg.lst ys) :: news) (Y i)) E' { s with heap := h,toks := tk })
    (fin:∀ ys,ys.length = n→(∀ i y,ys[i]? = some y→Y i y)→Fin ys news):LCg.CompRest prog w A h₀ L m env elt x scope cl s S P Fin n 0 [] news := by
  have key:∀ (j i:Nat) (ys:List Value),i + j = n→ys.length = i→(∀ i y,ys[i]? = some y→Y i y)→LCg.CompRest prog w A h₀ L m env elt x scope cl s S P Fin j i ys news := by
    intro j
    induction j with
    | zero =>
      intro i ys hi hl hy
      exact LCg.CompRest.zero (fin ys (Nat.le_antisymm (bC (fk30 (Z8 V0 V1 (Z8 (La V1 K0) V2 (Z10 V0 V2 Lf))) rfl hl hi)) (bC (fk30 (Z9 V0 V1 (Z9 (La V1 K0) V2 (Z10 V2 V0 Lf))) rfl hl hi))) hy)
    | succ j ih =>
      intro i ys hi hl hy
      refine LCg.CompRest.succ ?_
      intro v I oI C oC D m₂ h tk E' hv hC hx F N off ne
      refine wpAny_mono (turn i v I oI C oC D m₂ ys h tk E' (bC (fk30 (Z8 (La V0 (La V1 K1)) V2 (Z12 V1 (Z11 V0 V2 Lf))) rfl hi trivial)) hv hC hx F N off ne) (fun y s₂ hq=>?_) fun _ _ e=>e
      obtain ⟨h',tk',e,F',N',hY⟩ := hq
      refine ⟨h',tk',news,e,F',N',off,hS,ih (i + 1) _ (Nat.le_antisymm (bC (fk30 (Z8 (La V0 (La V1 K1)) V2 (Z10 (La (La V0 K1) V1) V2 Lf)) rfl hi)) (bC (fk30 (Z9 (La V0 (La V1 K1)) V2 (Z10 V2 (La (La V0 K1) V1) Lf)) rfl hi))) (by simp [hl]) ?_⟩
      intro k y' hk
      rw [List.getElem?_append] at hk
      split at hk
      · exact hy k y' hk
      · rename_i hk2
        have:k = i := by
          have := List.getElem?_eq_some_iff.mp hk
          obtain ⟨h1,_⟩ := this
          simp at h1;exact Nat.le_antisymm (bC (fk40 (Z8 V0 K0 (Z8 V1 V2 (Z9 (La V0 V1) V3 (Z10 V3 V2 Lf)))) rfl h1 hl (sC (bC (fk20 (Z11 V0 V1 (Z10 V1 V0 Lf)) rfl hk2))))) (bC (fk30 (Z11 V0 V1 (Z9 V1 V2 (Z10 V2 V0 Lf))) rfl hk2 hl))
        subst this
        simp [hl] at hk
        subst hk
        exact hY
  exact key n 0 [] (Nat.le_antisymm (bC (fk10 (Z10 (La K0 V0) V0 Lf) rfl)) (bC (fk10 (Z10 V0 (La K0 V0) Lf) rfl))) rfl (by intro i y h;simp at h)
end
theorem fresh_app {a b news:List (Addr × Obj)} (h:Fresh a news) (k:Fresh b news):Fresh (a ++ b) news := fun p hp=>(List.mem_append.mp hp).elim (h p) (k p)
theorem fresh_cons {x:Addr} {o:Obj} {b news:List (Addr × Obj)} (h:∀ q ∈ news,q.1 ≠ x) (k:Fresh b news):Fresh ((x,o) :: b) news := fun p hp=>by
  rcases List.mem_cons.mp hp with rfl | hp
  · exact h
  · exact k p hp
theorem Fresh.sub {a l l':List (Addr × Obj)} (h:Fresh a l) (hs:∀ q ∈ l',q ∈ l):Fresh a l' := fun p hp q hq=>h p hp q (hs q hq)
theorem off1_mem {D:Addr} {l:List (Addr × Obj)} (h:LCg.Off1 D l):∀ p ∈ l,p.1 ≠ D := by
  induction l with
  | nil=>intro p hp;cases hp
  | cons a l ih =>
    obtain ⟨h1,h2⟩ := h
    intro p hp
    cases hp with
    | head=>exact h1
    | tail _ hp=>exact ih h2 p hp
theorem fresh_nil {news:List (Addr × Obj)}:Fresh [] news := fun _ hp=>nomatch hp
inductive TEndD (h₀:Heap) (L:Addr) (m:Str→Option Value) (s:Shared) (all:List (Addr × Obj)) (d:Dat) (y:Value) (s':Shared):Prop
  | con (h':_) (tk':_) (add:_)
      (q1:s' = { s with heap := h',toks := tk' })
      (q2:Fr h₀ L h' m)
      (q3:News h₀ L h' (add ++ all))
      (q4:Fresh add all)
      (q5:DatIn add y d):TEndD h₀ L m s all d y s'
section
variable {prog:Program} {w:World} {A:Around} {h₀:Heap} {L:Addr} {m:Str→Option Value} {env:Env} {elt:Expr} {x:Str} {scope:Scope} {cl:List (Str × Addr)} {s:Shared} {S:List (Addr × Obj)→Prop} {P:Nat→Value→Prop} {Fin:List Value→List (Addr × Obj)→Prop} {news:List (Addr × Obj)}
theorem lc_data {n:Nat} (rows:Nat→Dat) (hS:∀ tl,S (tl ++ news))
    (turn:∀ i v I oI C oC D m₂ ys tl h tk (E':Value→Shared→Prop),i < n→P i v→DatAll tl ys ((List.range i).map rows)→LCg.NsObj oC m₂→m₂ x = some v→Fr h₀ L h m→News h₀ L h ((I,oI) :: (C,oC) :: (D,LCg.lst ys) :: (tl ++ news))→LCg.Off3 I C D (tl ++ news)→((@Ne Nat I C) ∧ (@Ne Nat I D) ∧ (@Ne Nat C D)) →
      wpAny (model prog w) A (eval elt (compEnvC scope cl C env)) (TEndD h₀ L m { s with heap := h,toks := tk } ((I,oI) :: (C,oC) :: (D,LCg.lst ys) :: (tl ++ news)) (rows i)) E' { s with heap := h,toks := tk })
    (fin:∀ ys tl,DatAll tl ys ((List.range n).map rows)→Fresh tl news→Fin ys (tl ++ news)):LCg.CompRest prog w A h₀ L m env elt x scope cl s S P Fin n 0 [] news := by
  have key:∀ (j i:Nat) (ys:List Value) (tl:List (Addr × Obj)),i + j = n→DatAll tl ys ((List.range i).map rows)→Fresh tl news→LCg.CompRest prog w A h₀ L m env elt x scope cl s S P Fin j i ys (tl ++ news) := by
    intro j
    induction j with
    | zero =>
      intro i ys tl hi hd hf
      have e:i = n := by exact Nat.le_antisymm (bC (fk20 (Z8 (La V0 K0) V1 (Z10 V0 V1 Lf)) rfl hi)) (bC (fk20 (Z9 (La V0 K0) V1 (Z10 V1 V0 Lf)) rfl hi))
      subst e
      exact LCg.CompRest.zero (fin ys tl hd hf)
    | succ j ih =>
      intro i ys tl hi hd hf
      refine LCg.CompRest.succ ?_
      intro v I oI C oC D m₂ h tk E' hv hC hx F N off ne
      refine wpAny_mono (turn i v I oI C oC D m₂ ys tl h tk E' (bC (fk30 (Z8 (La V0 (La V1 K1)) V2 (Z12 V1 (Z11 V0 V2 Lf))) rfl hi trivial)) hv hd hC hx F N off ne) (fun y s₂ hq=>?_) fun _ _ e=>e
      obtain ⟨h',tk',add,e,F',N',ho,hY⟩ := hq
      have off3 := off.mem
      refine ⟨h',tk',(add ++ tl) ++ news,e,F',fun p hp=>N' p ?_,LCg.Off3.of fun p hp=>?_,hS _,ih (i + 1) _ (add ++ tl) (Nat.le_antisymm (bC (fk30 (Z8 (La V0 (La V1 K1)) V2 (Z10 (La (La V0 K1) V1) V2 Lf)) rfl hi)) (bC (fk30 (Z9 (La V0 (La V1 K1)) V2 (Z10 V2 (La (La V0 K1) V1) Lf)) rfl hi))) ?_ ?_⟩
      · simp only [List.mem_cons,List.mem_append] at hp ⊢
        rcases hp with h | h | h | (h | h) | h <;> simp [h]
      · rw [List.append_assoc] at hp
        rcases List.mem_append.mp hp with hp | hp
        · exact ⟨Ne.symm (ho p hp _ (.head _)),Ne.symm (ho p hp _ (.tail _ (.head _))),Ne.symm (ho p hp _ (.tail _ (.tail _ (.head _))))⟩
        · exact off3 p hp
      · rw [List.range_succ,List.map_append]
        exact DatAll.append (hd.mono fun p hp=>List.mem_append_right _ hp) (.one (hY.mono fun p hp=>List.mem_append_left _ hp))
      · exact fresh_app (fun p hp q hq=>ho p hp q (.tail _ (.tail _ (.tail _ (List.mem_append_right _ hq))))) hf
  exact key n 0 [] [] (Nat.le_antisymm (bC (fk10 (Z10 (La K0 V0) V0 Lf) rfl)) (bC (fk10 (Z10 V0 (La K0 V0) Lf) rfl))) .nil (fun p hp=>by simp at hp)
end
theorem ints_by:∀ {ys:List Value} {ns:List Int},ys.length = ns.length→(∀ (i:Nat) y,ys[i]? = some y→∃ (k:Int) (t:Tok),ns[i]? = some k ∧ y = .int k t)→IntsAre ys ns
  | [],[],_,_=>.nil
  | [],_ :: _,h,_=>by simp at h
  | _ :: _,[],h,_=>by simp at h
  | y :: ys,n :: ns,hl,h=>by
    obtain ⟨k,t,hk,hy⟩ := h 0 y rfl
    simp at hk;subst hk;subst hy
    exact .cons n t (ints_by (by simpa using hl) fun i y e=>h (i + 1) y (by simpa using e))
theorem ints_of {Y:Nat→Value→Prop} {ys:List Value} {G:Int→Prop} (hY:∀ i y,Y i y→∃ k t,y = .int k t ∧ G k) (h:∀ i y,ys[i]? = some y→Y i y):∃ ns,IntsAre ys ns ∧ ∀ k ∈ ns,G k := by
  induction ys generalizing Y with
  | nil=>exact ⟨[],.nil,by simp⟩
  | cons y r ih =>
    obtain ⟨k,t,rfl,hg⟩ := hY 0 y (h 0 y rfl)
    obtain ⟨ns,hi,hn⟩ := ih (Y := fun i y=>Y (i + 1) y) (fun i y=>hY (i + 1) y) fun i y e=>h (i + 1) y (by simpa using e)
    exact ⟨k :: ns,.cons k t hi,by simpa using ⟨hg,hn⟩⟩
theorem sum_ge0 {ns:List Int} (h:∀ k ∈ ns,0 ≤ k):0 ≤ ns.sum := by
  induction ns with
  | nil=>simp
  | cons a r ih=>simp only [List.sum_cons];have := h a (by simp);have := ih fun k hk=>h k (by simp [hk]);exact (iDn (Int.add_le_add (by assumption) this) rfl)
noncomputable abbrev tx (x:Str):List Nat := x.cps.toList
theorem tx_inj {x y:Str} (h:tx x = tx y):x = y := Str.ext' (Array.toList_inj.mp h)
theorem tx_len (x:Str):(tx x).length = x.length := by simp [tx,Str.length]
theorem tx_app (a b:Str):tx (a ++ b) = tx a ++ tx b := by unfold tx;rw [Str.cps_append,Array.toList_append]
theorem tx_slice_to {x:Str} {j:Int} (h0:0 ≤ j) (h2:j ≤ x.length):tx (Txt.slice x none (some j)) = (tx x).take j.toNat := by
  rw [beq_iff_eq.mp (slice_closes_toL h0 h2)];simp [tx]
theorem tx_slice_from {x:Str} {i:Int} (h0:0 ≤ i) (h2:i ≤ x.length):tx (Txt.slice x (some i) none) = (tx x).drop i.toNat := by
  rw [slice_from_eq h0 h2 rfl]
  show List.take _ _ = _
  rw [List.take_of_length_le]
  rw [List.length_drop]
  have := tx_len x
  unfold tx at this
  exact Nat.le_of_eq (by rw [this,← Int.toNat_sub,tC h0])
theorem tx_item {x:Str} {i:Int} (h0:0 ≤ i) (h1:i < x.length):∃ c,(tx x)[i.toNat]? = some c ∧ Txt.item x i = ⟨#[c]⟩ := by
  have := at_getD ⟨h0,h1⟩
  refine ⟨x.cps.getD i.toNat 0,by unfold tx;rw [Array.getElem?_toList];exact this,beq_iff_eq.mp (item_closes ⟨h0,h1⟩)⟩
theorem tx_empty:tx Str.empty = [] := rfl
theorem tx_join0:∀ l:List Str,tx (Txt.join (Str.ofString "") l) = (l.map tx).flatten := by
  intro l
  show tx (Builtin.Str.glued (Str.ofString "") l) = _
  rw [StrLaws.glued_eq_join]
  induction l with
  | nil=>rfl
  | cons a r ih =>
    cases r with
    | nil=>simp [Str.join]
    | cons b t =>
      show tx (a ++ Str.ofString "" ++ Str.join (Str.ofString "") (b :: t)) = _
      rw [tx_app,tx_app,ih,show tx (Str.ofString "") = [] from by decide +kernel]
      simp
noncomputable def IsLead (x:Str):Prop := ∀ c ∈ tx x,c = 32 ∨ c = 9
theorem isLead_app {a b:Str} (h:IsLead a) (k:IsLead b):IsLead (a ++ b) := by
  intro c hc;rw [tx_app] at hc;rcases List.mem_append.mp hc with hc | hc
  · exact h c hc
  · exact k c hc
theorem strs_of {Y:Nat→Value→Prop} {ys:List Value} {G:Str→Prop} (hY:∀ i y,Y i y→∃ k t,y = .str k t ∧ G k) (h:∀ i y,ys[i]? = some y→Y i y):∃ ns,StrsAre ys ns ∧ ∀ k ∈ ns,G k := by
  induction ys generalizing Y with
  | nil=>exact ⟨[],.nil,by simp⟩
  | cons y r ih =>
    obtain ⟨k,t,rfl,hg⟩ := hY 0 y (h 0 y rfl)
    obtain ⟨ns,hi,hn⟩ := ih (Y := fun i y=>Y (i + 1) y) (fun i y=>hY (i + 1) y) fun i y e=>h (i + 1) y (by simpa using e)
    exact ⟨k :: ns,.cons k t hi,by simpa using ⟨hg,hn⟩⟩
theorem signs_lead {i:Int} (h0:0 ≤ i) (h1:i < 2):IsLead (Txt.item (Str.ofString " \t") i) ∧ (Txt.item (Str.ofString " \t") i).length = 1 := by
  have:i = 0 ∨ i = 1 := by lia
  rcases this with rfl | rfl
  · have e:Txt.item (Str.ofString " \t") 0 = ⟨#[32]⟩ := by decide +kernel
    rw [e];exact ⟨by intro c hc;simp [tx] at hc;exact .inl hc,rfl⟩
  · have e:Txt.item (Str.ofString " \t") 1 = ⟨#[9]⟩ := by decide +kernel
    rw [e];exact ⟨by intro c hc;simp [tx] at hc;exact .inr hc,rfl⟩
theorem join_lead {l:List Str} (h:∀ k ∈ l,IsLead k ∧ k.length = 1):IsLead (Txt.join (Str.ofString "") l) ∧ (Txt.join (Str.ofString "") l).length = l.length := by
  constructor
  · intro c hc
    rw [tx_join0] at hc
    obtain ⟨a,ha,hca⟩ := List.mem_flatten.mp hc
    obtain ⟨b,hb,rfl⟩ := List.mem_map.mp ha
    exact (h b hb).1 c hca
  · rw [← tx_len,tx_join0]
    induction l with
    | nil=>rfl
    | cons a r ih =>
      rw [List.map_cons,List.flatten_cons,List.length_append,ih (fun k hk=>h k (by simp [hk])),tx_len,(h a (by simp)).2]
      simp;exact Nat.le_antisymm (bC (fk10 (Z10 (La K1 V0) (La V0 K1) Lf) rfl)) (bC (fk10 (Z10 (La V0 K1) (La K1 V0) Lf) rfl))
theorem sum_len1 {l:List Str} (h:∀ k ∈ l,k.length = 1):(l.map (·.length)).sum = l.length := by
  induction l with
  | nil=>rfl
  | cons a r ih=>rw [List.map_cons,List.sum_cons,ih (fun k hk=>h k (by simp [hk])),h a (by simp)];simp;exact Nat.le_antisymm (bC (fk10 (Z10 (La K1 V0) (La V0 K1) Lf) rfl)) (bC (fk10 (Z10 (La V0 K1) (La K1 V0) Lf) rfl))
inductive Stroke:List Nat→List Nat→Prop
  | ins (p q:List Nat) (c:Nat):(c = 32 ∨ c = 9)→Stroke (p ++ q) (p ++ c :: q)
  | del (p q:List Nat) (d:Nat):Stroke (p ++ d :: q) (p ++ q)
  | sub (p q:List Nat) (c d:Nat):(c = 32 ∨ c = 9)→Stroke (p ++ d :: q) (p ++ c :: q)
theorem is32 {n:Nat}:(({ cps := #[n] }:Str) == (Str.ofString " ")) = true ↔ n = 32 := by
  rw [show Str.ofString " " = (Str.mk #[32]) from by decide +kernel,beq_iff_eq]
  simp
theorem is9 {n:Nat}:(({ cps := #[n] }:Str) == (Str.ofString "\t")) = true ↔ n = 9 := by
  rw [show Str.ofString "\t" = (Str.mk #[9]) from by decide +kernel,beq_iff_eq]
  simp
inductive GS {σ:Type} (ps:σ→List (Str × Value)) (Inv:Nat→σ→List (Addr × Obj)→Prop) (x:Str) (stored:List Str) (m₀:Str→Option Value) (i:Nat) (m:Str→Option Value) (nx:List (Addr × Obj)):Prop
  | con (c:_)
      (q1:Inv i c nx)
      (q2:(∀ p ∈ ps c,m p.1 = some p.2))
      (q3:∀ z,z ≠ x→(∀ p ∈ ps c,z ≠ p.1)→stored.contains z = false→m z = m₀ z):@GS σ ps Inv x stored m₀ i m nx
section
variable {prog:Program} {w:World} {A:Around} {E:Value→Shared→Prop} {s:Shared} {env:Env} {h₀:Heap} {x:Str} {body:List Stmt} {Q:Flow→Shared→Prop}
theorem gs_end {σ:Type} {ps:σ→List (Str × Value)} {Inv:Nat→σ→List (Addr × Obj)→Prop} {stored:List Str} {m₀:Str→Option Value} {i:Nat} (c:σ) (nx:List (Addr × Obj)) {L:Addr} {m':Str→Option Value} {own all:List (Addr × Obj)} {s₁:Shared} {h':Heap} {tk:Nat}
    (F:Fr h₀ L h' m') (N:News h₀ L h' all) (hn:∀ p ∈ nx,p ∈ all) (ho:∀ p ∈ own,p ∈ all) (ha:OwnOff own (nx.map (·.1))) (hi:Inv i c nx) (hk:∀ p ∈ ps c,m' p.1 = some p.2) (hr:∀ z,z ≠ x→(∀ p ∈ ps c,z ≠ p.1)→stored.contains z = false→m' z = m₀ z) :
    InvEndG h₀ L (GS ps Inv x stored m₀ i) own s₁ { s₁ with heap := h',toks := tk } := ⟨h',tk,m',all,nx,rfl,F,N,hn,ho,ha,c,hi,hk,hr⟩
theorem my_text {σ:Type} {xt:Str} {tx':Tok} {m₀:Str→Option Value} {news:List (Addr × Obj)} (ps:σ→List (Str × Value)) (Inv:Nat→σ→List (Addr × Obj)→Prop) (stored:List Str) (c₀:σ)
    (hh:A.handled = none) (F:Fr h₀ env.locals s.heap m₀) (N:News h₀ env.locals s.heap news) (hj:Inv 0 c₀ news) (hk:∀ p ∈ ps c₀,m₀ p.1 = some p.2)
    (turn:∀ (c:σ) i code t (u:Str→Option Value) h tk own nx,(tx xt)[i]? = some code→OwnOff own (nx.map (·.1))→Inv i c nx →
      Fr h₀ env.locals h (fun y=>if y = x then some (.str ⟨#[code]⟩ t) else kstB (fun z=>if stored.contains z then u z else m₀ z) (ps c) y)→News h₀ env.locals h (nx ++ own) →
      wpAny (model prog w) A (execs body env) (InvPostG h₀ env.locals (GS ps Inv x stored m₀ (i + 1)) own { s with heap := h,toks := tk } Q) E { s with heap := h,toks := tk })
    (done:∀ (c:σ) (u:Str→Option Value) h tk nx,Inv xt.length c nx→Fr h₀ env.locals h (fun y=>if y = x then u y else kstB (fun z=>if stored.contains z then u z else m₀ z) (ps c) y)→News h₀ env.locals h nx→Q .next { s with heap := h,toks := tk }) :
    wpAny (model prog w) A (pyIter (.str xt tx')) (fun it s₂=>LoopAtV prog w A h₀ env x body Q E it s₂) E s := by
  have main:∀ (o:Obj) (St:Nat→Heap→Prop),Walks prog w A s.heap.objs.size [s.heap.objs.size] [s.heap.objs.size] xt.cps.size (SignAt xt) St→(∀ i h,St i h→∃ o,h.get? s.heap.objs.size = some o)→St 0 (s.heap.push o) →
      LoopAtV prog w A h₀ env x body Q E (.ref s.heap.objs.size) { s with heap := s.heap.push o } := by
    intro o St W hob hst
    refine kdr_loop (fun i m nx=>GS ps Inv x stored m₀ i m nx) W (fun _ h=>h) (fun _ h=>h) ?_ ?_ ?_ ?_ hst (F.push _) (fun p hp=>⟨Heap.get?_push_of_some _ (N p hp).1,(N p hp).2⟩) ⟨c₀,hj,hk,fun _ _ _ _=>rfl⟩ ?_ ?_
    · intro i h hi b hb
      rw [List.mem_singleton.mp hb]
      exact hob i h hi
    · intro hm
      exact absurd F.ns.lt ((List.mem_singleton.mp hm) ▸ Nat.lt_irrefl _)
    · intro b hb
      rw [List.mem_singleton.mp hb]
      exact next_is_new F
    · intro p hp hI
      exact absurd (Heap.lt_size (N p hp).1) ((List.mem_singleton.mp hI) ▸ Nat.lt_irrefl _)
    · rintro i v m₁ nx h tk own hi ⟨n,u,hn,rfl⟩ hoff ⟨c,hI,h1,h2⟩ F₁ N₁
      exact turn c i n u m₁ h tk own nx (by unfold tx;rw [Array.getElem?_toList];exact hn) hoff hI (kst_fr h1 h2 F₁) N₁
    · rintro m₁ nx h tk ⟨c,hI,h1,h2⟩ F₁ N₁
      exact done c m₁ h tk nx hI (kst_frOut h1 h2 F₁) N₁
  cases ha:xt.cps.all (· < 128)
  · exact wpAny_pyIter_wide ha (main _ _ (Walks.strWide hh _ xt tx') (fun i h st=>by obtain ⟨o,ho,_⟩ := st;exact ⟨o,ho⟩) ⟨_,Heap.get?_push_size _ rfl,rfl,rfl⟩)
  · exact wpAny_pyIter_ascii ha (main _ _ (Walks.strAscii hh _ xt tx') (fun i h st=>by obtain ⟨o,ho,_⟩ := st;exact ⟨o,ho⟩) ⟨_,Heap.get?_push_size _ rfl,rfl,rfl⟩)
theorem my_range {σ:Type} {r:Addr} {a₀ b₀:Int} {t₀ u₀ v₀:Tok} {n:Nat} {m₀:Str→Option Value} {news:List (Addr × Obj)} (ps:σ→List (Str × Value)) (Inv:Nat→σ→List (Addr × Obj)→Prop) (stored:List Str) (c₀:σ)
    (hh:A.handled = none) (hr:IsRange s.heap r a₀ b₀ 1 t₀ u₀ v₀) (hsmall:Builtin.Range.small a₀ b₀ 1 = true) (hsz:Builtin.Range.rangeSize a₀ b₀ 1 = (n:Int)) (F:Fr h₀ env.locals s.heap m₀) (N:News h₀ env.locals s.heap news) (hj:Inv 0 c₀ news) (hk:∀ p ∈ ps c₀,m₀ p.1 = some p.2)
    (turn:∀ (c:σ) (i:Nat) t (u:Str→Option Value) h tk own nx,i < n→OwnOff own (nx.map (·.1))→Inv i c nx →
      Fr h₀ env.locals h (fun y=>if y = x then some (.int (a₀ + (i:Int)) t) else kstB (fun z=>if stored.contains z then u z else m₀ z) (ps c) y)→News h₀ env.locals h (nx ++ own) →
      wpAny (model prog w) A (execs body env) (InvPostG h₀ env.locals (GS ps Inv x stored m₀ (i + 1)) own { s with heap := h,toks := tk } Q) E { s with heap := h,toks := tk })
    (done:∀ (c:σ) (u:Str→Option Value) h tk nx,Inv n c nx→Fr h₀ env.locals h (fun y=>if y = x then u y else kstB (fun z=>if stored.contains z then u z else m₀ z) (ps c) y)→News h₀ env.locals h nx→Q .next { s with heap := h,toks := tk }) :
    wpAny (model prog w) A (pyIter (.ref r)) (fun it s₂=>LoopAtV prog w A h₀ env x body Q E it s₂) E s := by
  refine wpAny_pyIter_range hr hsmall ?_
  have W:Walks prog w A s.heap.objs.size [s.heap.objs.size] [s.heap.objs.size] n (fun i v=>i < n ∧ ∃ t,v = .int (a₀ + i * 1) t)
      (fun i h=>IsRangeIter h s.heap.objs.size (a₀ + (i:Nat) * 1) ((n:Int) - (i:Nat)) 1) := (Walks.range hh _ a₀ 1 n).bound
  refine kdr_loop (fun i m nx=>GS ps Inv x stored m₀ i m nx) W (fun _ h=>h) (fun _ h=>h) ?_ ?_ ?_ ?_ (by show IsRangeIter _ _ _ _ _;rw [hsz];simpa using Heap.get?_push_size _ rfl) (F.push _) (fun p hp=>⟨Heap.get?_push_of_some _ (N p hp).1,(N p hp).2⟩) ⟨c₀,hj,hk,fun _ _ _ _=>rfl⟩ ?_ ?_
  · intro i h hi b hb
    rw [List.mem_singleton.mp hb]
    exact ⟨_,hi⟩
  · intro hm
    exact absurd F.ns.lt ((List.mem_singleton.mp hm) ▸ Nat.lt_irrefl _)
  · intro b hb
    rw [List.mem_singleton.mp hb]
    exact next_is_new F
  · intro p hp hI
    exact absurd (Heap.lt_size (N p hp).1) ((List.mem_singleton.mp hI) ▸ Nat.lt_irrefl _)
  · rintro i v m₁ nx h tk own hi ⟨_,t,rfl⟩ hoff ⟨c,hI,h1,h2⟩ F₁ N₁
    have e1:a₀ + (i:Int) * 1 = a₀ + (i:Int) := by exact Int.le_antisymm (bC (fk11 (Z4 (La V1 (Lr V0 1)) (La V1 V0) Lf) rfl)) (bC (fk11 (Z4 (La V1 V0) (La V1 (Lr V0 1)) Lf) rfl))
    rw [e1] at F₁
    exact turn c i t m₁ h tk own nx hi hoff hI (kst_fr h1 h2 F₁) N₁
  · rintro m₁ nx h tk ⟨c,hI,h1,h2⟩ F₁ N₁
    exact done c m₁ h tk nx hI (kst_frOut h1 h2 F₁) N₁
inductive GB {σ:Type} (h₀:Heap) (L:Addr) (ps:σ→List (Str × Value)) (Fin:σ→List (Addr × Obj)→Prop) (x:Str) (stored:List Str) (m₀:Str→Option Value) (s₁ s₂:Shared):Prop
  | con (h':_) (tk:_) (m':_) (nx:_) (c:_)
      (q1:s₂ = { s₁ with heap := h',toks := tk })
      (q2:Fr h₀ L h' m')
      (q3:News h₀ L h' nx)
      (q4:Fin c nx)
      (q5:(∀ p ∈ ps c,m' p.1 = some p.2))
      (q6:∀ z,z ≠ x→(∀ p ∈ ps c,z ≠ p.1)→stored.contains z = false→m' z = m₀ z):@GB σ h₀ L ps Fin x stored m₀ s₁ s₂
noncomputable def InvPostB (h₀:Heap) (L:Addr) (J:(Str→Option Value)→List (Addr × Obj)→Prop) (own:List (Addr × Obj)) (s₁:Shared) (Q:Flow→Shared→Prop) (Br:Shared→Prop) (f:Flow) (s₂:Shared):Prop :=
  match f with
  | .ret v=>Q (.ret v) s₂
  | .brk=>Br s₂
  | _=>InvEndG h₀ L J own s₁ s₂
theorem gb_end {σ:Type} {ps:σ→List (Str × Value)} {Fin:σ→List (Addr × Obj)→Prop} {stored:List Str} {m₀:Str→Option Value} (c:σ) (nx:List (Addr × Obj)) {L:Addr} {m':Str→Option Value} {all:List (Addr × Obj)} {s₁:Shared} {h':Heap} {tk:Nat}
    (F:Fr h₀ L h' m') (N:News h₀ L h' all) (hn:∀ p ∈ nx,p ∈ all) (hi:Fin c nx) (hk:∀ p ∈ ps c,m' p.1 = some p.2) (hr:∀ z,z ≠ x→(∀ p ∈ ps c,z ≠ p.1)→stored.contains z = false→m' z = m₀ z) :
    GB h₀ L ps Fin x stored m₀ s₁ { s₁ with heap := h',toks := tk } := ⟨h',tk,m',nx,c,rfl,F,fun p hp=>N p (hn p hp),hi,hk,hr⟩
theorem my_textB {σ:Type} {xt:Str} {tx':Tok} {m₀:Str→Option Value} {news:List (Addr × Obj)} (ps:σ→List (Str × Value)) (Inv:Nat→σ→List (Addr × Obj)→Prop) (Fin:σ→List (Addr × Obj)→Prop) (stored:List Str) (c₀:σ)
    (hh:A.handled = none) (F:Fr h₀ env.locals s.heap m₀) (N:News h₀ env.locals s.heap news) (hj:Inv 0 c₀ news) (hk:∀ p ∈ ps c₀,m₀ p.1 = some p.2) (hfin:∀ c nx,Inv xt.length c nx→Fin c nx)
    (turn:∀ (c:σ) i code t (u:Str→Option Value) h tk own nx,(tx xt)[i]? = some code→OwnOff own (nx.map (·.1))→Inv i c nx →
      Fr h₀ env.locals h (fun y=>if y = x then some (.str ⟨#[code]⟩ t) else kstB (fun z=>if stored.contains z then u z else m₀ z) (ps c) y)→News h₀ env.locals h (nx ++ own) →
      wpAny (model prog w) A (execs body env) (InvPostB h₀ env.locals (GS ps Inv x stored m₀ (i + 1)) own { s with heap := h,toks := tk } Q (GB h₀ env.locals ps Fin x stored m₀ { s with heap := h,toks := tk })) E { s with heap := h,toks := tk })
    (done:∀ (c:σ) (u:Str→Option Value) h tk nx,Fin c nx→Fr h₀ env.locals h (fun y=>if y = x then u y else kstB (fun z=>if stored.contains z then u z else m₀ z) (ps c) y)→News h₀ env.locals h nx→Q .next { s with heap := h,toks := tk }) :
    wpAny (model prog w) A (pyIter (.str xt tx')) (fun it s₂=>LoopAtV prog w A h₀ env x body Q E it s₂) E s := by
  refine my_text ps Inv stored c₀ hh F N hj hk (fun c i code t u h tk own nx a1 a2 a3 a4 a5=>?_) fun c u h tk nx a1 a2 a3=>done c u h tk nx (hfin c nx a1) a2 a3
  refine wpAny_mono (turn c i code t u h tk own nx a1 a2 a3 a4 a5) (fun f s₂ p=>?_) fun _ _ e=>e
  cases f with
  | ret v=>exact p
  | next=>exact p
  | cont=>exact p
  | brk =>
    obtain ⟨h',tk',m',nx',c',rfl,F',N',hf,h1,h2⟩ := p
    exact done c' m' h' tk' nx' hf (kst_frOut h1 h2 F') N'
end
section
variable {prog:Program} {w:World} {A:Around} {E:Value→Shared→Prop} {s:Shared} {env:Env} {h₀:Heap} {x:Str} {body:List Stmt} {Q:Flow→Shared→Prop}
noncomputable abbrev StI (news:List (Addr × Obj)) (P:Nat→Prop):Nat→Unit→List (Addr × Obj)→Prop := fun i _ nx=>nx = news ∧ P i
noncomputable abbrev noPs:Unit→List (Str × Value) := fun _=>[]
theorem my_static {r:Addr} {a₀ b₀:Int} {t₀ u₀ v₀:Tok} {n:Nat} {m₀:Str→Option Value} {news:List (Addr × Obj)} (P:Nat→Prop) (stored:List Str)
    (hh:A.handled = none) (hr:IsRange s.heap r a₀ b₀ 1 t₀ u₀ v₀) (hsmall:Builtin.Range.small a₀ b₀ 1 = true) (hsz:Builtin.Range.rangeSize a₀ b₀ 1 = (n:Int)) (F:Fr h₀ env.locals s.heap m₀) (N:News h₀ env.locals s.heap news) (hp:P 0)
    (turn:∀ (i:Nat) t (u:Str→Option Value) h tk own,i < n→OwnOff own (news.map (·.1))→P i →
      Fr h₀ env.locals h (fun y=>if y = x then some (.int (a₀ + (i:Int)) t) else if stored.contains y then u y else m₀ y)→News h₀ env.locals h (news ++ own) →
      wpAny (model prog w) A (execs body env) (InvPostG h₀ env.locals (GS noPs (StI news P) x stored m₀ (i + 1)) own { s with heap := h,toks := tk } Q) E { s with heap := h,toks := tk })
    (done:∀ (u:Str→Option Value) h tk,P n→Fr h₀ env.locals h (fun y=>if y = x then u y else if stored.contains y then u y else m₀ y)→News h₀ env.locals h news→Q .next { s with heap := h,toks := tk }) :
    wpAny (model prog w) A (pyIter (.ref r)) (fun it s₂=>LoopAtV prog w A h₀ env x body Q E it s₂) E s := by
  refine my_range noPs (StI news P) stored () hh hr hsmall hsz F N ⟨rfl,hp⟩ (fun p hp=>by simp at hp) ?_ ?_
  · rintro c i t u h tk own nx hi hoff ⟨rfl,hP⟩ F₁ N₁
    exact turn i t u h tk own hi hoff hP F₁ N₁
  · rintro c u h tk nx ⟨rfl,hP⟩ F₁ N₁
    exact done u h tk hP F₁ N₁
theorem st_end {stored:List Str} {m₀:Str→Option Value} {i:Nat} {L:Addr} {m':Str→Option Value} {own all news:List (Addr × Obj)} {P:Nat→Prop} {s₁:Shared} {h':Heap} {tk:Nat}
    (F:Fr h₀ L h' m') (N:News h₀ L h' all) (hn:∀ p ∈ news,p ∈ all) (ho:∀ p ∈ own,p ∈ all) (ha:OwnOff own (news.map (·.1))) (hp:P i) (hr:∀ z,z ≠ x→(∀ p ∈ ([]:List (Str × Value)),z ≠ p.1)→stored.contains z = false→m' z = m₀ z) :
    InvEndG h₀ L (GS noPs (StI news P) x stored m₀ i) own s₁ { s₁ with heap := h',toks := tk } :=
  gs_end () news F N hn ho ha ⟨rfl,hp⟩ (fun p hp=>by simp at hp) fun z h1 h2 h3=>hr z h1 h2 h3
end
theorem news_ne {h₀ h:Heap} {L a b:Addr} {o o':Obj} {news:List (Addr × Obj)} (N:News h₀ L h news) (ha:(a,o) ∈ news) (hb:(b,o') ∈ news) (hc:o.cls ≠ o'.cls):@Ne Nat a b := by
  intro e
  have h1 := (N _ ha).1
  have h2 := (N _ hb).1
  have e':a = b := e
  rw [e'] at h1
  exact hc (congrArg Obj.cls (Option.some.inj (h1.symm.trans h2)))
section
variable {prog:Program} {w:World} {A:Around} {E:Value→Shared→Prop} {s:Shared} {h₀:Heap} {L tc:Addr} {m:Str→Option Value} {news:List (Addr × Obj)} {vs:List Value} {cnt:List Int} {n:Nat} {Q:Value→Shared→Prop}
theorem tup_len (N:News h₀ L s.heap news) (hm:(tc,({ cls := .type "tuple",data := .seq vs.toArray n }:Obj)) ∈ news) (hI:IntsAre vs cnt) (hc:cnt.length ≤ 1000)
    (h:Q (.int cnt.length (s.toks + 1)) { s with toks := s.toks + 1 + 1 }):wpAny (model prog w) A (call (.builtin "len") [.ref tc]) Q E s := by
  have e:vs.toArray.size = cnt.length := by rw [List.size_toArray,hI.length]
  exact PyProof.Rows.len_tuple (News.isTup N hm) (by rw [e];exact (iUpLt (iCast (Nat.le_trans (Nat.le_of_eq (Eq.symm e)) (Nat.le_trans (Nat.le_of_eq e) hc))) rfl)) (by rw [e];exact h)
theorem tup_item {value slice:Expr} {k:Int} {u:Tok} (N:News h₀ L s.heap news) (hm:(tc,({ cls := .type "tuple",data := .seq vs.toArray n }:Obj)) ∈ news) (hI:IntsAre vs cnt) (hc:cnt.length ≤ 1000) (h0:0 ≤ k) (h1:k < cnt.length)
    (h:∀ t,Q (.int (cnt.getD k.toNat 0) t) s)
    (hs:subscripted slice false (.ref tc) (.int k u) = operate [.ref tc,.int k u] (getItem (.ref tc) (.int k u)) := by with_unfolding_all rfl) :
    wpAny (model prog w) A (subscriptTail value slice (.ref tc) (.int k u)) Q E s := by
  have hk:k.toNat < cnt.length := by exact bC (fk21 (Z1 V2 V0 (Z2 V1 V2 (Z11 V1 V0 Lf))) rfl h1 (tC (bC (fk01 (Z0 K0 V0 (Z4 K0 V0 Lf)) rfl h0))))
  have hl := hI.length
  obtain ⟨t,ht⟩ := hI.get k.toNat (cnt[k.toNat]) (by simp [hk])
  refine item_tupleT (j := k.toNat) (x := .int (cnt.getD k.toNat 0) t) (News.isTup N hm) (by exact (iDn h0 rfl)) (by exact (iUpLt (Int.le_trans (iLt1 h1) (Int.sub_le_sub_right (iCast hc) 1)) rfl)) ?_ ?_ (h t) hs
  · unfold seqIndex?
    simp;lia
  · rw [ht];simp [List.getD,hk]
end
end
local macro_rules | `(tactic| k_ne) => `(tactic| (refine neN ?_; (with_reducible rename News _ _ _ _ => lN9); refine news_ne lN9 (by k_mem) (by k_mem) ?_; exact fun e => absurd (Value.type.inj e) (by decide)))
local macro_rules | `(tactic| k_ne) => `(tactic| (refine neN ?_; (try dsimp only); omega))
section
example:True := by
  k_with "InvPostB" => (dsimp only [InvPostB])
  k_with "exec For Name Attribute cons nil" => (k_here;(rename Fr _ _ _ _=>lF');(with_unfolding_all refine For_invVF lF' (by exact rfl) (by exact rfl) ?_;k_whole))
  trivial
structure WS where
  b:Int
  n:Int
  nt:Int
  count:List Int
noncomputable def grow (cnt:List Int) (b:Int):List Int := cnt ++ (List.replicate (b - cnt.length + 1).toNat [0]).flatten
theorem grow_len (cnt:List Int) (b:Int):(grow cnt b).length = cnt.length + (b - cnt.length + 1).toNat := by simp [grow]
noncomputable def bump1 (c:List Int) (b:Int):List Int := c.set b.toNat (c.getD b.toNat 0 + 1)
noncomputable def bump (cnt:List Int) (b:Int):List Int := bump1 (if b ≥ (cnt.length:Int) then grow cnt b else cnt) b
noncomputable def wsStep (st:WS) (c:Nat):WS := if c = 32 then { st with n := st.n + 1,b := st.b + 1 } else { b := 0,n := st.n + 1,nt := st.nt + 1,count := bump st.count st.b }
noncomputable def wsOf (l:List Nat):WS := l.foldl wsStep ⟨0,0,0,[]⟩
theorem wsOf_snoc (l:List Nat) (c:Nat):wsOf (l ++ [c]) = wsStep (wsOf l) c := by simp [wsOf]
theorem ws_facts (l:List Nat):0 ≤ (wsOf l).b ∧ (wsOf l).b ≤ l.length ∧ (wsOf l).n = l.length ∧ 0 ≤ (wsOf l).nt ∧ (wsOf l).nt ≤ l.length ∧ (wsOf l).count.length ≤ l.length + 1 := by
  suffices h:∀ r:List Nat,0 ≤ (wsOf r.reverse).b ∧ (wsOf r.reverse).b ≤ r.length ∧ (wsOf r.reverse).n = r.length ∧ 0 ≤ (wsOf r.reverse).nt ∧ (wsOf r.reverse).nt ≤ r.length ∧ (wsOf r.reverse).count.length ≤ r.length + 1 by
    have := h l.reverse
    simpa using this
  intro r
  induction r with
  | nil=>simp [wsOf]
  | cons c r ih =>
    rw [List.reverse_cons,wsOf_snoc]
    obtain ⟨h1,h2,h3,h4,h5,h6⟩ := ih
    unfold wsStep
    split
    · simp only [List.length_cons];refine ⟨by exact (iDn (Int.add_le_add h1 iLit) rfl),by exact bC (fk11 (Z0 V1 V0 (Z4 (La V1 K1) (La V0 K1) Lf)) rfl h2),by exact Int.le_antisymm (bC (fk11 (Z2 V1 V0 (Z4 (La V1 K1) (La V0 K1) Lf)) rfl h3)) (bC (fk11 (Z3 V1 V0 (Z4 (La V0 K1) (La V1 K1) Lf)) rfl h3)),h4,by exact (Int.le_trans h5 (iCast (Nat.le_add_right _ _))),by exact (Nat.le_trans h6 (Nat.le_add_right _ _))⟩
    · simp only [List.length_cons]
      refine ⟨by exact (by decide),by exact (iDn (iCast (Nat.add_le_add (Nat.zero_le _) nLit)) rfl),by exact Int.le_antisymm (bC (fk11 (Z2 V1 V0 (Z4 (La V1 K1) (La V0 K1) Lf)) rfl h3)) (bC (fk11 (Z3 V1 V0 (Z4 (La V0 K1) (La V1 K1) Lf)) rfl h3)),by exact (iDn (Int.add_le_add h4 iLit) rfl),by exact bC (fk11 (Z0 V1 V0 (Z4 (La V1 K1) (La V0 K1) Lf)) rfl h5),?_⟩
      unfold bump bump1
      split
      · simp only [List.length_set,grow_len];exact bC (fk31 (Z0 V3 V0 (Z2 V1 (La (Ls V3 V2) K1) (Z10 (La V2 V1) (La (La V0 K1) K1) Lf))) rfl h2 (tC (bC (fk11 (Z0 V0 V1 (Z4 K0 (La (Ls V1 V0) K1) Lf)) rfl (by assumption)))))
      · simp only [List.length_set];exact (Nat.le_trans h6 (Nat.le_add_right _ _))
structure SI where
  st:WS
  l:Addr
  vs:List Value
  nn:Nat
  tb:Tok
  tn:Tok
  tt:Tok
noncomputable abbrev siPs (c:SI):List (Str × Value) := [(Str.ofString "b",.int c.st.b c.tb),(Str.ofString "n",.int c.st.n c.tn),(Str.ofString "nt",.int c.st.nt c.tt),(Str.ofString "count",.ref c.l)]
noncomputable def siInv (lead:List Nat) (led:List (Addr × Obj)) (i:Nat) (c:SI) (nx:List (Addr × Obj)):Prop :=
  i ≤ lead.length ∧ c.st = wsOf (lead.take i) ∧ IntsAre c.vs c.st.count ∧ nx = (c.l,listOf c.vs.toArray c.nn) :: led ∧ (∀ p ∈ led,p.1 ≠ c.l)
noncomputable def siFin (lead:List Nat) (led:List (Addr × Obj)) (c:SI) (nx:List (Addr × Obj)):Prop := siInv lead led lead.length c nx
section
variable {prog:Program} {w:World} {A:Around} {E:Value→Shared→Prop} {s:Shared} {env:Env} {h₀:Heap} {x:Str} {body:List Stmt} {Q:Flow→Shared→Prop}
theorem init_loop {xt:Str} {lead tail:List Nat} {tx':Tok} {m₀:Str→Option Value} {a1 a2 a3 l:Addr} {o1 o2 o3:Obj} {rest:List (Addr × Obj)} {tb tn tt:Tok} (hr:tx xt = lead ++ tail) (hn:lead.length ≤ 20)
    (hh:A.handled = none) (F:Fr h₀ env.locals s.heap m₀) (N:News h₀ env.locals s.heap ((l,listOf #[] 0) :: (a1,o1) :: (a2,o2) :: (a3,o3) :: rest)) (h1:@Ne Nat a1 l) (h2:@Ne Nat a2 l) (h3:@Ne Nat a3 l) (h4:∀ p ∈ rest,p.1 ≠ l)
    (eb:m₀ (Str.ofString "b") = some (.int 0 tb)) (en:m₀ (Str.ofString "n") = some (.int 0 tn)) (et:m₀ (Str.ofString "nt") = some (.int 0 tt)) (ec:m₀ (Str.ofString "count") = some (.ref l))
    (turn:∀ b n nt cnt vs nn (l:Addr) tb tn tt i code t (u:Str→Option Value) h tk own,i ≤ lead.length→(lead ++ tail)[i]? = some code→WS.mk b n nt cnt = wsOf (lead.take i)→IntsAre vs cnt→@Ne Nat a1 l→@Ne Nat a2 l→@Ne Nat a3 l→(∀ p ∈ rest,p.1 ≠ l)→(∀ p ∈ own,p.1 ≠ l) →
      OwnOff own (((a1,o1) :: (a2,o2) :: (a3,o3) :: rest).map (·.1))→0 ≤ b→b ≤ 20→0 ≤ n→n ≤ 20→0 ≤ nt→nt ≤ 20→cnt.length ≤ 21 →
      Fr h₀ env.locals h (fun y=>if y = x then some (.str ⟨#[code]⟩ t) else kstB (fun z=>if List.contains [] z then u z else m₀ z) [(Str.ofString "b",.int b tb),(Str.ofString "n",.int n tn),(Str.ofString "nt",.int nt tt),(Str.ofString "count",.ref l)] y) →
      News h₀ env.locals h ((l,listOf vs.toArray nn) :: (a1,o1) :: (a2,o2) :: (a3,o3) :: (rest ++ own)) →
      wpAny (model prog w) A (execs body env) (InvPostB h₀ env.locals (GS siPs (siInv lead ((a1,o1) :: (a2,o2) :: (a3,o3) :: rest)) x [] m₀ (i + 1)) own { s with heap := h,toks := tk } Q (GB h₀ env.locals siPs (siFin lead ((a1,o1) :: (a2,o2) :: (a3,o3) :: rest)) x [] m₀ { s with heap := h,toks := tk })) E { s with heap := h,toks := tk })
    (done:∀ b n nt cnt vs nn (l:Addr) tb tn tt (u:Str→Option Value) h tk,WS.mk b n nt cnt = wsOf lead→IntsAre vs cnt→@Ne Nat a1 l→@Ne Nat a2 l→@Ne Nat a3 l→(∀ p ∈ rest,p.1 ≠ l)→cnt.length ≤ 21 →
      Fr h₀ env.locals h (fun y=>if y = x then u y else kstB (fun z=>if List.contains [] z then u z else m₀ z) [(Str.ofString "b",.int b tb),(Str.ofString "n",.int n tn),(Str.ofString "nt",.int nt tt),(Str.ofString "count",.ref l)] y) →
      News h₀ env.locals h ((l,listOf vs.toArray nn) :: (a1,o1) :: (a2,o2) :: (a3,o3) :: rest)→Q .next { s with heap := h,toks := tk }) :
    wpAny (model prog w) A (pyIter (.str xt tx')) (fun it s₂=>LoopAtV prog w A h₀ env x body Q E it s₂) E s := by
  intros prog w A E s env h₀ x body Q xt lead tail tx' m₀ a1 a2 a3 l o1 o2 o3 rest tb tn tt _ hr hn hh F N h1 h2 h3 h4 eb en et ec turn done
  have hxl:xt.length = lead.length + tail.length := by rw [← tx_len,hr,List.length_append]
  refine my_textB siPs (siInv lead ((a1,o1) :: (a2,o2) :: (a3,o3) :: rest)) (siFin lead ((a1,o1) :: (a2,o2) :: (a3,o3) :: rest)) [] ⟨⟨0,0,0,[]⟩,l,[],0,tb,tn,tt⟩ hh F N ?_ ?_ ?_ ?_ ?_
  · exact ⟨Nat.zero_le _,by simp [wsOf],.nil,rfl,by simp only [List.forall_mem_cons];exact ⟨h1,h2,h3,h4⟩⟩
  · simp only [List.forall_mem_cons,List.not_mem_nil,false_implies,implies_true,and_true]
    exact ⟨eb,en,et,ec⟩
  · intro c nx hI
    obtain ⟨q1,q2,q3⟩ := hI
    have:xt.length = lead.length := by exact Nat.le_antisymm (bC (fk20 (Z6 V0 V1 (Z10 V0 V1 Lf)) rfl q1)) (bC (fk30 (Z9 V0 (La V1 V2) (Z12 V2 (Z10 V1 V0 Lf))) rfl hxl trivial))
    unfold siFin
    rw [← this]
    exact ⟨q1,q2,q3⟩
  · rintro c i code t u h tk own nx hc hoff ⟨q1,q2,q3,rfl,q5⟩ F₁ N₁
    rw [hr] at hc
    simp only [List.forall_mem_cons] at q5
    obtain ⟨w1,w2,w3,w4,w5,w6⟩ := ws_facts (lead.take i)
    rw [← q2] at w1 w2 w3 w4 w5 w6
    have w7:(lead.take i).length ≤ 20 := by rw [List.length_take];exact bC (fk30 (Z6 V0 V1 (Z6 V1 (Lk 20) (Z8 V2 V0 (Z10 V2 (Lk 20) Lf)))) rfl q1 hn (Nat.min_eq_left (bC (fk20 (Z6 V0 V1 (Z10 V0 V1 Lf)) rfl q1))))
    refine turn c.st.b c.st.n c.st.nt c.st.count c.vs c.nn c.l c.tb c.tn c.tt i code t u h tk own q1 hc q2 q3 q5.1 q5.2.1 q5.2.2.1 q5.2.2.2 (fun p hp=>hoff p hp _ (by simp)) (fun p hp b hb=>hoff p hp b (List.mem_cons_of_mem _ hb)) w1 (by exact (iUp (Int.le_trans w2 (iCast w7)) rfl)) (by exact (Int.le_trans w4 (Int.le_trans w5 (Int.le_of_eq (Eq.symm w3))))) (by exact (iUp (Int.le_trans (Int.le_of_eq w3) (iCast w7)) rfl)) w4 (by exact (iUp (Int.le_trans w5 (iCast w7)) rfl)) (by exact (nUp (Nat.le_trans w6 (Nat.add_le_add w7 nLit)) rfl)) F₁ (by simpa using N₁)
  · rintro c u h tk nx ⟨q1,q2,q3,rfl,q5⟩ F₁ N₁
    simp only [List.forall_mem_cons] at q5
    rw [List.take_length] at q2
    have w6 := (ws_facts lead).2.2.2.2.2
    rw [← q2] at w6
    exact done c.st.b c.st.n c.st.nt c.st.count c.vs c.nn c.l c.tb c.tn c.tt u h tk q2 q3 q5.1 q5.2.1 q5.2.2.1 q5.2.2.2 (by exact (nUp (Nat.le_trans w6 (Nat.add_le_add (Nat.le_trans q1 hn) nLit)) rfl)) F₁ N₁
theorem init_next {lead:List Nat} {i:Nat} {L:Addr} {m₀ m':Str→Option Value} {led all own:List (Addr × Obj)} {b n nt:Int} {cnt:List Int} {vs:List Value} {nn:Nat} {l:Addr} {tb tn tt:Tok} {s₁:Shared} {h':Heap} {tk:Nat} (hoff:OwnOff own (led.map (·.1)))
    (F:Fr h₀ L h' m') (N:News h₀ L h' ((l,listOf vs.toArray nn) :: all)) (hsub:∀ p ∈ led,p ∈ all) (hown:∀ p ∈ own,p ∈ all) (hol:∀ p ∈ own,p.1 ≠ l) (hll:∀ p ∈ led,p.1 ≠ l) (hi:i + 1 ≤ lead.length) (hw:WS.mk b n nt cnt = wsOf (lead.take (i + 1))) (hI:IntsAre vs cnt)
    (hk:∀ p ∈ [(Str.ofString "b",Value.int b tb),(Str.ofString "n",.int n tn),(Str.ofString "nt",.int nt tt),(Str.ofString "count",.ref l)],m' p.1 = some p.2)
    (hr:∀ z,z ≠ x→(∀ p ∈ [(Str.ofString "b",Value.int b tb),(Str.ofString "n",.int n tn),(Str.ofString "nt",.int nt tt),(Str.ofString "count",.ref l)],z ≠ p.1)→List.contains [] z = false→m' z = m₀ z) :
    InvEndG h₀ L (GS siPs (siInv lead led) x [] m₀ (i + 1)) own s₁ { s₁ with heap := h',toks := tk } :=
  gs_end ⟨⟨b,n,nt,cnt⟩,l,vs,nn,tb,tn,tt⟩ ((l,listOf vs.toArray nn) :: led) F N (fun p hp=>by
    rcases List.mem_cons.mp hp with rfl | hp
    · exact List.mem_cons_self
    · exact List.mem_cons_of_mem _ (hsub p hp)) (fun p hp=>List.mem_cons_of_mem _ (hown p hp)) (fun p hp q hq=>by
    rcases List.mem_cons.mp hq with rfl | hq
    · exact hol p hp
    · exact hoff p hp q hq) ⟨hi,hw,hI,rfl,hll⟩ hk hr
theorem init_brk {lead:List Nat} {L:Addr} {m₀ m':Str→Option Value} {led all:List (Addr × Obj)} {b n nt:Int} {cnt:List Int} {vs:List Value} {nn:Nat} {l:Addr} {tb tn tt:Tok} {s₁:Shared} {h':Heap} {tk:Nat}
    (F:Fr h₀ L h' m') (N:News h₀ L h' ((l,listOf vs.toArray nn) :: all)) (hsub:∀ p ∈ led,p ∈ all) (hll:∀ p ∈ led,p.1 ≠ l) (hw:WS.mk b n nt cnt = wsOf lead) (hI:IntsAre vs cnt)
    (hk:∀ p ∈ [(Str.ofString "b",Value.int b tb),(Str.ofString "n",.int n tn),(Str.ofString "nt",.int nt tt),(Str.ofString "count",.ref l)],m' p.1 = some p.2)
    (hr:∀ z,z ≠ x→(∀ p ∈ [(Str.ofString "b",Value.int b tb),(Str.ofString "n",.int n tn),(Str.ofString "nt",.int nt tt),(Str.ofString "count",.ref l)],z ≠ p.1)→List.contains [] z = false→m' z = m₀ z) :
    GB h₀ L siPs (siFin lead led) x [] m₀ s₁ { s₁ with heap := h',toks := tk } :=
  gb_end ⟨⟨b,n,nt,cnt⟩,l,vs,nn,tb,tn,tt⟩ ((l,listOf vs.toArray nn) :: led) F N (fun p hp=>by
    rcases List.mem_cons.mp hp with rfl | hp
    · exact List.mem_cons_self
    · exact List.mem_cons_of_mem _ (hsub p hp)) ⟨Nat.le_refl _,by rw [List.take_length];exact hw,hI,rfl,hll⟩ hk hr
end
theorem lead_at {lead tail:List Nat} {i code:Nat} (hc:(lead ++ tail)[i]? = some code) (hi:i ≤ lead.length) (ht:∀ c,tail.head? = some c→c ≠ 32 ∧ c ≠ 9) (h:code = 32 ∨ code = 9):i + 1 ≤ lead.length ∧ lead.take (i + 1) = lead.take i ++ [code] := by
  rcases Nat.lt_or_ge i lead.length with h1 | h1
  · rw [List.getElem?_append_left h1] at hc
    refine ⟨h1,?_⟩
    rw [List.take_add_one,hc];rfl
  · have:i = lead.length := Nat.le_antisymm hi h1
    subst this
    rw [List.getElem?_append_right (Nat.le_refl _),Nat.sub_self] at hc
    have := ht code (by rw [List.head?_eq_getElem?];exact hc)
    lia
section
variable {lead tail:List Nat} {i code:Nat} {b n nt:Int} {cnt:List Int} (hc:(lead ++ tail)[i]? = some code) (hi:i ≤ lead.length) (ht:∀ c,tail.head? = some c→c ≠ 32 ∧ c ≠ 9) (hw:WS.mk b n nt cnt = wsOf (lead.take i))
include hc hi ht hw
theorem ws_blank (a1:(({ cps := #[code] }:Str) == (Str.ofString " ")) = true):i + 1 ≤ lead.length ∧ WS.mk (b + 1) (n + 1) nt cnt = wsOf (lead.take (i + 1)) := by
  rw [is32] at a1
  obtain ⟨h1,h2⟩ := lead_at hc hi ht (.inl a1)
  refine ⟨h1,?_⟩
  rw [h2,wsOf_snoc,← hw,wsStep,if_pos a1]
theorem ws_tab (a1:(({ cps := #[code] }:Str) == (Str.ofString " ")) = false) (a2:(({ cps := #[code] }:Str) == (Str.ofString "\t")) = true):i + 1 ≤ lead.length ∧ WS.mk 0 (n + 1) (nt + 1) (bump cnt b) = wsOf (lead.take (i + 1)) := by
  replace a1:¬ code = 32 := fun q=>by rw [is32.mpr q] at a1;cases a1
  rw [is9] at a2
  obtain ⟨h1,h2⟩ := lead_at hc hi ht (.inr a2)
  refine ⟨h1,?_⟩
  rw [h2,wsOf_snoc,← hw,wsStep,if_neg a1]
theorem ws_stop (hl:∀ c ∈ lead,c = 32 ∨ c = 9) (a1:(({ cps := #[code] }:Str) == (Str.ofString " ")) = false) (a2:(({ cps := #[code] }:Str) == (Str.ofString "\t")) = false):WS.mk b n nt cnt = wsOf lead := by
  replace a1:¬ code = 32 := fun q=>by rw [is32.mpr q] at a1;cases a1
  replace a2:¬ code = 9 := fun q=>by rw [is9.mpr q] at a2;cases a2
  rcases Nat.lt_or_ge i lead.length with h1 | h1
  · rw [List.getElem?_append_left h1] at hc
    have := hl code (List.mem_of_getElem? hc)
    lia
  · have:i = lead.length := Nat.le_antisymm hi h1
    rw [hw,this,List.take_length]
end
inductive WsIn (w:World) (news:List (Addr × Obj)) (v:Value) (st:WS):Prop
  | con (x d tp tc:Addr) (raw:Str) (k1 k2 k3 k4 k5 tr t2 t3 t4:Tok) (vs:List Value)
      (q1:v = .ref x)
      (q2:(x,instObj 117 d) ∈ news)
      (q3:(d,dictOf [⟨PyData.keyHash w.params (Str.ofString "raw"),.str (Str.ofString "raw") k1,.str raw tr⟩,⟨PyData.keyHash w.params (Str.ofString "n"),.str (Str.ofString "n") k2,.int st.n t2⟩,⟨PyData.keyHash w.params (Str.ofString "nt"),.str (Str.ofString "nt") k3,.int st.nt t3⟩,⟨PyData.keyHash w.params (Str.ofString "norm"),.str (Str.ofString "norm") k4,.ref tp⟩,⟨PyData.keyHash w.params (Str.ofString "is_simple"),.str (Str.ofString "is_simple") k5,.bool (decide ((st.count.length:Int) ≤ 1))⟩] 5) ∈ news)
      (q4:(tp,({ cls := .type "tuple",data := .seq #[.ref tc,.int st.b t4] }:Obj)) ∈ news)
      (q5:(tc,({ cls := .type "tuple",data := .seq vs.toArray }:Obj)) ∈ news)
      (q6:IntsAre vs st.count):WsIn w news v st
theorem WsIn.mono {w:World} {news news':List (Addr × Obj)} {v:Value} {st:WS} (h:WsIn w news v st) (hs:∀ p ∈ news,p ∈ news'):WsIn w news' v st := by
  obtain ⟨x,d,tp,tc,raw,k1,k2,k3,k4,k5,tr,t2,t3,t4,vs,h1,h2,h3,h4,h5,h6⟩ := h
  exact ⟨x,d,tp,tc,raw,k1,k2,k3,k4,k5,tr,t2,t3,t4,vs,h1,hs _ h2,hs _ h3,hs _ h4,hs _ h5,h6⟩
theorem ws_out {w:World} {h₀ h':Heap} {L:Addr} {m:Str→Option Value} {news:List (Addr × Obj)} {s:Shared} {Q:Value→Shared→Prop} {x d tp tc:Addr} {raw:Str} {k1 k2 k3 k4 k5 tr t2 t3 t4:Tok} {vs:List Value} {b n nt:Int} {cnt:List Int} {st:WS} {e1 e2:Addr × Obj} {tk:Nat} {si:Bool}
    (F:Fr h₀ L h' m) (N:News h₀ L h' ((tp,({ cls := .type "tuple",data := .seq #[.ref tc,.int b t4] }:Obj)) :: (tc,({ cls := .type "tuple",data := .seq vs.toArray }:Obj)) :: e1 :: e2 :: (x,instObj 117 d) ::
      (d,dictOf [⟨PyData.keyHash w.params (Str.ofString "raw"),.str (Str.ofString "raw") k1,.str raw tr⟩,⟨PyData.keyHash w.params (Str.ofString "n"),.str (Str.ofString "n") k2,.int n t2⟩,⟨PyData.keyHash w.params (Str.ofString "nt"),.str (Str.ofString "nt") k3,.int nt t3⟩,
      ⟨PyData.keyHash w.params (Str.ofString "norm"),.str (Str.ofString "norm") k4,.ref tp⟩,⟨PyData.keyHash w.params (Str.ofString "is_simple"),.str (Str.ofString "is_simple") k5,.bool si⟩] 5) :: news))
    (hI:IntsAre vs cnt) (hw:WS.mk b n nt cnt = st) (hs:si = decide ((cnt.length:Int) ≤ 1))
    (f1:∀ q ∈ news,q.1 ≠ tp) (f2:∀ q ∈ news,q.1 ≠ tc) (f3:∀ q ∈ news,q.1 ≠ x) (f4:∀ q ∈ news,q.1 ≠ d)
    (hret:∀ r tl h' tk',WsIn w tl r st→Fresh tl news→Fr h₀ L h' m→News h₀ L h' (tl ++ news)→Q r { s with heap := h',toks := tk' }):Q (.ref x) { s with heap := h',toks := tk } := by
  intros w h₀ h' L m news s Q x d tp tc raw k1 k2 k3 k4 k5 tr t2 t3 t4 vs b n nt cnt st e1 e2 tk si _ F N hI hw hs f1 f2 f3 f4 hret
  subst hw hs
  generalize hd:dictOf [⟨PyData.keyHash w.params (Str.ofString "raw"),.str (Str.ofString "raw") k1,.str raw tr⟩,⟨PyData.keyHash w.params (Str.ofString "n"),.str (Str.ofString "n") k2,.int n t2⟩,⟨PyData.keyHash w.params (Str.ofString "nt"),.str (Str.ofString "nt") k3,.int nt t3⟩,
      ⟨PyData.keyHash w.params (Str.ofString "norm"),.str (Str.ofString "norm") k4,.ref tp⟩,⟨PyData.keyHash w.params (Str.ofString "is_simple"),.str (Str.ofString "is_simple") k5,.bool (decide ((cnt.length:Int) ≤ 1))⟩] 5 = od at N
  refine hret (.ref x) [(tp,({ cls := .type "tuple",data := .seq #[.ref tc,.int b t4] }:Obj)),(tc,({ cls := .type "tuple",data := .seq vs.toArray }:Obj)),(x,instObj 117 d),(d,od)] h' tk ⟨x,d,tp,tc,raw,k1,k2,k3,k4,k5,tr,t2,t3,t4,vs,rfl,?_,?_,?_,?_,hI⟩ ?_ F (cb_drop N ?_)
  · exact .tail _ (.tail _ (.head _))
  · rw [hd];exact .tail _ (.tail _ (.tail _ (.head _)))
  · exact .head _
  · exact .tail _ (.head _)
  · intro p hp
    simp only [List.mem_cons,List.not_mem_nil,or_false] at hp
    rcases hp with rfl | rfl | rfl | rfl
    · exact f1
    · exact f2
    · exact f3
    · exact f4
  · intro p hp
    simp only [List.cons_append,List.nil_append,List.mem_cons] at hp ⊢
    rcases hp with h | h | h | h | h <;> simp [h]
theorem ws_tells {w:World} {mean:ExcName→Option Value} {mg mb:Str→Option Value} {news:List (Addr × Obj)} {raw:Str} {t1:Tok} {lead:List Nat} {tail:List Nat} (hr:tx raw = lead ++ tail) (hl:∀ c ∈ lead,c = 32 ∨ c = 9) (ht:∀ c,tail.head? = some c→c ≠ 32 ∧ c ≠ 9) (hn:lead.length ≤ 20) :
    CtrO w mean mg mb 117 0 [.str raw t1] news (fun tl r=>WsIn w tl r (wsOf lead)) := by
  intro dp un gd cn cs a ccd cl outer A₀ base h₀ L m s Q E B F X N T hk hd hu hret
  intros w mean mg mb news raw t1 lead tail dp un gd cn cs a ccd cl outer A₀ base h₀ L m s Q E _ hr hl ht hn B F X N T hk hd hu hret;revert X;unfold PG;k_fill;intro X
  k_dflt (refine' call_cls ?k1 ?k2 ?k3 ?k4 ?k5 ?k6 ?_;(case k1=>k_asm);(case k2=>k_asm);(case k3=>k_asm);(case k4=>k_is);(case k5=>k_is);(case k6=>k_is);k_whole)
  intros x' d' h' _ _
  intro F' N' l1 l2
  (try k_lt l1);(try k_lt2 l2)
  have kMk:KstMark := kstMark
  have kCls:ClsMark := clsMark
  k_dflt (walk_at "my enter")
  clear kCls
  rename Fr _ _ _ _=>F1
  change Fr _ _ _ (fun y=>List.lookup y [(Str.ofString "ws",Value.str raw t1),(Str.ofString "self",Value.ref x')]) at F1
  generalize (Shared.toks _ + _:Nat) = tk0
  k_with "pyIter str" => k_dflt (
    rename Fr _ _ _ _=>lF'
    rename News _ _ _ _=>lN'
    with_unfolding_all refine' init_loop hr hn (by rfl) lF' lN' ?h1 ?h2 ?h3 ?h4 (by rfl) (by rfl) (by rfl) (by rfl) ?turn ?done
    case h1=>k_ne
    case h2=>k_ne
    case h3=>k_ne
    case h4=>k_all
    case' turn=>intro b n nt cnt vs nn l' tb tn tt i code t u h tk own hi hc hw hI n1 n2 n3 n4 n5 hoff b0 b1 n0 n1' t0 t1' c1 F9 N9;dsimp only [kstB] at F9
    case' done=>intro b n nt cnt vs nn l' tb tn tt u h tk hw hI n1 n2 n3 n4 c1 F9 N9;dsimp only [kstB] at F9)
  k_with "call type:tuple" => k_dflt (
    refine kde_tupleOf (zs := vs) (by k_asm) (by k_asm) (News.isList (by k_asm) (by k_mem)) (by rw [List.size_toArray,hI.length];exact (nUp c1 rfl)) (by rfl) ?_
    intro D8 h8 F8 N8 l8
    (try k_lt l8))
  k_steps
  · have f3:∀ q ∈ news,q.1 ≠ x' := fun q hq=>Nat.ne_of_lt (Nat.lt_trans (l1 q hq) l2)
    exact ws_out (by k_asm) (by k_asm) hI hw (by rfl) (by k_all) (by k_all) f3 (by k_all) hret
  · obtain ⟨q1,q2⟩ := ws_blank hc hi ht hw (by assumption)
    exact init_next hoff (by k_asm) (by k_asm) (by kst_in) (by intro p hp;simp only [List.mem_cons,List.mem_append,hp,or_true]) n5 (by k_all) q1 q2 hI (by kst_all) (by kst_same)
  · obtain ⟨q1,q2⟩ := ws_tab hc hi ht hw (by assumption) (by assumption)
    rw [bump,if_pos (by assumption)] at q2
    exact init_next hoff (by k_asm) (by k_asm) (by kst_in) (by intro p hp;simp only [List.mem_cons,List.mem_append,hp,or_true]) (by k_all) (by k_all) q1 q2 (by assumption) (by kst_all) (by kst_same)
  · obtain ⟨q1,q2⟩ := ws_tab hc hi ht hw (by assumption) (by assumption)
    rw [bump,if_neg (by assumption)] at q2
    exact init_next hoff (by k_asm) (by k_asm) (by kst_in) (by intro p hp;simp only [List.mem_cons,List.mem_append,hp,or_true]) n5 (by k_all) q1 q2 (by assumption) (by kst_all) (by kst_same)
  · exact init_brk (by k_asm) (by k_asm) (by kst_in) (by k_all) (ws_stop hc hi ht hw hl (by assumption) (by assumption)) hI (by kst_all) (by kst_same)
end
section
example:True := by
  w_top off
  k_with_none
  k_with "a" => with_reducible assumption
  k_with "sh" => first | exact sh1 (by k_extra "a") rfl | exact sh2 (by k_extra "a") rfl | exact sh3 (by k_extra "a") rfl | exact sh4 (by k_extra "a") rfl | exact sl1 (by k_extra "a") rfl | exact sl2 (by k_extra "a") rfl | exact sl3 (by k_extra "a") rfl | omega
  k_with "omega" => first | k_extra "a" | decide | exact Int.not_le.mp (by k_extra "a") | exact Int.not_lt.mp (by k_extra "a") | exact nUp (by k_extra "a") rfl | exact iDn (by k_extra "a") rfl | exact iUp (by k_extra "a") rfl | exact iUpLt (by k_extra "a") rfl | exact iDn (Int.add_le_add iLit iCast0) rfl | exact iDn iCast0 rfl | exact nUpLt (Nat.add_le_add (by k_extra "a") (Nat.le_refl _)) rfl | exact Nat.ne_of_lt (Nat.lt_succ_self _) | exact Ne.symm (Nat.ne_of_lt (Nat.lt_succ_self _)) | exact Nat.ne_of_lt (by k_extra "a") | exact Ne.symm (Nat.ne_of_lt (by k_extra "a")) | exact Ne.symm (Int.ne_of_lt (by k_extra "a")) | exact Int.not_le.mpr (iUpLt (iCast (by k_extra "a")) rfl) | lia
  k_with "my news" => first | k_asm | (refine cb_drop (by assumption) (by (intro p9 hp9;kst_mem)))
  k_with "ctr K" => first | exact rfl | assumption
  k_with "ctr D" => ((try simp only [depth_under_make,depth_under_kw,depth_in1,depth_deeper,depth_caller]);(try dsimp only [ktrTop]);k_extra "sh")
  k_with "ctr U" => ((try simp only [units_in1,units_deeper,Around.mark_units,units_caller]);(try dsimp only [ktrTop]);k_extra "sh")
  k_with "nmx" => (with_reducible show wpAny _ _ (eval _ (envX _ _ _ _ _ _)) _ _ _)
  k_with "^eval Name" => (k_here;k_extra "nmx";name_kind "globalImplicit";name_is_builtin;k_dflt (refine nameX_B (by k_asm) (by k_asm) (by k_asm) (by k_is) (by boot_fast) (by decide) ?_ (by rfl) (by kernel_rfl!));k_whole)
  k_with "^eval Name" => (k_here;k_extra "nmx";name_kind "globalImplicit";k_dflt (refine nameX_K (by k_asm) (by k_asm) (by k_asm) (by k_is) ?_ (by rfl) (by kernel_rfl!));k_whole)
  k_with "^eval Name" => (k_here;k_extra "nmx";name_kind "local";k_dflt (refine nmL (by rfl) (by rfl) (by k_asm) (by exact rfl) ?_);k_whole)
  k_with "call type:range" => ((rename Fr _ _ _ _=>f9);(rename News _ _ _ _=>n9);k_dflt (first | refine range1_rows f9 n9 ?_ | refine range2_rows f9 n9 ?_);intro _ _ _ _ _ _ _ _ _)
  k_with "call builtin:len" => ((with_reducible show wpAny _ _ (call (Value.builtin "len") [Value.str _ _]) _ _ _);refine SBL.len (by omega) ?_)
  k_with "ws here" => first | k_extra "a" | exact WsIn.mono (by k_extra "a") (by intro p hp;kst_mem)
  k_with "ctr back" => (intro r9 h9 tk9 hr9 F9 N9;obtain ⟨t9,hr9⟩ := hr9;subst hr9;(try dsimp only);(try k_fold))
  trivial
example:True := by
  k_with "call builtin:len" => (k_here;(with_reducible show wpAny _ _ (call (Value.builtin "len") [Value.ref _]) _ _ _);k_dflt (refine tup_len (by k_asm) (by k_mem) (by with_reducible assumption) (by exact (nUp hc rfl)) ?_))
  k_with "^subscriptTail" => (k_here;(with_reducible show wpAny _ _ (subscriptTail _ _ (Value.ref _) (Value.int _ _)) _ _ _);k_dflt (refine tup_item (by k_asm) (by k_mem) (by with_reducible assumption) (by exact (nUp (Nat.le_trans (Nat.le_of_eq (Eq.symm kLen)) (Nat.le_trans (Nat.le_of_eq kLen) hc)) rfl)) (by exact (iDn (Int.le_trans (Int.add_le_add h0 iCast0) (Int.le_of_eq (Eq.symm kEq))) rfl)) (by lia) ?_);intro t9)
  trivial
noncomputable def longestOf (st:WS):Int := if st.b > (st.count.length:Int) - 1 then st.b else (st.count.length:Int) - 1
theorem long_tells {w:World} {mean:ExcName→Option Value} {mg mb:Str→Option Value} {news:List (Addr × Obj)} {v:Value} {st:WS} (hv:WsIn w news v st) (hc:st.count.length ≤ 30) :
    Ctr w mean mg mb 79 0 [v] news (fun r=>∃ t,r = .int (longestOf st) t) := by
  obtain ⟨x,d,tp,tc,raw,k1,k2,k3,k4,k5,tr,t2,t3,t4,vs,rfl,mX,mD,mP,mC,hI⟩ := hv
  intro dp un gd cn cs a ccd cl outer A₀ base h₀ L m s Q E B F X N T hk hd hu hret;revert X;unfold PG;k_fill;intro X;refine wpAny_call ?_;k_dflt (walk_at "my enter")
  k_steps
  exact hret _ _ _ ⟨_,rfl⟩ (by k_asm) (by walk_at "my news")
noncomputable def ilStep (cnt:List Int) (ts a i:Int):Int := a + Int.fdiv i ts * cnt.getD i.toNat 0
noncomputable def ilOf (cnt:List Int) (ts:Int) (pre:List Int):Int := pre.foldl (ilStep cnt ts) 0
noncomputable def indentOf (st:WS) (ts:Int):Int := st.b + ts * (ilOf st.count ts (rangeKs ts ((st.count.length:Int) - ts).toNat) + st.nt)
theorem il_step {cnt:List Int} {ts a k:Int} {pre:List Int} {n:Nat} (ht:1 ≤ ts) (hb:∀ c ∈ cnt,0 ≤ c ∧ c ≤ 30) (hc:cnt.length ≤ 30) (hk:k = ts + (pre.length:Int)) (hn:pre.length < n) (hnn:n = ((cnt.length:Int) - ts).toNat) (h1:a = ilOf cnt ts pre) (h2:0 ≤ a) (h3:a ≤ 1000 * (pre.length:Int)) :
    (0 ≤ Int.fdiv k ts ∧ Int.fdiv k ts ≤ 30) ∧ (0 ≤ cnt.getD k.toNat 0 ∧ cnt.getD k.toNat 0 ≤ 30) ∧ (a + Int.fdiv k ts * cnt.getD k.toNat 0 = ilOf cnt ts (pre ++ [k]) ∧ 0 ≤ a + Int.fdiv k ts * cnt.getD k.toNat 0 ∧ a + Int.fdiv k ts * cnt.getD k.toNat 0 ≤ 1000 * ((pre ++ [k]).length:Int)) := by
  have hlt:k.toNat < cnt.length := by lia
  have hm:cnt.getD k.toNat 0 ∈ cnt := by simp [List.getD,hlt]
  obtain ⟨c0,c1⟩ := hb _ hm
  have d0:0 ≤ Int.fdiv k ts := Int.fdiv_nonneg (by exact (iDn (Int.le_trans (Int.add_le_add ht iCast0) (Int.le_of_eq (Eq.symm hk))) rfl)) (by exact (iDn ht rfl))
  have d1:Int.fdiv k ts ≤ 30 := by
    have e := Int.mul_fdiv_add_fmod k ts
    have f := Int.fmod_nonneg_of_pos k (show 0 < ts by exact (iDnLt ht rfl))
    have g:Int.fdiv k ts ≤ ts * Int.fdiv k ts := by
      have := Int.mul_le_mul_of_nonneg_right ht d0
      exact bC (fk02 (Z0 (Lm 1 V0) V1 (Z4 V0 V1 Lf)) rfl this)
    exact bC (fk24 (Z0 V2 V3 (Z0 K0 V4 (Z2 (La V3 V4) V5 (Z7 V0 V1 (Z6 V1 (Lk 30) (Z3 V0 V5 (Z4 V2 (Lk 30) Lf))))))) rfl g f e hlt hc (tC (bC (fk12 (Z3 V1 (La V2 V0) (Z0 K1 V2 (Z12 V0 (Z4 K0 V1 Lf)))) rfl hk ht trivial))))
  have e:ilOf cnt ts (pre ++ [k]) = ilStep cnt ts (ilOf cnt ts pre) k := by simp [ilOf]
  rw [e,← h1,ilStep]
  generalize Int.fdiv k ts = q at *
  generalize cnt.getD k.toNat 0 = c at *
  have p0:0 ≤ q * c := Int.mul_nonneg d0 c0
  have p1:q * c ≤ 900 := by
    have h1:q * c ≤ 30 * c := Int.mul_le_mul_of_nonneg_right d1 c0
    exact (iUp (Int.le_trans h1 (iMulL c1 rfl)) rfl)
  refine ⟨⟨d0,d1⟩,⟨c0,c1⟩,rfl,by exact (iDn (Int.add_le_add h2 p0) rfl),by simp;exact bC (fk12 (Z0 V1 (Lk 900) (Z0 V2 (Lm 1000 V0) (Z4 (La V2 V1) (Lm 1000 (La V0 K1)) Lf))) rfl p1 h3)⟩
theorem indent_tells {w:World} {mean:ExcName→Option Value} {mg mb:Str→Option Value} {news:List (Addr × Obj)} {v:Value} {ts:Int} {t9:Tok} {st:WS} (hv:WsIn w news v st) (hc:st.count.length ≤ 30) (hb:∀ c ∈ st.count,0 ≤ c ∧ c ≤ 30) (h0:1 ≤ ts) (h1:ts ≤ 30) (h2:0 ≤ st.b) (h3:st.b ≤ 30) (h4:0 ≤ st.nt) (h5:st.nt ≤ 30) :
    Ctr w mean mg mb 86 0 [v,.int ts t9] news (fun r=>∃ t,r = .int (indentOf st ts) t) := by
  obtain ⟨x,d,tp,tc,raw,k1,k2,k3,k4,k5,tr,t2,t3,t4,vs,rfl,mX,mD,mP,mC,hI⟩ := hv
  intros _ w mean mg mb news ts t9 st x d tp tc raw k1 k2 k3 k4 k5 tr t2 t3 t4 vs _ hc hb h0 h1 h2 h3 h4 h5 mX mD mP mC hI
  k_with "pyIter ref" => k_state (fun pre a=>a = ilOf st.count ts pre ∧ 0 ≤ a ∧ a ≤ 1000 * (pre.length:Int)) "il"
  k_with "binaryOp Mult int int" => k_dflt (
    have q9 := il_step h0 hb hc (by assumption) (by assumption) (by rfl) (by assumption) (by assumption) (by assumption)
    refine PyProof.Rows.mul_int ?_ (IntMulOk.of_left (intBits_le_64 (by exact (iDnLt q9.1.1 rfl)) (by exact (iUpLt q9.1.2 rfl)))))
  k_with "state" => first | exact q9.2.2 | exact ⟨rfl,by decide,by decide⟩
  k_steps
  exact hret _ _ _ ⟨_,by rw [indentOf,← (by assumption:_ = ilOf _ _ _)]⟩ (by k_asm) (by walk_at "my news")
noncomputable def colStep (size:Int) (c:Int) (x:Int):Int := c + (if x = 32 then 1 else size - Int.fmod c size)
noncomputable def colOf (size:Int) (l:List Int):Int := l.foldl (colStep size) 0
theorem colOf_snoc (size:Int) (l:List Int) (x:Int):colOf size (l ++ [x]) = colStep size (colOf size l) x := by simp [colOf]
theorem col_blank {size c:Int} {pre:List Int} {n:Nat} (h1:c = colOf size pre) (h2:0 ≤ c) (h3:c ≤ 60 * (pre.length:Int)) (hn:(({ cps := #[n] }:Str) == (Str.ofString " ")) = true) :
    c + 1 = colOf size (pre ++ [(n:Int)]) ∧ 0 ≤ c + 1 ∧ c + 1 ≤ 60 * ((pre ++ [(n:Int)]).length:Int) := by
  rw [is32] at hn
  subst hn
  rw [colOf_snoc,← h1,colStep,if_pos (by rfl)]
  refine ⟨rfl,by exact (iDn (Int.add_le_add h2 iLit) rfl),?_⟩
  simp only [List.length_append,List.length_singleton]
  exact bC (fk11 (Z0 V1 (Lm 60 V0) (Z4 (La V1 K1) (Lm 60 (La V0 K1)) Lf)) rfl h3)
theorem col_other {size c:Int} {pre:List Int} {n:Nat} (s1:1 ≤ size) (s2:size ≤ 60) (h1:c = colOf size pre) (h2:0 ≤ c) (h3:c ≤ 60 * (pre.length:Int)) (hn:(({ cps := #[n] }:Str) == (Str.ofString " ")) = false) :
    c + (size - Int.fmod c size) = colOf size (pre ++ [(n:Int)]) ∧ 0 ≤ c + (size - Int.fmod c size) ∧ c + (size - Int.fmod c size) ≤ 60 * ((pre ++ [(n:Int)]).length:Int) := by
  replace hn:¬ n = 32 := fun q=>by rw [is32.mpr q] at hn;cases hn
  have e:((n:Int) = 32) = False := by simp;lia
  rw [colOf_snoc,← h1,colStep,if_neg (by rw [e];exact id)]
  have a1 := Int.fmod_nonneg_of_pos c (show 0 < size by exact (iDnLt s1 rfl))
  have a2 := Int.fmod_lt_of_pos c (show 0 < size by exact (iDnLt s1 rfl))
  refine ⟨rfl,by exact bC (fk03 (Z1 V0 V1 (Z0 K0 V2 (Z4 K0 (La V2 (Ls V1 V0)) Lf))) rfl a2 h2),?_⟩
  simp only [List.length_append,List.length_singleton]
  exact bC (fk13 (Z0 K0 V1 (Z0 V2 (Lm 60 V0) (Z0 V3 (Lk 60) (Z4 (La V2 (Ls V3 V1)) (Lm 60 (La V0 K1)) Lf)))) rfl a1 h3 s2)
theorem col_tells {w:World} {mean:ExcName→Option Value} {mg mb:Str→Option Value} {news:List (Addr × Obj)} {lead:Str} {t1:Tok} {size:Int} {t2:Tok} (hs:1 ≤ size) (hs2:size ≤ 60) :
    Ctr w mean mg mb 166 0 [.str lead t1,.int size t2] news (fun r=>∃ t,r = .int (colOf size (KStt.codes lead)) t) := by
  intros _ w mean mg mb news lead t1 size t2 _ hs hs2
  k_with "pyIter str" => k_state (fun pre c=>c = colOf size pre ∧ 0 ≤ c ∧ c ≤ 60 * pre.length) "column"
  k_with "state" => first
    | exact col_blank (by assumption) (by assumption) (by assumption) (by assumption)
    | exact col_other (by assumption) (by assumption) (by assumption) (by assumption) (by assumption) (by assumption)
    | exact ⟨rfl,by decide,by decide⟩
  k_steps
  exact hret _ _ _ ⟨_,congrArg (Value.int · _) (by assumption)⟩ (by k_asm) (by k_asm)
noncomputable def costOf (a b:Str):Int := if (a == b) = true then 0 else if (Txt.lower a == Txt.lower b) = true then 1 else 2
theorem costOf0 {a b:Str} (h:(a == b) = true):costOf a b = 0 := if_pos h
theorem costOf1 {a b:Str} (h:(a == b) = false) (h2:(Txt.lower a == Txt.lower b) = true):costOf a b = 1 := by rw [costOf,if_neg (by rw [h];decide),if_pos h2]
theorem costOf2 {a b:Str} (h:(a == b) = false) (h2:(Txt.lower a == Txt.lower b) = false):costOf a b = 2 := by rw [costOf,if_neg (by rw [h];decide),if_neg (by rw [h2];decide)]
theorem cost_tells {w:World} {mean:ExcName→Option Value} {mg mb:Str→Option Value} {news:List (Addr × Obj)} {one other:Str} {t1 t2:Tok} (h1:one.length ≤ 100) (h2:other.length ≤ 100) :
    Ctr w mean mg mb 135 0 [.str one t1,.str other t2] news (fun r=>∃ t,r = .int (costOf one other) t) := by
  intros _ w mean mg mb news one other t1 t2 _ h1 h2
  k_steps
  · exact hret _ _ _ ⟨_,by rw [costOf0 (by assumption)]⟩ (by k_asm) (by k_asm)
  · exact hret _ _ _ ⟨_,by rw [costOf1 (by assumption) (by assumption)]⟩ (by k_asm) (by k_asm)
  · exact hret _ _ _ ⟨_,by rw [costOf2 (by assumption) (by assumption)]⟩ (by k_asm) (by k_asm)
end
section
example:True := by
  w_top off
  k_with_none
  k_with "a" => with_reducible assumption
  k_with "sh" => first | exact sh1 (by k_extra "a") rfl | exact sh2 (by k_extra "a") rfl | exact sh3 (by k_extra "a") rfl | exact sh4 (by k_extra "a") rfl | exact sl1 (by k_extra "a") rfl | exact sl2 (by k_extra "a") rfl | exact sl3 (by k_extra "a") rfl | omega
  k_with "omega" => first | k_extra "a" | decide | exact Int.not_le.mp (by k_extra "a") | exact Int.not_lt.mp (by k_extra "a") | exact nUp (by k_extra "a") rfl | exact iDn (by k_extra "a") rfl | exact iUp (by k_extra "a") rfl | exact iUpLt (by k_extra "a") rfl | exact iDn (Int.add_le_add iLit iCast0) rfl | exact iDn iCast0 rfl | exact nUpLt (Nat.add_le_add (by k_extra "a") (Nat.le_refl _)) rfl | exact Nat.ne_of_lt (Nat.lt_succ_self _) | exact Ne.symm (Nat.ne_of_lt (Nat.lt_succ_self _)) | exact Nat.ne_of_lt (by k_extra "a") | exact Ne.symm (Nat.ne_of_lt (by k_extra "a")) | exact Ne.symm (Int.ne_of_lt (by k_extra "a")) | exact Int.not_le.mpr (iUpLt (iCast (by k_extra "a")) rfl) | lia
  k_with "my news" => first | k_asm | (refine cb_drop (by assumption) (by (intro p9 hp9;kst_mem)))
  k_with "ctr K" => first | exact rfl | assumption
  k_with "ctr D" => ((try simp only [depth_under_make,depth_under_kw,depth_in1,depth_deeper,depth_caller]);(try dsimp only [ktrTop]);k_extra "sh")
  k_with "ctr U" => ((try simp only [units_in1,units_deeper,Around.mark_units,units_caller]);(try dsimp only [ktrTop]);k_extra "sh")
  k_with "nmx" => (with_reducible show wpAny _ _ (eval _ (envX _ _ _ _ _ _)) _ _ _)
  k_with "^eval Name" => (k_here;k_extra "nmx";name_kind "globalImplicit";name_is_builtin;k_dflt (refine nameX_B (by k_asm) (by k_asm) (by k_asm) (by k_is) (by boot_fast) (by decide) ?_ (by rfl) (by kernel_rfl!));k_whole)
  k_with "^eval Name" => (k_here;k_extra "nmx";name_kind "globalImplicit";k_dflt (refine nameX_K (by k_asm) (by k_asm) (by k_asm) (by k_is) ?_ (by rfl) (by kernel_rfl!));k_whole)
  k_with "^eval Name" => (k_here;k_extra "nmx";name_kind "local";k_dflt (refine nmL (by rfl) (by rfl) (by k_asm) (by exact rfl) ?_);k_whole)
  k_with "call type:range" => ((rename Fr _ _ _ _=>f9);(rename News _ _ _ _=>n9);k_dflt (first | refine range1_rows f9 n9 ?_ | refine range2_rows f9 n9 ?_);intro _ _ _ _ _ _ _ _ _)
  k_with "call builtin:len" => ((with_reducible show wpAny _ _ (call (Value.builtin "len") [Value.str _ _]) _ _ _);refine SBL.len (by omega) ?_)
  k_with "ws here" => first | k_extra "a" | exact WsIn.mono (by k_extra "a") (by intro p hp;kst_mem)
  k_with "ctr back" => (intro r9 h9 tk9 hr9 F9 N9;obtain ⟨t9,hr9⟩ := hr9;subst hr9;(try dsimp only);(try k_fold))
  trivial
noncomputable abbrev rowDat (t a b:Int):Dat := .tuple [.int t,.int a,.int b]
example:True := by
  k_with "execs cons Assign cons" => (k_here;first | k_gentoks | with_reducible refine wpAny_execs_cons ?_)
  k_with "^callWith ref" => (k_here;k_dflt (first
    | ((with_reducible show wpAny _ _ (callWith _ (Value.ref _) _ (backTo _ (starEach (_ :: _) _)) []) _ _ _);first | (refine callWith_K (by k_asm) (by k_is) ?_;k_whole) | (refine callWith_M (by k_asm) (by k_asm) (by k_mem) (by k_is) ?_;k_whole))
    | ((with_reducible show wpAny _ _ (callWith _ (Value.ref _) _ (backTo _ (starEach [] _)) []) _ _ _);first | (refine callWith_K0 (by k_in) (by k_is) ?_;k_whole) | (refine callWith_M0 (by k_meth) (by k_is) ?_;k_whole;try dsimp only [List.nil_append,List.cons_append]))))
  k_with "call ref" => (k_here;k_dflt (show wpAny _ _ (call (Value.ref 79) _) _ _ _);k_dflt (refine ctr_use (by k_asm) (by k_asm) (by k_asm) (by k_asm) (by k_asm) (by walk_at "ctr K") (long_tells (by walk_at "ws here") (by (first | exact (nUp c1' rfl) | exact (nUp c1 rfl) | exact (nUp (nOfI (by assumption)) rfl)))) (by walk_at "ctr D") (by walk_at "ctr U") ?_);walk_at "ctr back")
  k_with "call ref" => (k_here;k_dflt (show wpAny _ _ (call (Value.ref 86) _) _ _ _);k_dflt (refine ctr_use (by k_asm) (by k_asm) (by k_asm) (by k_asm) (by k_asm) (by walk_at "ctr K") (indent_tells (by walk_at "ws here") (by (first | exact (nUp c1' rfl) | exact (nUp c1 rfl) | exact (nUp (nOfI (by assumption)) rfl))) (by with_reducible assumption) (by exact (iDn (Int.add_le_add iLit iCast0) rfl)) (by (first | exact bC (fk21 (Z7 V0 V1 (Z0 V2 (Lk 20) (Z2 V1 (Ls (La (La V2 K1) K1) K2) (Z4 (La K2 V0) (Lk 30) Lf)))) rfl hi z3.2 (tC (bC (fk01 (Z0 K0 V0 (Z4 K0 (Ls (La (La V0 K1) K1) K2) Lf)) rfl z3.1)))) | exact bC (fk21 (Z7 V0 V1 (Z0 V2 (Lk 20) (Z2 V1 (Ls (La (La V2 K1) K1) K1) (Z4 (La K1 V0) (Lk 30) Lf)))) rfl hi z3.2 (tC (bC (fk01 (Z0 K0 V0 (Z4 K0 (Ls (La (La V0 K1) K1) K1) Lf)) rfl z3.1)))))) (by (first | exact b0 | exact b0')) (by (first | exact (iUp b1 rfl) | exact (iUp b1' rfl))) (by (first | exact q0 | exact q0')) (by (first | exact (iUp q1 rfl) | exact (iUp q1' rfl)))) (by walk_at "ctr D") (by walk_at "ctr U") ?_);walk_at "ctr back")
  trivial
structure WsOk (st:WS):Prop where
  b0:0 ≤ st.b
  b1:st.b ≤ 20
  n0:0 ≤ st.n
  n1:st.n ≤ 20
  t0:0 ≤ st.nt
  t1:st.nt ≤ 20
  c1:st.count.length ≤ 21
  cb:∀ c ∈ st.count,0 ≤ c ∧ c ≤ 30
noncomputable def topOf (st st':WS):Int := (if longestOf st' > longestOf st then longestOf st' else longestOf st) + 1
noncomputable def Simple (st:WS):Prop := (st.count.length:Int) ≤ 1
noncomputable def LessP (st st':WS):Prop := st.n < st'.n ∧ ((Simple st ∧ Simple st' ∧ st.nt ≤ st'.nt) ∨ (¬ (Simple st ∧ Simple st') ∧ ∀ t:Int,2 ≤ t→t ≤ topOf st st'→indentOf st t < indentOf st' t))
section
variable {st st':WS} {q:Int} {i:Nat}
theorem less_1 (h:st'.n ≤ st.n):(false = true ↔ LessP st st') := by
  constructor
  · intro e;cases e
  · intro e;exact absurd e.1 (by exact (Int.not_lt.mpr h))
theorem less_2 (h:¬ st'.n ≤ st.n) (s1:(st.count.length:Int) ≤ 1) (s2:(st'.count.length:Int) ≤ 1):(decide (st.nt ≤ st'.nt) = true ↔ LessP st st') := by
  rw [decide_eq_true_iff]
  constructor
  · intro e;exact ⟨by exact (Int.not_le.mp h),.inl ⟨s1,s2,e⟩⟩
  · rintro ⟨_,⟨_,_,e⟩ | ⟨e,_⟩⟩
    · exact e
    · exact absurd ⟨s1,s2⟩ e
theorem less_3 (hs:¬ (Simple st ∧ Simple st')) (hq:(if longestOf st' > longestOf st then longestOf st' else longestOf st) = q) (hi:i < (q + 1 + 1 - 2).toNat) (hge:indentOf st' (2 + (i:Int)) ≤ indentOf st (2 + (i:Int))):(false = true ↔ LessP st st') := by
  constructor
  · intro e;cases e
  · rintro ⟨_,⟨e1,e2,_⟩ | ⟨_,e⟩⟩
    · exact absurd ⟨e1,e2⟩ hs
    · have := e (2 + (i:Int)) (by exact (iDn (Int.add_le_add iLit iCast0) rfl)) (by unfold topOf;rw [hq];lia)
      lia
theorem less_4 (h:¬ st'.n ≤ st.n) (hs:¬ (Simple st ∧ Simple st')) (hq:(if longestOf st' > longestOf st then longestOf st' else longestOf st) = q) (z:0 ≤ q ∧ q ≤ 20) (hP:∀ t:Int,2 ≤ t→t < 2 + (((q + 1 + 1 - 2).toNat:Nat):Int)→indentOf st t < indentOf st' t):(true = true ↔ LessP st st') := by
  refine ⟨fun _=>⟨by exact (Int.not_le.mp h),.inr ⟨hs,fun t h1 h2=>hP t h1 ?_⟩⟩,fun _=>rfl⟩
  unfold topOf at h2
  rw [hq] at h2
  exact bC (fk12 (Z0 V1 (La V2 K1) (Z3 V0 (Ls (La (La V2 K1) K1) K2) (Z5 V1 (La K2 V0) Lf))) rfl h2 (tC (bC (fk01 (Z0 K0 V0 (Z4 K0 (Ls (La (La V0 K1) K1) K2) Lf)) rfl z.1))))
theorem less_5 (hP:∀ t:Int,2 ≤ t→t < 2 + (i:Int)→indentOf st t < indentOf st' t) (hn:¬ indentOf st' (2 + (i:Int)) ≤ indentOf st (2 + (i:Int))):∀ t:Int,2 ≤ t→t < 2 + ((i + 1:Nat):Int)→indentOf st t < indentOf st' t := by
  intro t h1 h2
  by_cases h3:t < 2 + (i:Int)
  · exact hP t h1 h3
  · have:t = 2 + (i:Int) := by exact Int.le_antisymm (bC (fk11 (Z1 V1 (La K2 (La V0 K1)) (Z4 V1 (La K2 V0) Lf)) rfl h2)) (bC (fk11 (Z5 V1 (La K2 V0) (Z4 (La K2 V0) V1 Lf)) rfl h3))
    subst this
    exact (Int.not_le.mp hn)
end
theorem less_tells {w:World} {mean:ExcName→Option Value} {mg mb:Str→Option Value} {news:List (Addr × Obj)} {v v':Value} {st st':WS} (hv:WsIn w news v st) (hv':WsIn w news v' st') (ho:WsOk st) (ho':WsOk st') :
    Ctr w mean mg mb 107 1 [v,v'] news (fun r=>∃ b,r = .bool b ∧ (b = true ↔ LessP st st')) := by
  obtain ⟨b0,b1,n0,n1,q0,q1,c1,cb⟩ := ho
  obtain ⟨b0',b1',n0',n1',q0',q1',c1',cb'⟩ := ho'
  have hV := hv
  have hV' := hv'
  have z1:longestOf st ≤ 20 := by unfold longestOf;split <;> (first | exact b1 | exact (iUp (Int.sub_le_sub (iCast c1) iLit) rfl))
  have z2:longestOf st' ≤ 20 := by unfold longestOf;split <;> (first | exact b1' | exact (iUp (Int.sub_le_sub (iCast c1') iLit) rfl))
  have y1:0 ≤ longestOf st := by unfold longestOf;split <;> (first | exact b0 | exact (Int.le_trans b0 (Int.not_lt.mp (by assumption))))
  have y2:0 ≤ longestOf st' := by unfold longestOf;split <;> (first | exact b0' | exact (Int.le_trans b0' (Int.not_lt.mp (by assumption))))
  have z3:0 ≤ (if longestOf st' > longestOf st then longestOf st' else longestOf st) ∧ (if longestOf st' > longestOf st then longestOf st' else longestOf st) ≤ 20 := by split <;> (first | exact ⟨y2,z2⟩ | exact ⟨y1,z1⟩)
  obtain ⟨x,d,tp,tc,raw,k1,k2,k3,k4,k5,tr,t2,t3,t4,vs,rfl,mX,mD,mP,mC,hI⟩ := hv
  obtain ⟨x',d',tp',tc',raw',k1',k2',k3',k4',k5',tr',t2',t3',t4',vs',rfl,mX',mD',mP',mC',hI'⟩ := hv'
  intros _ w mean mg mb news st st' x d tp tc raw k1 k2 k3 k4 k5 tr t2 t3 t4 vs x' d' tp' tc' raw' k1' k2' k3' k4' k5' tr' t2' t3' t4' vs' _ b0 b1 n0 n1 q0 q1 c1 cb b0' b1' n0' n1' q0' q1' c1' cb' hV hV' y1 y2 z1 z2 z3 mX mD mP mC hI mX' mD' mP' mC' hI'
  k_with "pyIter ref" => k_dflt (
    (try generalize hq:(if longestOf st' > longestOf st then longestOf st' else longestOf st) = q at *)
    refine my_static (fun i=>∀ t:Int,2 ≤ t→t < 2 + (i:Int)→indentOf st t < indentOf st' t) [] (by rfl) (by assumption) (by exact small_one (by exact (by decide)) (by exact (by decide)) (by exact (iDn (Int.add_le_add (Int.add_le_add z3.1 iLit) iLit) rfl)) (by exact (iUpLt (Int.add_le_add (Int.add_le_add z3.2 iLit) iLit) rfl))) (by exact rangeSize_nat _ _) (by k_asm) (by k_asm) (by intro t h2 h3;lia) ?_ ?_
    intro i t u h tk own hi hoff hP F9 N9
    rotate_left
    intro u h tk hP F9 N9
    rotate_right)
  k_steps
  · exact hret _ _ _ ⟨_,rfl,less_1 (by assumption)⟩ (by k_asm) (by walk_at "my news")
  · exact hret _ _ _ ⟨_,rfl,less_2 (by assumption) (by assumption) (by assumption)⟩ (by k_asm) (by walk_at "my news")
  · exact hret _ _ _ ⟨_,rfl,less_3 (fun e=>absurd e.2 (by assumption)) hq hi (by assumption)⟩ (by k_asm) (by walk_at "my news")
  · exact st_end (by k_asm) (by k_asm) (by intro p hp;kst_mem) (by intro p hp;kst_mem) hoff (less_5 hP (by assumption)) (by kst_same)
  · exact hret _ _ _ ⟨_,rfl,less_4 (by assumption) (fun e=>absurd e.2 (by assumption)) hq z3 hP⟩ (by k_asm) (by walk_at "my news")
  · exact hret _ _ _ ⟨_,rfl,less_3 (fun e=>absurd e.1 (by assumption)) hq hi (by assumption)⟩ (by k_asm) (by walk_at "my news")
  · exact st_end (by k_asm) (by k_asm) (by intro p hp;kst_mem) (by intro p hp;kst_mem) hoff (less_5 hP (by assumption)) (by kst_same)
  · exact hret _ _ _ ⟨_,rfl,less_4 (by assumption) (fun e=>absurd e.1 (by assumption)) hq z3 hP⟩ (by k_asm) (by walk_at "my news")
noncomputable def witUpto (keep:Int→Prop) [DecidablePred keep] (f g:Int→Int):Nat→List Dat
  | 0=>[]
  | i + 1=>witUpto keep f g i ++ (if keep (1 + (i:Int)) then [rowDat (1 + (i:Int)) (f (1 + (i:Int))) (g (1 + (i:Int)))] else [])
structure WI where
  vs:List Value
  nn:Nat
  tl:List (Addr × Obj)
noncomputable def wiInv (l:Addr) (news:List (Addr × Obj)) (rows:Nat→List Dat) (i:Nat) (c:WI) (nx:List (Addr × Obj)):Prop :=
  nx = (l,listOf c.vs.toArray c.nn) :: (c.tl ++ news) ∧ DatAll c.tl c.vs (rows i) ∧ (∀ p ∈ c.tl,p.1 ≠ l) ∧ c.vs.length ≤ i ∧ Fresh c.tl news
noncomputable abbrev wiPs:WI→List (Str × Value) := fun _=>[]
section
variable {prog:Program} {w:World} {A:Around} {E:Value→Shared→Prop} {s:Shared} {env:Env} {h₀:Heap} {x:Str} {body:List Stmt} {Q:Flow→Shared→Prop}
theorem wit_loop {r:Addr} {a₀ b₀:Int} {t₀ u₀ v₀:Tok} {n:Nat} {m₀:Str→Option Value} {news:List (Addr × Obj)} {l:Addr} (rows:Nat→List Dat) (hr0:rows 0 = [])
    (hh:A.handled = none) (hr:IsRange s.heap r a₀ b₀ 1 t₀ u₀ v₀) (hsmall:Builtin.Range.small a₀ b₀ 1 = true) (hsz:Builtin.Range.rangeSize a₀ b₀ 1 = (n:Int)) (F:Fr h₀ env.locals s.heap m₀) (N:News h₀ env.locals s.heap ((l,listOf #[] 0) :: news)) (hl:∀ p ∈ news,p.1 ≠ l)
    (turn:∀ (i:Nat) vs nn tl t (u:Str→Option Value) h tk own,i < n→DatAll tl vs (rows i)→vs.length ≤ i→(∀ p ∈ tl,p.1 ≠ l)→(∀ p ∈ own,p.1 ≠ l)→OwnOff own (tl.map (·.1))→OwnOff own (news.map (·.1))→Fresh tl news →
      Fr h₀ env.locals h (fun y=>if y = x then some (.int (a₀ + (i:Int)) t) else if List.contains [] y then u y else m₀ y)→News h₀ env.locals h ((l,listOf vs.toArray nn) :: (tl ++ (news ++ own))) →
      wpAny (model prog w) A (execs body env) (InvPostG h₀ env.locals (GS wiPs (wiInv l news rows) x [] m₀ (i + 1)) own { s with heap := h,toks := tk } Q) E { s with heap := h,toks := tk })
    (done:∀ vs nn tl (u:Str→Option Value) h tk,DatAll tl vs (rows n)→(∀ p ∈ tl,p.1 ≠ l)→vs.length ≤ n→Fresh tl news→Fr h₀ env.locals h (fun y=>if y = x then u y else if List.contains [] y then u y else m₀ y)→News h₀ env.locals h ((l,listOf vs.toArray nn) :: (tl ++ news))→Q .next { s with heap := h,toks := tk }) :
    wpAny (model prog w) A (pyIter (.ref r)) (fun it s₂=>LoopAtV prog w A h₀ env x body Q E it s₂) E s := by
  refine my_range wiPs (wiInv l news rows) [] ⟨[],0,[]⟩ hh hr hsmall hsz F N ⟨rfl,by rw [hr0];exact .nil,by simp,by simp,fun p hp=>by simp at hp⟩ (fun p hp=>by simp at hp) ?_ ?_
  · rintro c i t u h tk own nx hi hoff ⟨rfl,h1,h2,h3,h4⟩ F₁ N₁
    refine turn i c.vs c.nn c.tl t u h tk own hi h1 h3 h2 (fun p hp=>hoff p hp _ (by simp)) (fun p hp b hb=>hoff p hp b ?_) (fun p hp b hb=>hoff p hp b ?_) h4 F₁ (by simpa using N₁)
    · rw [List.map_cons,List.map_append];exact List.mem_cons_of_mem _ (List.mem_append_left _ hb)
    · rw [List.map_cons,List.map_append];exact List.mem_cons_of_mem _ (List.mem_append_right _ hb)
  · rintro c u h tk nx ⟨rfl,h1,h2,h3,h4⟩ F₁ N₁
    exact done c.vs c.nn c.tl u h tk h1 h2 h3 h4 F₁ N₁
theorem wit_same {stored:List Str} {m₀:Str→Option Value} {i:Nat} {L l:Addr} {m':Str→Option Value} {own all news tl:List (Addr × Obj)} {rows:Nat→List Dat} {vs:List Value} {nn:Nat} {s₁:Shared} {h':Heap} {tk:Nat}
    (o1:∀ p ∈ own,p.1 ≠ l) (o2:OwnOff own (tl.map (·.1))) (o3:OwnOff own (news.map (·.1)))
    (F:Fr h₀ L h' m') (N:News h₀ L h' all) (hn:∀ p ∈ (l,listOf vs.toArray nn) :: (tl ++ news),p ∈ all) (ho:∀ p ∈ own,p ∈ all) (hd:DatAll tl vs (rows (i + 1))) (ht:∀ p ∈ tl,p.1 ≠ l) (hv:vs.length ≤ i + 1) (hf:Fresh tl news)
    (hr:∀ z,z ≠ x→(∀ p ∈ ([]:List (Str × Value)),z ≠ p.1)→stored.contains z = false→m' z = m₀ z) :
    InvEndG h₀ L (GS wiPs (wiInv l news rows) x stored m₀ (i + 1)) own s₁ { s₁ with heap := h',toks := tk } :=
  gs_end ⟨vs,nn,tl⟩ _ F N hn ho (fun p hp b hb=>by
    rw [List.map_cons,List.map_append] at hb
    rcases List.mem_cons.mp hb with rfl | hb
    · exact o1 p hp
    · rcases List.mem_append.mp hb with hb | hb
      · exact o2 p hp b hb
      · exact o3 p hp b hb) ⟨rfl,hd,ht,hv,hf⟩ (fun p hp=>by simp at hp) fun z h1 h2 h3=>hr z h1 h2 h3
end
theorem wit_push {h₀:Heap} {x:Str} {stored:List Str} {m₀:Str→Option Value} {i:Nat} {L l D:Addr} {m':Str→Option Value} {own news tl:List (Addr × Obj)} {rows:Nat→List Dat} {vs:List Value} {nn:Nat} {s₁:Shared} {h':Heap} {tk:Nat} {a b c:Int} {ta tb tc:Tok}
    (o1:∀ p ∈ own,p.1 ≠ l) (o2:OwnOff own (tl.map (·.1))) (o3:OwnOff own (news.map (·.1))) (ht:∀ p ∈ tl,p.1 ≠ l) (hd:DatAll tl vs (rows i)) (hv:vs.length ≤ i)
    (F:Fr h₀ L h' m') (N:News h₀ L h' ((D,({ cls := .type "tuple",data := .seq #[.int a ta,.int b tb,.int c tc] }:Obj)) :: (l,listOf (vs.toArray.push (.ref D)) nn) :: (tl ++ (news ++ own))))
    (l1:l < D ∧ AllLt D (tl ++ (news ++ own))) (hf:Fresh tl news) (hrow:rows (i + 1) = rows i ++ [rowDat a b c])
    (hr:∀ z,z ≠ x→(∀ p ∈ ([]:List (Str × Value)),z ≠ p.1)→stored.contains z = false→m' z = m₀ z) :
    InvEndG h₀ L (GS wiPs (wiInv l news rows) x stored m₀ (i + 1)) own s₁ { s₁ with heap := h',toks := tk } := by
  have lt:∀ p ∈ tl ++ (news ++ own),p.1 < D := kst_ltOf l1.2
  have e:(vs.toArray.push (Value.ref D)) = (vs ++ [Value.ref D]).toArray := by simp
  rw [e] at N
  refine wit_same (vs := vs ++ [Value.ref D]) (nn := nn) (tl := (D,({ cls := .type "tuple",data := .seq #[.int a ta,.int b tb,.int c tc] }:Obj)) :: tl) o1 ?_ o3 F N ?_ ?_ ?_ ?_ (by rw [List.length_append,List.length_singleton];exact (Nat.succ_le_of_lt (Nat.lt_succ_of_le hv))) (fun p hp q hq=>?_) hr
  · intro p hp q hq
    rcases List.mem_cons.mp hq with rfl | hq
    · exact Nat.ne_of_lt (lt p (by simp [hp]))
    · exact o2 p hp q hq
  · intro p hp
    simp only [List.cons_append,List.mem_cons,List.mem_append] at hp ⊢
    rcases hp with h | h | h | h <;> simp [h]
  · intro p hp
    simp only [List.mem_cons,List.mem_append]
    simp [hp]
  · rw [hrow]
    exact DatAll.append (hd.mono fun p hp=>.tail _ hp) (.one (.tuple (vs := [.int a ta,.int b tb,.int c tc]) (.head _) (.cons (.int _ _) (.cons (.int _ _) (.cons (.int _ _) .nil)))))
  · intro p hp
    rcases List.mem_cons.mp hp with rfl | hp
    · exact fun e=>absurd l1.1 (by rw [show (D:Nat) = l from e];exact Nat.lt_irrefl _)
    · exact ht p hp
  · rcases List.mem_cons.mp hp with rfl | hp
    · exact Nat.ne_of_lt (lt q (by simp [hq]))
    · exact hf p hp q hq
theorem wit_keep {keep:Int→Prop} [DecidablePred keep] {f g:Int→Int} {i:Nat} (h:keep (1 + (i:Int))):witUpto keep f g (i + 1) = witUpto keep f g i ++ [rowDat (1 + (i:Int)) (f (1 + (i:Int))) (g (1 + (i:Int)))] := by
  rw [witUpto,if_pos h]
theorem wit_drop {keep:Int→Prop} [DecidablePred keep] {f g:Int→Int} {i:Nat} (h:¬ keep (1 + (i:Int))):witUpto keep f g (i + 1) = witUpto keep f g i := by
  rw [witUpto,if_neg h,List.append_nil]
theorem wit_out {h₀ h':Heap} {L l:Addr} {m:Str→Option Value} {news tl:List (Addr × Obj)} {rows:Nat→List Dat} {vs:List Value} {nn n n':Nat} {s:Shared} {tk:Nat} {Q:Value→Shared→Prop}
    (hret:∀ r tl h' tk',DatIn tl r (.list (rows n'))→Fresh tl news→Fr h₀ L h' m→News h₀ L h' (tl ++ news)→Q r { s with heap := h',toks := tk' }) (hd:DatAll tl vs (rows n)) (hf:Fresh tl news) (hl:∀ q ∈ news,q.1 ≠ l) (hn:n = n') (F:Fr h₀ L h' m) (N:News h₀ L h' ((l,listOf vs.toArray nn) :: (tl ++ news))) :
    Q (.ref l) { s with heap := h',toks := tk } := by
  subst hn
  exact hret (.ref l) ((l,listOf vs.toArray nn) :: tl) h' tk (.list (.head _) (hd.mono fun p hp=>.tail _ hp)) (fun p hp q hq=>by
    rcases List.mem_cons.mp hp with rfl | hp
    · exact hl q hq
    · exact hf p hp q hq) F N
theorem nlw_tells {w:World} {mean:ExcName→Option Value} {mg mb:Str→Option Value} {news:List (Addr × Obj)} {v v':Value} {st st':WS} (hv:WsIn w news v st) (hv':WsIn w news v' st') (ho:WsOk st) (ho':WsOk st') :
    CtrO w mean mg mb 114 1 [v,v'] news (fun tl r=>DatIn tl r (.list (witUpto (fun t=>indentOf st t ≥ indentOf st' t) (indentOf st) (indentOf st') (topOf st st').toNat))) := by
  obtain ⟨b0,b1,n0,n1,q0,q1,c1,cb⟩ := ho
  obtain ⟨b0',b1',n0',n1',q0',q1',c1',cb'⟩ := ho'
  have hV := hv
  have hV' := hv'
  have y1:0 ≤ longestOf st := by unfold longestOf;split <;> (first | exact b0 | exact (Int.le_trans b0 (Int.not_lt.mp (by assumption))))
  have y2:0 ≤ longestOf st' := by unfold longestOf;split <;> (first | exact b0' | exact (Int.le_trans b0' (Int.not_lt.mp (by assumption))))
  have z1:longestOf st ≤ 20 := by unfold longestOf;split <;> (first | exact b1 | exact (iUp (Int.sub_le_sub (iCast c1) iLit) rfl))
  have z2:longestOf st' ≤ 20 := by unfold longestOf;split <;> (first | exact b1' | exact (iUp (Int.sub_le_sub (iCast c1') iLit) rfl))
  have z3:0 ≤ (if longestOf st' > longestOf st then longestOf st' else longestOf st) ∧ (if longestOf st' > longestOf st then longestOf st' else longestOf st) ≤ 20 := by split <;> (first | exact ⟨y2,z2⟩ | exact ⟨y1,z1⟩)
  obtain ⟨x,d,tp,tc,raw,k1,k2,k3,k4,k5,tr,t2,t3,t4,vs,rfl,mX,mD,mP,mC,hI⟩ := hv
  obtain ⟨x',d',tp',tc',raw',k1',k2',k3',k4',k5',tr',t2',t3',t4',vs',rfl,mX',mD',mP',mC',hI'⟩ := hv'
  intros _ w mean mg mb news st st' x d tp tc raw k1 k2 k3 k4 k5 tr t2 t3 t4 vs x' d' tp' tc' raw' k1' k2' k3' k4' k5' tr' t2' t3' t4' vs' _ b0 b1 n0 n1 q0 q1 c1 cb b0' b1' n0' n1' q0' q1' c1' cb' hV hV' y1 y2 z1 z2 z3 mX mD mP mC hI mX' mD' mP' mC' hI'
  have kMk:KstMark := kstMark
  k_with "pyIter ref" => k_dflt (
    (try generalize hq:(if longestOf st' > longestOf st then longestOf st' else longestOf st) = q at *)
    refine wit_loop (witUpto (fun t=>indentOf st t ≥ indentOf st' t) (indentOf st) (indentOf st')) rfl (by rfl) (by assumption) (by exact small_one (by exact (by decide)) (by exact (by decide)) (by exact (iDn (Int.add_le_add (Int.add_le_add z3.1 iLit) iLit) rfl)) (by exact (iUpLt (Int.add_le_add (Int.add_le_add z3.2 iLit) iLit) rfl))) (by exact rangeSize_nat _ _) (by k_asm) (by k_asm) (by k_all) ?_ ?_
    intro i vs9 nn9 tl9 t u h tk own hi hD9 hl9 o1 o2 o3 o4 hf9 F9 N9
    rotate_left
    intro vs9 nn9 tl9 u h tk hD9 o1 hl9 hf9 F9 N9
    rotate_right)
  k_steps
  · exact wit_push o2 o3 o4 o1 hD9 hl9 (by k_asm) (by k_asm) (by assumption) hf9 (wit_keep (by assumption)) (by kst_same)
  · exact wit_same (vs := vs9) (nn := nn9) (tl := tl9) o2 o3 o4 (by k_asm) (by k_asm) (by intro p hp;simp only [List.mem_cons,List.mem_append] at hp ⊢;rcases hp with h | h | h <;> simp [h]) (by intro p hp;simp [hp]) (by rw [wit_drop (by first | assumption | exact fun h=>h (by assumption))];exact hD9) o1 (by exact (Nat.le_trans hl9 (Nat.le_add_right _ _))) hf9 (by kst_same)
  · exact wit_out hret hD9 hf9 (by k_all) (by unfold topOf;rw [hq];lia) (by k_asm) (by k_asm)
theorem new_tells {w:World} {mean:ExcName→Option Value} {mg mb:Str→Option Value} {news:List (Addr × Obj)} {v v':Value} {st st':WS} (hv:WsIn w news v st) (hv':WsIn w news v' st') (ho:WsOk st) (ho':WsOk st') :
    CtrO w mean mg mb 100 1 [v,v'] news (fun tl r=>DatIn tl r (.list (witUpto (fun t=>indentOf st t ≠ indentOf st' t) (indentOf st) (indentOf st') (topOf st st').toNat))) := by
  obtain ⟨b0,b1,n0,n1,q0,q1,c1,cb⟩ := ho
  obtain ⟨b0',b1',n0',n1',q0',q1',c1',cb'⟩ := ho'
  have hV := hv
  have hV' := hv'
  have y1:0 ≤ longestOf st := by unfold longestOf;split <;> (first | exact b0 | exact (Int.le_trans b0 (Int.not_lt.mp (by assumption))))
  have y2:0 ≤ longestOf st' := by unfold longestOf;split <;> (first | exact b0' | exact (Int.le_trans b0' (Int.not_lt.mp (by assumption))))
  have z1:longestOf st ≤ 20 := by unfold longestOf;split <;> (first | exact b1 | exact (iUp (Int.sub_le_sub (iCast c1) iLit) rfl))
  have z2:longestOf st' ≤ 20 := by unfold longestOf;split <;> (first | exact b1' | exact (iUp (Int.sub_le_sub (iCast c1') iLit) rfl))
  have z3:0 ≤ (if longestOf st' > longestOf st then longestOf st' else longestOf st) ∧ (if longestOf st' > longestOf st then longestOf st' else longestOf st) ≤ 20 := by split <;> (first | exact ⟨y2,z2⟩ | exact ⟨y1,z1⟩)
  obtain ⟨x,d,tp,tc,raw,k1,k2,k3,k4,k5,tr,t2,t3,t4,vs,rfl,mX,mD,mP,mC,hI⟩ := hv
  obtain ⟨x',d',tp',tc',raw',k1',k2',k3',k4',k5',tr',t2',t3',t4',vs',rfl,mX',mD',mP',mC',hI'⟩ := hv'
  intros _ w mean mg mb news st st' x d tp tc raw k1 k2 k3 k4 k5 tr t2 t3 t4 vs x' d' tp' tc' raw' k1' k2' k3' k4' k5' tr' t2' t3' t4' vs' _ b0 b1 n0 n1 q0 q1 c1 cb b0' b1' n0' n1' q0' q1' c1' cb' hV hV' y1 y2 z1 z2 z3 mX mD mP mC hI mX' mD' mP' mC' hI'
  have kMk:KstMark := kstMark
  k_with "pyIter ref" => k_dflt (
    (try generalize hq:(if longestOf st' > longestOf st then longestOf st' else longestOf st) = q at *)
    refine wit_loop (witUpto (fun t=>indentOf st t ≠ indentOf st' t) (indentOf st) (indentOf st')) rfl (by rfl) (by assumption) (by exact small_one (by exact (by decide)) (by exact (by decide)) (by exact (iDn (Int.add_le_add (Int.add_le_add z3.1 iLit) iLit) rfl)) (by exact (iUpLt (Int.add_le_add (Int.add_le_add z3.2 iLit) iLit) rfl))) (by exact rangeSize_nat _ _) (by k_asm) (by k_asm) (by k_all) ?_ ?_
    intro i vs9 nn9 tl9 t u h tk own hi hD9 hl9 o1 o2 o3 o4 hf9 F9 N9
    rotate_left
    intro vs9 nn9 tl9 u h tk hD9 o1 hl9 hf9 F9 N9
    rotate_right)
  k_steps
  · exact wit_push o2 o3 o4 o1 hD9 hl9 (by k_asm) (by k_asm) (by assumption) hf9 (wit_keep (by assumption)) (by kst_same)
  · exact wit_same (vs := vs9) (nn := nn9) (tl := tl9) o2 o3 o4 (by k_asm) (by k_asm) (by intro p hp;simp only [List.mem_cons,List.mem_append] at hp ⊢;rcases hp with h | h | h <;> simp [h]) (by intro p hp;simp [hp]) (by rw [wit_drop (by first | assumption | exact fun h=>h (by assumption))];exact hD9) o1 (by exact (Nat.le_trans hl9 (Nat.le_add_right _ _))) hf9 (by kst_same)
  · exact wit_out hret hD9 hf9 (by k_all) (by unfold topOf;rw [hq];lia) (by k_asm) (by k_asm)
theorem eq_norm {prog:Program} {w:World} {A:Around} {E:Value→Shared→Prop} {s:Shared} {h₀:Heap} {L tp tc tp' tc':Addr} {news:List (Addr × Obj)} {vs vs':List Value} {cnt cnt':List Int} {b b':Int} {t t':Tok} {n1 n2 n3 n4:Nat} {Q:Value→Shared→Prop}
    (N:News h₀ L s.heap news) (hP:(tp,({ cls := .type "tuple",data := .seq #[.ref tc,.int b t] n1 }:Obj)) ∈ news) (hC:(tc,({ cls := .type "tuple",data := .seq vs.toArray n2 }:Obj)) ∈ news) (hI:IntsAre vs cnt)
    (hP':(tp',({ cls := .type "tuple",data := .seq #[.ref tc',.int b' t'] n3 }:Obj)) ∈ news) (hC':(tc',({ cls := .type "tuple",data := .seq vs'.toArray n4 }:Obj)) ∈ news) (hI':IntsAre vs' cnt') (hu:A.units + 64 < cLine)
    (h:Q (.bool (decide (cnt = cnt' ∧ b = b'))) s):wpAny (model prog w) A (compareOp .Eq (.ref tp) (.ref tp')) Q E s := by
  have r1:Reads s.heap (.ref tp) (.tuple [.tuple (cnt.map PyData.int),.int b]) _ := reads_tuple_at (N.get hP) rfl rfl (.cons (reads_tuple_at (N.get hC) rfl rfl (IntsAre.reads _ hI)) (.cons (Reads.int _ _) .nil))
  have r2:Reads s.heap (.ref tp') (.tuple [.tuple (cnt'.map PyData.int),.int b']) _ := reads_tuple_at (N.get hP') rfl rfl (.cons (reads_tuple_at (N.get hC') rfl rfl (IntsAre.reads _ hI')) (.cons (Reads.int _ _) .nil))
  refine eq_dataH r1 r2 ?_ ?_ hu ?_
  · simp [SeqAt.shaped,PyData.canLay0,PyData.canLayAll0,PyData.depth,PyData.depthAll,ke_canLayAll0,ke_depthAll]
  · simp [SeqAt.shaped,PyData.canLay0,PyData.canLayAll0,PyData.depth,PyData.depthAll,ke_canLayAll0,ke_depthAll]
  · have e:PyData.eqv (.tuple [.tuple (cnt.map PyData.int),.int b]) (.tuple [.tuple (cnt'.map PyData.int),.int b']) = decide (cnt = cnt' ∧ b = b') := by
      simp only [PyData.eqv,PyData.eqvAll,ked_eqvAll,Bool.and_true]
      by_cases h1:cnt = cnt' <;> by_cases h2:b = b' <;> simp [h1,h2]
    rw [e];exact h
theorem equal_tells {w:World} {mean:ExcName→Option Value} {mg mb:Str→Option Value} {news:List (Addr × Obj)} {v v':Value} {st st':WS} (hv:WsIn w news v st) (hv':WsIn w news v' st') :
    Ctr w mean mg mb 93 0 [v,v'] news (fun r=>r = .bool (decide (st.count = st'.count ∧ st.b = st'.b))) := by
  obtain ⟨x,d,tp,tc,raw,k1,k2,k3,k4,k5,tr,t2,t3,t4,vs,rfl,mX,mD,mP,mC,hI⟩ := hv
  obtain ⟨x',d',tp',tc',raw',k1',k2',k3',k4',k5',tr',t2',t3',t4',vs',rfl,mX',mD',mP',mC',hI'⟩ := hv'
  intro dp un gd cn cs a ccd cl outer A₀ base h₀ L m s Q E B F X N T hk hd hu hret;revert X;unfold PG;k_fill;intro X;refine wpAny_call ?_;k_dflt (walk_at "my enter")
  k_with "compareOp Eq ref ref" => k_dflt (
    refine eq_norm (by k_asm) mP mC hI mP' mC' hI' (by dsimp only [Around.deeper,ktrTop];have := cLine_is;exact bC (fk20 (Z9 V0 (Lk 9900) (Z7 (La V1 (Lm 100 K0)) (Lk 6000) (Z11 (La (La V1 (Lk 3)) (Lk 64)) V0 Lf))) rfl this hu)) ?_)
  k_steps
  exact hret _ _ _ rfl (by k_asm) (by walk_at "my news")
end
section
example:True := by
  w_top off
  k_with_none
  k_with "a" => with_reducible assumption
  k_with "sh" => first | exact sh1 (by k_extra "a") rfl | exact sh2 (by k_extra "a") rfl | exact sh3 (by k_extra "a") rfl | exact sh4 (by k_extra "a") rfl | exact sl1 (by k_extra "a") rfl | exact sl2 (by k_extra "a") rfl | exact sl3 (by k_extra "a") rfl | omega
  k_with "omega" => first | k_extra "a" | decide | exact Int.not_le.mp (by k_extra "a") | exact Int.not_lt.mp (by k_extra "a") | exact nUp (by k_extra "a") rfl | exact iDn (by k_extra "a") rfl | exact iUp (by k_extra "a") rfl | exact iUpLt (by k_extra "a") rfl | exact iDn (Int.add_le_add iLit iCast0) rfl | exact iDn iCast0 rfl | exact nUpLt (Nat.add_le_add (by k_extra "a") (Nat.le_refl _)) rfl | exact Nat.ne_of_lt (Nat.lt_succ_self _) | exact Ne.symm (Nat.ne_of_lt (Nat.lt_succ_self _)) | exact Nat.ne_of_lt (by k_extra "a") | exact Ne.symm (Nat.ne_of_lt (by k_extra "a")) | exact Ne.symm (Int.ne_of_lt (by k_extra "a")) | exact Int.not_le.mpr (iUpLt (iCast (by k_extra "a")) rfl) | lia
  k_with "my news" => first | k_asm | (refine cb_drop (by assumption) (by (intro p9 hp9;kst_mem)))
  k_with "ctr K" => first | exact rfl | assumption
  k_with "ctr D" => ((try simp only [depth_under_make,depth_under_kw,depth_in1,depth_deeper,depth_caller]);(try dsimp only [ktrTop]);k_extra "sh")
  k_with "ctr U" => ((try simp only [units_in1,units_deeper,Around.mark_units,units_caller]);(try dsimp only [ktrTop]);k_extra "sh")
  k_with "nmx" => (with_reducible show wpAny _ _ (eval _ (envX _ _ _ _ _ _)) _ _ _)
  k_with "^eval Name" => (k_here;k_extra "nmx";name_kind "globalImplicit";name_is_builtin;k_dflt (refine nameX_B (by k_asm) (by k_asm) (by k_asm) (by k_is) (by boot_fast) (by decide) ?_ (by rfl) (by kernel_rfl!));k_whole)
  k_with "^eval Name" => (k_here;k_extra "nmx";name_kind "globalImplicit";k_dflt (refine nameX_K (by k_asm) (by k_asm) (by k_asm) (by k_is) ?_ (by rfl) (by kernel_rfl!));k_whole)
  k_with "^eval Name" => (k_here;k_extra "nmx";name_kind "local";k_dflt (refine nmL (by rfl) (by rfl) (by k_asm) (by exact rfl) ?_);k_whole)
  k_with "call type:range" => ((rename Fr _ _ _ _=>f9);(rename News _ _ _ _=>n9);k_dflt (first | refine range1_rows f9 n9 ?_ | refine range2_rows f9 n9 ?_);intro _ _ _ _ _ _ _ _ _)
  k_with "call builtin:len" => ((with_reducible show wpAny _ _ (call (Value.builtin "len") [Value.str _ _]) _ _ _);refine SBL.len (by omega) ?_)
  k_with "ws here" => first | k_extra "a" | exact WsIn.mono (by k_extra "a") (by intro p hp;kst_mem)
  k_with "ctr back" => (intro r9 h9 tk9 hr9 F9 N9;obtain ⟨t9,hr9⟩ := hr9;subst hr9;(try dsimp only);(try k_fold))
  trivial
example:True := by
  k_with "eval ListComp" => ((with_reducible show wpAny _ _ (eval (Expr.ListComp _ [⟨_,Expr.Subscript _ _ _,_,_⟩] _ _) _) _ _ _);(with_reducible apply ListComp_rowsP);(case hfree=>decide);(case hcell=>decide);(case hkind=>with_unfolding_all rfl);(case hnames=>decide);(case hx=>with_unfolding_all rfl);(case hs=>intro _;with_unfolding_all rfl))
  k_with "call builtin:sum" => ((rename CarriedAll _ (List.map _ (List.filter _ _))=>hc9);(have hi9 := CarriedAll.intsOf hc9);clear hc9;walk1)
  trivial
theorem sum_tells {w:World} {mean:ExcName→Option Value} {mg mb:Str→Option Value} {news:List (Addr × Obj)} {l:Addr} {vs:List Value} {ns:List Int} {first start:Int} {t1 t2:Tok} (hi:IntsAre vs ns) (hl:ns.length ≤ 63) (f0:0 ≤ first) (f4:first < 4) (s0:0 ≤ start) (s1:start < 100000)
    (dp un:Nat) (gd:Option (List Code)) (cn:Str) (cs:Scope) (a:Addr) (ccd:Value) (cl:List (Str × Addr)) (outer:List Env) (A₀:Around) (base h₀:Heap) (L:Addr) (m:Str→Option Value) (s:Shared) (Q E:Value→Shared→Prop)
    (HL:base.IsList l vs.toArray)
    (B:Below A₀ base outer h₀) (F:Fr h₀ L s.heap m) (X:(topT.heap_39 w.params).In h₀) (N:News h₀ L s.heap news) (T:Top topProg LG mean mg mb h₀) (hk:cs.kind = .function) (hd:dp + 10 * 0 < 600) (hu:un + 100 * 0 < 6000)
    (hret:∀ r h' tk',(∃ n t,r = .int n t ∧ start ≤ n)→Fr h₀ L h' m→News h₀ L h' news→Q r { s with heap := h',toks := tk' }) :
    wpAny (model PG w) (ktrTop dp un gd cn cs L a ccd cl outer) (call (.ref 147) [.ref l,.int first t1,.int start t2]) Q E s := by
  revert X;unfold PG;k_fill;intro X;refine wpAny_call ?_;k_dflt (walk_at "my enter")
  have hp := hi.pick (some first) (some 60) (some 4)
  k_steps
  refine hret _ _ _ ⟨_,_,rfl,?_⟩ (by k_asm) (by walk_at "my news")
  have h9:0 ≤ (List.map (fun a:Int=>a.fmod 1000000 + 1) (pickNums ns (some first) (some 60) (some 4))).sum := by
    refine sum_ge0 fun k hk=>?_
    obtain ⟨a,_,rfl⟩ := List.mem_map.mp hk
    have := Int.fmod_nonneg_of_pos a (show (0:Int) < 1000000 by decide)
    exact (iDn (Int.add_le_add this iLit) rfl)
  exact bC (fk02 (Z0 K0 V0 (Z4 V1 (La V1 V0) Lf)) rfl h9)
theorem lead_tells {w:World} {mean:ExcName→Option Value} {mg mb:Str→Option Value} {news:List (Addr × Obj)} {n most:Int} {t1 t2:Tok} (n0:0 ≤ n) (m0:0 ≤ most) (m1:most ≤ 5) :
    Ctr w mean mg mb 152 0 [.int n t1,.int most t2] news (fun r=>∃ y t,r = .str y t ∧ IsLead y ∧ (y.length:Int) ≤ most) := by
  intros _ w mean mg mb news n most t1 t2 _ n0 m0 m1
  have b1 := Int.fmod_nonneg_of_pos n (show 0 < most + 1 by exact (iDnLt (Int.add_le_add m0 iLit) rfl))
  have b2 := Int.fmod_lt_of_pos n (show 0 < most + 1 by exact (iDnLt (Int.add_le_add m0 iLit) rfl))
  k_with "binaryOp Pow int int" => ((with_reducible refine pow_int_small ?_ ?_ ?_ ?_);l_bnd;l_bnd;decide)
  k_with "binaryOp FloorDiv int int" => ((with_reducible refine floordiv_int ?_ ?_ (Or.inl (PyProof.noPylong_of_log2 ?_)));exact Int.ne_of_gt (pow_pos_of (by decide) _);rotate_left;exact kbt_py (by l_bnd))
  k_with "CompSrc" => k_dflt (
    refine LCg.CompSrc.range (by rfl) (by k_asm) (by k_asm) (by assumption) (by exact small_one (by exact (by decide)) (by exact (by decide)) (by exact (iDn b1 rfl)) (by exact (iUpLt (Int.le_trans (iLt1 b2) (Int.sub_le_sub_right (Int.add_le_add m1 iLit) 1)) rfl))) (by exact rangeSize_nat _ _) (by rw [PySem.sizeLine_eq];exact bC (fk12 (Z1 V1 (La V2 K1) (Z0 V2 (Lk 5) (Z2 V0 (Ls V1 K0) (Z10 V0 (Lk 16777216) Lf)))) rfl b2 m1 (tC (bC (fk01 (Z0 K0 V0 (Z4 K0 (Ls V0 K0) Lf)) rfl b1))))) ?_
    intro g'
    refine lc_rest (fun _ y=>∃ c t,y = Value.str c t ∧ IsLead c ∧ c.length = 1) (by exact True.intro) ?turn ?fin
    case' turn =>
      intro i v I oI C oC D m₂ ys h tk E' hi' hv hC hx F' N' off ne
      obtain ⟨t',hv'⟩ := hv
      subst hv'
    case' fin =>
      intro ys hy1 hy2
      obtain ⟨cs9,hs9,hc9⟩ := strs_of (G := fun c=>IsLead c ∧ c.length = 1) (fun _ _ h=>h) hy2
      have hl9 := hs9.length)
  k_with "call builtin:str.join" => k_dflt (
    refine join_list (News.isList (by k_asm) (by k_mem)) hs9 (by rw [sum_len1 fun k hk=>(hc9 k hk).2,show (Str.ofString "").length = 0 from by decide];exact bC (fk32 (Z9 V0 V1 (Z8 V0 V2 (Z1 V3 (La V4 K1) (Z0 V4 (Lk 5) (Z2 V2 (Ls V3 K0) (Z10 (La V1 (Lr V1 0)) (Lk 16777216) Lf)))))) rfl hl9 hy1 b2 m1 (tC (bC (fk01 (Z0 K0 V0 (Z4 K0 (Ls V0 K0) Lf)) rfl b1))))) ?_
    intro t8 k8)
  k_steps
  · obtain ⟨h1,h2⟩ := join_lead hc9
    exact hret _ _ _ ⟨_,_,rfl,h1,by rw [h2];exact bC (fk32 (Z9 V0 V1 (Z8 V0 V2 (Z1 V3 (La V4 K1) (Z2 V2 (Ls V3 K0) (Z4 V1 V4 Lf))))) rfl hl9 hy1 b2 (tC (bC (fk01 (Z0 K0 V0 (Z4 K0 (Ls V0 K0) Lf)) rfl b1))))⟩ (by k_asm) (by walk_at "my news")
  · have z0 := Int.fmod_nonneg_of_pos ((n.fdiv (most + 1)).fdiv (2 ^ ((0:Int) + ↑i).toNat)) (show (0:Int) < 2 by decide)
    have z1 := Int.fmod_lt_of_pos ((n.fdiv (most + 1)).fdiv (2 ^ ((0:Int) + ↑i).toNat)) (show (0:Int) < 2 by decide)
    exact TEnd.intro (by k_asm) (by k_asm) ⟨_,_,rfl,signs_lead z0 z1⟩
theorem eq_empty {x:Str} (h:x.length = 0):(x == Str.ofString "") = true := by
  rw [show Str.ofString "" = Str.mk #[] from by decide +kernel,beq_iff_eq]
  exact tx_inj (List.eq_nil_of_length_eq_zero (by rw [tx_len];exact h))
theorem sign_item {i:Int} (h0:0 ≤ i) (h1:i < 2):∃ c,(c = 32 ∨ c = 9) ∧ tx (Txt.item (Str.ofString " \t") i) = [c] := by
  have:i = 0 ∨ i = 1 := by lia
  rcases this with rfl | rfl
  · exact ⟨32,.inl rfl,by decide +kernel⟩
  · exact ⟨9,.inr rfl,by decide +kernel⟩
noncomputable def StrokeOut (lead y:Str):Prop := Stroke (tx lead) (tx y) ∧ (IsLead lead→IsLead y) ∧ y.length ≤ lead.length + 1
theorem stroke_lead {a b:List Nat} (h:Stroke a b) (ha:∀ c ∈ a,c = 32 ∨ c = 9):∀ c ∈ b,c = 32 ∨ c = 9 := by
  cases h with
  | ins p q e he=>intro c hc;simp only [List.mem_append,List.mem_cons] at *;rcases hc with hc | rfl | hc;exact ha c (.inl hc);exact he;exact ha c (.inr hc)
  | del p q d=>intro c hc;simp only [List.mem_append,List.mem_cons] at *;rcases hc with hc | hc;exact ha c (.inl hc);exact ha c (.inr (.inr hc))
  | sub p q e d he=>intro c hc;simp only [List.mem_append,List.mem_cons] at *;rcases hc with hc | rfl | hc;exact ha c (.inl hc);exact he;exact ha c (.inr (.inr hc))
theorem stroke_len {a b:List Nat} (h:Stroke a b):b.length ≤ a.length + 1 := by
  cases h <;> simp <;> (first | exact bC (fk20 (Z10 (La V0 (La V1 K1)) (La (La V0 V1) K1) Lf) rfl) | exact bC (fk20 (Z10 (La V0 V1) (La (La V0 (La V1 K1)) K1) Lf) rfl))
theorem strokeOut {lead y:Str} (h:Stroke (tx lead) (tx y)):StrokeOut lead y :=
  ⟨h,stroke_lead h,by have := stroke_len h;rw [tx_len,tx_len] at this;exact this⟩
theorem stroke_ins {lead:Str} {p i:Int} (p0:0 ≤ p) (p1:p ≤ lead.length) (i0:0 ≤ i) (i1:i < 2) :
    StrokeOut lead (Txt.slice lead none (some p) ++ Txt.item (Str.ofString " \t") i ++ Txt.slice lead (some p) none) := by
  obtain ⟨c,hc,e⟩ := sign_item i0 i1
  refine strokeOut ?_
  rw [tx_app,tx_app,e,tx_slice_to p0 p1,tx_slice_from p0 p1,List.append_assoc]
  have := Stroke.ins ((tx lead).take p.toNat) ((tx lead).drop p.toNat) c hc
  rwa [List.take_append_drop] at this
theorem take_drop1 (l:List Nat) (k:Nat) (h:k < l.length):l.take k ++ l[k] :: l.drop (k + 1) = l := by
  rw [← List.drop_eq_getElem_cons h,List.take_append_drop]
theorem stroke_del {lead:Str} {p:Int} (p0:0 ≤ p) (p1:p < lead.length):StrokeOut lead (Txt.slice lead none (some p) ++ Txt.slice lead (some (p + 1)) none) := by
  refine strokeOut ?_
  rw [tx_app,tx_slice_to p0 (by exact (Int.le_of_lt p1)),tx_slice_from (by exact (iDn (Int.add_le_add p0 iLit) rfl)) (by exact bC (fk11 (Z1 V1 V0 (Z4 (La V1 K1) V0 Lf)) rfl p1)),show (p + 1).toNat = p.toNat + 1 by exact Nat.le_antisymm (bC (fk21 (Z2 V0 (La V2 K1) (Z3 V1 V2 (Z10 V0 (La V1 K1) Lf))) rfl (tC (bC (fk01 (Z0 K0 V0 (Z4 K0 (La V0 K1) Lf)) rfl p0))) (tC (bC (fk01 (Z0 K0 V0 (Z4 K0 V0 Lf)) rfl p0))))) (bC (fk21 (Z3 V0 (La V2 K1) (Z2 V1 V2 (Z10 (La V1 K1) V0 Lf))) rfl (tC (bC (fk01 (Z0 K0 V0 (Z4 K0 (La V0 K1) Lf)) rfl p0))) (tC (bC (fk01 (Z0 K0 V0 (Z4 K0 V0 Lf)) rfl p0)))))]
  have hl:p.toNat < (tx lead).length := by rw [tx_len];exact bC (fk21 (Z1 V2 V0 (Z2 V1 V2 (Z11 V1 V0 Lf))) rfl p1 (tC (bC (fk01 (Z0 K0 V0 (Z4 K0 V0 Lf)) rfl p0))))
  have := Stroke.del ((tx lead).take p.toNat) ((tx lead).drop (p.toNat + 1)) (tx lead)[p.toNat]
  rwa [take_drop1 _ _ hl] at this
theorem stroke_sub {lead:Str} {p i:Int} (p0:0 ≤ p) (p1:p < lead.length) (i0:0 ≤ i) (i1:i < 2) :
    StrokeOut lead (Txt.slice lead none (some p) ++ Txt.item (Str.ofString " \t") i ++ Txt.slice lead (some (p + 1)) none) := by
  obtain ⟨c,hc,e⟩ := sign_item i0 i1
  refine strokeOut ?_
  rw [tx_app,tx_app,e,tx_slice_to p0 (by exact (Int.le_of_lt p1)),tx_slice_from (by exact (iDn (Int.add_le_add p0 iLit) rfl)) (by exact bC (fk11 (Z1 V1 V0 (Z4 (La V1 K1) V0 Lf)) rfl p1)),show (p + 1).toNat = p.toNat + 1 by exact Nat.le_antisymm (bC (fk21 (Z2 V0 (La V2 K1) (Z3 V1 V2 (Z10 V0 (La V1 K1) Lf))) rfl (tC (bC (fk01 (Z0 K0 V0 (Z4 K0 (La V0 K1) Lf)) rfl p0))) (tC (bC (fk01 (Z0 K0 V0 (Z4 K0 V0 Lf)) rfl p0))))) (bC (fk21 (Z3 V0 (La V2 K1) (Z2 V1 V2 (Z10 (La V1 K1) V0 Lf))) rfl (tC (bC (fk01 (Z0 K0 V0 (Z4 K0 (La V0 K1) Lf)) rfl p0))) (tC (bC (fk01 (Z0 K0 V0 (Z4 K0 V0 Lf)) rfl p0))))),List.append_assoc]
  have hl:p.toNat < (tx lead).length := by rw [tx_len];exact bC (fk21 (Z1 V2 V0 (Z2 V1 V2 (Z11 V1 V0 Lf))) rfl p1 (tC (bC (fk01 (Z0 K0 V0 (Z4 K0 V0 Lf)) rfl p0))))
  have := Stroke.sub ((tx lead).take p.toNat) ((tx lead).drop (p.toNat + 1)) c (tx lead)[p.toNat] hc
  rwa [take_drop1 _ _ hl] at this
theorem stroke_tells {w:World} {mean:ExcName→Option Value} {mg mb:Str→Option Value} {news:List (Addr × Obj)} {lead:Str} {n:Int} {t1 t2:Tok} (hl:lead.length ≤ 10) :
    Ctr w mean mg mb 159 0 [.str lead t1,.int n t2] news (fun r=>∃ y t,r = .str y t ∧ StrokeOut lead y) := by
  intros _ w mean mg mb news lead n t1 t2 _ hl
  have f2:∀ k:Int,0 ≤ k.fmod 2 ∧ k.fmod 2 < 2 := fun k=>⟨Int.fmod_nonneg_of_pos k (by decide),Int.fmod_lt_of_pos k (by decide)⟩
  have fl:∀ k l:Int,0 < l→0 ≤ k.fmod l ∧ k.fmod l < l := fun k l h=>⟨Int.fmod_nonneg_of_pos k h,Int.fmod_lt_of_pos k h⟩
  have f1:0 < (lead.length:Int) + 1 := by exact (iDnLt (Int.add_le_add iCast0 iLit) rfl)
  k_steps
  · exact hret _ _ _ ⟨_,_,rfl,stroke_ins (fl _ _ f1).1 (by have := (fl ((n.fdiv 6).fmod 8) _ f1).2;exact bC (fk11 (Z1 V1 (La V0 K1) (Z4 V1 V0 Lf)) rfl this)) (f2 _).1 (f2 _).2⟩ (by k_asm) (by walk_at "my news")
  · exact hret _ _ _ ⟨_,_,rfl,stroke_ins (fl _ _ f1).1 (by have := (fl ((n.fdiv 6).fmod 8) _ f1).2;exact bC (fk11 (Z1 V1 (La V0 K1) (Z4 V1 V0 Lf)) rfl this)) (f2 _).1 (f2 _).2⟩ (by k_asm) (by walk_at "my news")
  · exfalso
    have h9 := eq_empty (x := lead) (Nat.le_antisymm (bC (fk10 (Z2 V0 K0 (Z10 V0 K0 Lf)) rfl (by assumption))) (bC (fk10 (Z12 V0 (Z10 K0 V0 Lf)) rfl trivial)))
    simp_all
  · have f3:0 < (lead.length:Int) := by
      rcases Nat.eq_zero_or_pos lead.length with h9 | h9
      · have h8 := eq_empty h9;simp_all
      · exact (iDnLt (iCast h9) rfl)
    exact hret _ _ _ ⟨_,_,rfl,stroke_del (fl _ _ f3).1 (fl _ _ f3).2⟩ (by k_asm) (by walk_at "my news")
  · have f3:0 < (lead.length:Int) := by
      rcases Nat.eq_zero_or_pos lead.length with h9 | h9
      · have h8 := eq_empty h9;simp_all
      · exact (iDnLt (iCast h9) rfl)
    exact hret _ _ _ ⟨_,_,rfl,stroke_sub (fl _ _ f3).1 (fl _ _ f3).2 (f2 _).1 (f2 _).2⟩ (by k_asm) (by walk_at "my news")
example:True := by
  k_with "call ref" => (k_here;k_dflt (show wpAny _ _ (call (Value.ref 166) _) _ _ _);k_dflt (refine ctr_use (by k_asm) (by k_asm) (by k_asm) (by k_asm) (by k_asm) (by walk_at "ctr K") (col_tells (by exact (iDn (Int.add_le_add iLit iCast0) rfl)) (bC (fk51 (Z7 V0 V1 (Z6 V2 (La (La V3 K1) V4) (Z3 V2 V5 (Z6 V4 (Lk 20) (Z6 V3 (Lk 20) (Z2 V1 (Ls (La (La K1 V5) K1) K1) (Z4 (La K1 V0) (Lk 60) Lf))))))) rfl hi' hle8 hM3 h2 h1 (tC (bC (fk11 (Z2 V0 V1 (Z12 V0 (Z4 K0 (Ls (La (La K1 V1) K1) K1) Lf))) rfl hM3 trivial)))))) (by walk_at "ctr D") (by walk_at "ctr U") ?_);walk_at "ctr back")
  trivial
noncomputable def joinT:List (List Nat)→List Nat
  | []=>[]
  | [p]=>p
  | p :: q :: r=>p ++ 9 :: joinT (q :: r)
noncomputable def MaxRun (l:List Nat) (M:Nat):Prop := ∃ ps:List (List Nat),ps ≠ [] ∧ joinT ps = l ∧ (∀ p ∈ ps,9 ∉ p ∧ p.length ≤ M) ∧ ∃ p ∈ ps,p.length = M
theorem tab_mk:Str.ofString "\t" = (Str.mk #[9]) := by decide +kernel
theorem tx_joinT:∀ l:List Str,tx (Str.join (Str.ofString "\t") l) = joinT (l.map tx)
  | []=>rfl
  | [_]=>rfl
  | a :: b :: r=>by
    show tx (a ++ Str.ofString "\t" ++ Str.join (Str.ofString "\t") (b :: r)) = tx a ++ 9 :: joinT (tx b :: r.map tx)
    rw [tx_app,tx_app,tx_joinT (b :: r),show tx (Str.ofString "\t") = [9] from by decide +kernel]
    simp
theorem split_ne (one other:Str):1 ≤ (Txt.split (one ++ Str.ofString "\t" ++ other) (Str.ofString "\t")).length := by
  have h := StrLaws.join_split (one ++ Str.ofString "\t" ++ other) (Str.ofString "\t")
  cases hs:Txt.split (one ++ Str.ofString "\t" ++ other) (Str.ofString "\t") with
  | nil =>
    rw [hs] at h
    have h2 := congrArg (fun x=>(tx x).length) h
    simp only [tx_app,List.length_append,show tx (Str.ofString "\t") = [9] from by decide +kernel,List.length_singleton] at h2
    have h3:(tx (Str.join (Str.ofString "\t") [])).length = 0 := rfl
    lia
  | cons a r=>simp
theorem split_runs {one other:Str} {M:Nat} (h1:∃ k ∈ Txt.split (one ++ Str.ofString "\t" ++ other) (Str.ofString "\t"),k.length = M) (h2:∀ k ∈ Txt.split (one ++ Str.ofString "\t" ++ other) (Str.ofString "\t"),k.length ≤ M):MaxRun (tx one ++ 9 :: tx other) M := by
  refine ⟨(Txt.split (one ++ Str.ofString "\t" ++ other) (Str.ofString "\t")).map tx,?_,?_,?_,?_⟩
  · intro h
    have := split_ne one other
    rw [List.map_eq_nil_iff.mp h] at this
    simp at this
  · rw [← tx_joinT,StrLaws.join_split,tx_app,tx_app,show tx (Str.ofString "\t") = [9] from by decide +kernel]
    simp
  · intro p hp
    obtain ⟨k,hk,rfl⟩ := List.mem_map.mp hp
    refine ⟨?_,by rw [tx_len];exact h2 k hk⟩
    rw [tab_mk] at hk
    exact StrLaws.split_free _ 9 k hk
  · obtain ⟨k,hk,e⟩ := h1
    exact ⟨tx k,List.mem_map.mpr ⟨k,hk,rfl⟩,by rw [tx_len];exact e⟩
theorem TEndD.one {h₀:Heap} {L:Addr} {m:Str→Option Value} {s:Shared} {all:List (Addr × Obj)} {D':Addr} {o:Obj} {d:Dat} {y:Value} {h':Heap} {tk':Nat} (F:Fr h₀ L h' m) (N:News h₀ L h' ((D',o) :: all)) (h1:∀ q ∈ all,q.1 ≠ D') (hd:DatIn [(D',o)] y d):TEndD h₀ L m s all d y { s with heap := h',toks := tk' } :=
  ⟨h',tk',[(D',o)],rfl,F,N,fresh_cons h1 fresh_nil,hd⟩
noncomputable def rowAt (one other:Str) (i:Nat):Dat := rowDat (1 + (i:Int)) (colOf (1 + (i:Int)) (KStt.codes one)) (colOf (1 + (i:Int)) (KStt.codes other))
inductive RowsIn (one other:Str) (tl:List (Addr × Obj)) (r:Value):Prop
  | con (M:Nat)
      (q1:MaxRun (tx one ++ 9 :: tx other) M)
      (q2:M ≤ 41)
      (q3:DatIn tl r (.list ((List.range (1 + M)).map (rowAt one other)))):RowsIn one other tl r
theorem rows_out {one other:Str} {M:Int} {k:Str} {D:Addr} {ys:List Value} {tl:List (Addr × Obj)} (hk:k ∈ Txt.split (one ++ Str.ofString "\t" ++ other) (Str.ofString "\t")) (hM:(k.length:Int) = M) (hl:k.length ≤ 41)
    (h2:∀ a ∈ (Txt.split (one ++ Str.ofString "\t" ++ other) (Str.ofString "\t")).map (fun k=>(k.length:Int)),a ≤ M) (hd:DatAll tl ys ((List.range (1 + M + 1 - 1).toNat).map (rowAt one other))):RowsIn one other ((D,LCg.lst ys) :: tl) (.ref D) := by
  refine ⟨k.length,split_runs ⟨k,hk,rfl⟩ (fun k' hk'=>?_),hl,.list (vs := ys) (n := ys.length) (List.Mem.head _) ?_⟩
  · have := h2 _ (List.mem_map.mpr ⟨k',hk',rfl⟩);exact bC (fk21 (Z0 V0 V2 (Z3 V1 V2 (Z10 V0 V1 Lf))) rfl this hM)
  · have e:(1 + M + 1 - 1).toNat = 1 + k.length := by exact Nat.le_antisymm (bC (fk21 (Z3 V0 V2 (Z2 V1 (Ls (La (La K1 V2) K1) K1) (Z10 V1 (La K1 V0) Lf))) rfl hM (tC (bC (fk11 (Z2 V0 V1 (Z12 V0 (Z4 K0 (Ls (La (La K1 V1) K1) K1) Lf))) rfl hM trivial))))) (bC (fk21 (Z2 V0 V2 (Z3 V1 (Ls (La (La K1 V2) K1) K1) (Z10 (La K1 V0) V1 Lf))) rfl hM (tC (bC (fk11 (Z2 V0 V1 (Z12 V0 (Z4 K0 (Ls (La (La K1 V1) K1) K1) Lf))) rfl hM trivial)))))
    rw [e] at hd
    exact hd.mono fun p hp=>List.mem_cons_of_mem _ hp
theorem strs_at {vs:List Value} {ts:List Str} (h:StrsAre vs ts) {i:Nat} {v:Value} (hv:vs[i]? = some v):∃ (k:Str) (t:Tok),ts[i]? = some k ∧ v = .str k t := by
  have hlt:i < ts.length := by rw [← h.length];exact (List.getElem?_eq_some_iff.mp hv).1
  obtain ⟨t,ht⟩ := h.get i ts[i] (List.getElem?_eq_getElem hlt)
  rw [hv] at ht
  exact ⟨ts[i],t,List.getElem?_eq_getElem hlt,Option.some.inj ht⟩
example:True := by
  k_with "eval ListComp" => (k_here;k_dflt (refine LCg.ListComp_U (F₀ := by k_asm) (by with_unfolding_all rfl) (by decide) (by rfl) (by decide) (by rfl) ?_))
  trivial
theorem rows_tells {w:World} {mean:ExcName→Option Value} {mg mb:Str→Option Value} {news:List (Addr × Obj)} {one other:Str} {t1 t2:Tok} (h1:one.length ≤ 20) (h2:other.length ≤ 20) :
    CtrO w mean mg mb 171 2 [.str one t1,.str other t2] news (fun tl r=>RowsIn one other tl r) := by
  have ht1:(Str.ofString "\t").length = 1 := by decide
  intros _ w mean mg mb news one other t1 t2 _ h1 h2 ht1
  have kMk:KstMark := kstMark
  k_with "CompSrc" => k_dflt (
    rename List.map _ _ = Txt.split _ _=>hsp
    rename StrsAre _ _=>hst
    rename ∀ a ∈ _,Str.length a ≤ _=>hle
    rw [hsp] at hst hle
    have hs1 := split_ne one other
    refine LCg.CompSrc.ledger (by rfl) (by k_asm) (by k_asm) (by k_mem) (by size_fits) ?_
    intro g'
    refine lc_rest (fun i y=>∃ (k:Int) (t:Tok),((Txt.split (one ++ Str.ofString "\t" ++ other) (Str.ofString "\t")).map fun k=>(k.length:Int))[i]? = some k ∧ y = Value.int k t) (by exact Or.inr ⟨_,by k_mem,rfl,_,rfl⟩) ?_ ?_
    intro i v I oI C oC D m₂ ys h tk E' hi' hv hC hx F' N' off ne
    obtain ⟨k9,t9,hk9,hv9⟩ := strs_at hst (by simpa using hv)
    subst hv9
    have hk7 := hle k9 (List.mem_of_getElem? hk9)
    rw [Str.length_append,Str.length_append,ht1] at hk7
    have hk6:k9.length ≤ 41 := by exact (nUp (Nat.le_trans hk7 (Nat.add_le_add (Nat.add_le_add h1 nLit) h2)) rfl)
    rotate_left
    intro ys hy1 hy2
    have hi9 := ints_by (by simpa [hst.length] using hy1) hy2
    have hn9:0 < ((Txt.split (one ++ Str.ofString "\t" ++ other) (Str.ofString "\t")).map fun k=>(k.length:Int)).length := by rw [List.length_map];exact (nDnLt hs1 rfl)
    rotate_right)
  k_with "CompSrc" => k_dflt (
    rename _ ∈ List.map _ _=>hM1
    rename ∀ a ∈ List.map _ _,a ≤ _=>hM2
    obtain ⟨k8,hk8,hM3⟩ := List.mem_map.mp hM1
    have hle8 := hle k8 hk8
    rw [Str.length_append,Str.length_append,ht1] at hle8
    refine LCg.CompSrc.range (by rfl) (by k_asm) (by k_asm) (by assumption) (by exact small_one (by exact (by decide)) (by exact (by decide)) (by exact (iDn (Int.add_le_add (Int.add_le_add iLit (Int.le_trans iCast0 (Int.le_of_eq hM3))) iLit) rfl)) (bC (fk31 (Z6 V0 (La (La V1 K1) V2) (Z3 V0 V3 (Z6 V2 (Lk 20) (Z6 V1 (Lk 20) (Z5 (La (La K1 V3) K1) (Lk 4611686018427387904) Lf))))) rfl hle8 hM3 h2 h1))) (by exact rangeSize_nat _ _) (by rw [PySem.sizeLine_eq];exact bC (fk41 (Z6 V0 (La (La V1 K1) V2) (Z3 V0 V4 (Z6 V2 (Lk 20) (Z6 V1 (Lk 20) (Z2 V3 (Ls (La (La K1 V4) K1) K1) (Z10 V3 (Lk 16777216) Lf)))))) rfl hle8 hM3 h2 h1 (tC (bC (fk11 (Z2 V0 V1 (Z12 V0 (Z4 K0 (Ls (La (La K1 V1) K1) K1) Lf))) rfl hM3 trivial))))) ?_
    intro g'
    refine lc_data (rowAt one other) (fun _=>by exact True.intro) ?_ ?_
    intro i v I oI C oC D m₂ ys tl9 h tk E' hi' hv hd9 hC hx F' N' off ne
    obtain ⟨t',hv'⟩ := hv
    subst hv'
    rotate_left
    intro ys tl9 hd9 hf9
    rotate_right)
  k_steps
  · refine TEnd.intro (by k_asm) (by k_asm) ⟨_,_,?_,rfl⟩
    rw [List.getElem?_map,hk9];rfl
  · exact TEndD.one (by k_asm) (by k_asm) (by k_all) (.tuple (vs := [_,_,_]) (n := 0) (List.Mem.head _) (.cons (.int _ _) (.cons (.int _ _) (.cons (.int _ _) .nil))))
  · rename LCg.Off1 _ (_ ++ _)=>o9
    exact hret _ ((_,LCg.lst _) :: tl9) _ _ (rows_out hk8 hM3 (by exact (nUp (Nat.le_trans hle8 (Nat.add_le_add (Nat.add_le_add h1 nLit) h2)) rfl)) hM2 hd9) (fresh_cons (fun q hq=>off1_mem o9 q (by simp [hq])) (hf9.sub (by intro q hq;simp [hq]))) (by k_asm) (cb_drop (by assumption) (by intro p hp;simp only [List.cons_append,List.mem_cons,List.mem_append] at hp ⊢;rcases hp with h | h | h <;> simp [h]))
end
section
example:True := by
  w_top off
  k_with_none
  k_with "a" => with_reducible assumption
  k_with "sh" => first | exact sh1 (by k_extra "a") rfl | exact sh2 (by k_extra "a") rfl | exact sh3 (by k_extra "a") rfl | exact sh4 (by k_extra "a") rfl | exact sl1 (by k_extra "a") rfl | exact sl2 (by k_extra "a") rfl | exact sl3 (by k_extra "a") rfl | omega
  k_with "omega" => first | k_extra "a" | decide | exact Int.not_le.mp (by k_extra "a") | exact Int.not_lt.mp (by k_extra "a") | exact nUp (by k_extra "a") rfl | exact iDn (by k_extra "a") rfl | exact iUp (by k_extra "a") rfl | exact iUpLt (by k_extra "a") rfl | exact iDn (Int.add_le_add iLit iCast0) rfl | exact iDn iCast0 rfl | exact nUpLt (Nat.add_le_add (by k_extra "a") (Nat.le_refl _)) rfl | exact Nat.ne_of_lt (Nat.lt_succ_self _) | exact Ne.symm (Nat.ne_of_lt (Nat.lt_succ_self _)) | exact Nat.ne_of_lt (by k_extra "a") | exact Ne.symm (Nat.ne_of_lt (by k_extra "a")) | exact Ne.symm (Int.ne_of_lt (by k_extra "a")) | exact Int.not_le.mpr (iUpLt (iCast (by k_extra "a")) rfl) | lia
  k_with "my news" => first | k_asm | (refine cb_drop (by assumption) (by (intro p9 hp9;kst_mem)))
  k_with "ctr K" => first | exact rfl | assumption
  k_with "ctr D" => ((try simp only [depth_under_make,depth_under_kw,depth_in1,depth_deeper,depth_caller]);(try dsimp only [ktrTop]);k_extra "sh")
  k_with "ctr U" => ((try simp only [units_in1,units_deeper,Around.mark_units,units_caller]);(try dsimp only [ktrTop]);k_extra "sh")
  k_with "nmx" => (with_reducible show wpAny _ _ (eval _ (envX _ _ _ _ _ _)) _ _ _)
  k_with "^eval Name" => (k_here;k_extra "nmx";name_kind "globalImplicit";name_is_builtin;k_dflt (refine nameX_B (by k_asm) (by k_asm) (by k_asm) (by k_is) (by boot_fast) (by decide) ?_ (by rfl) (by kernel_rfl!));k_whole)
  k_with "^eval Name" => (k_here;k_extra "nmx";name_kind "globalImplicit";k_dflt (refine nameX_K (by k_asm) (by k_asm) (by k_asm) (by k_is) ?_ (by rfl) (by kernel_rfl!));k_whole)
  k_with "^eval Name" => (k_here;k_extra "nmx";name_kind "local";k_dflt (refine nmL (by rfl) (by rfl) (by k_asm) (by exact rfl) ?_);k_whole)
  k_with "call type:range" => ((rename Fr _ _ _ _=>f9);(rename News _ _ _ _=>n9);k_dflt (first | refine range1_rows f9 n9 ?_ | refine range2_rows f9 n9 ?_);intro _ _ _ _ _ _ _ _ _)
  k_with "call builtin:len" => ((with_reducible show wpAny _ _ (call (Value.builtin "len") [Value.str _ _]) _ _ _);refine SBL.len (by omega) ?_)
  k_with "ws here" => first | k_extra "a" | exact WsIn.mono (by k_extra "a") (by intro p hp;kst_mem)
  k_with "ctr back" => (intro r9 h9 tk9 hr9 F9 N9;obtain ⟨t9,hr9⟩ := hr9;subst hr9;(try dsimp only);(try k_fold))
  trivial
noncomputable def cpre:List Nat→List Nat→Nat
  | x :: a,y :: b=>if x = y then cpre a b + 1 else 0
  | _,_=>0
theorem cpre_le:∀ (a b:List Nat),cpre a b ≤ a.length ∧ cpre a b ≤ b.length
  | [],_=>by simp [cpre]
  | _ :: _,[]=>by simp [cpre]
  | x :: a,y :: b=>by
    have := cpre_le a b
    simp only [cpre,List.length_cons]
    split <;> (first | exact ⟨(Nat.succ_le_of_lt (Nat.lt_succ_of_le this.1)),(Nat.succ_le_of_lt (Nat.lt_succ_of_le this.2))⟩ | exact ⟨(nDn (Nat.add_le_add (Nat.zero_le _) nLit) rfl),(nDn (Nat.add_le_add (Nat.zero_le _) nLit) rfl)⟩)
theorem cpre_more:∀ {a b:List Nat} {k x:Nat},k ≤ cpre a b→a[k]? = some x→b[k]? = some x→k + 1 ≤ cpre a b
  | [],_,_,_,_,h,_=>by simp at h
  | _ :: _,[],_,_,_,_,h=>by simp at h
  | x :: a,y :: b,0,z,_,h,h'=>by
    simp at h h';subst h;subst h'
    simp [cpre]
  | x :: a,y :: b,k + 1,z,h,h1,h2=>by
    simp only [cpre] at h ⊢
    split
    · rename_i e
      rw [if_pos e] at h
      have := cpre_more (a := a) (b := b) (k := k) (x := z) (bC (fk20 (Z6 (La V0 K1) (La V1 K1) (Z10 V0 V1 Lf)) rfl h)) (by simpa using h1) (by simpa using h2)
      exact (Nat.succ_le_of_lt (Nat.lt_succ_of_le this))
    · rename_i e
      rw [if_neg e] at h
      exact bC (fk10 (Z6 (La V0 K1) K0 (Z12 V0 (Lh 10 0 (La (La V0 K1) K1) K0 Lf))) rfl h trivial)
theorem cpre_at:∀ {a b:List Nat} {k:Nat},k < cpre a b→∃ x,a[k]? = some x ∧ b[k]? = some x
  | [],_,_,h=>by simp [cpre] at h
  | _ :: _,[],_,h=>by simp [cpre] at h
  | x :: a,y :: b,0,h=>by
    simp only [cpre] at h
    split at h
    · rename_i e;exact ⟨x,rfl,by rw [e];rfl⟩
    · lia
  | x :: a,y :: b,k + 1,h=>by
    simp only [cpre] at h
    split at h
    · obtain ⟨z,h1,h2⟩ := cpre_at (a := a) (b := b) (k := k) (bC (fk20 (Z7 (La V0 K1) (La V1 K1) (Z11 V0 V1 Lf)) rfl h))
      exact ⟨z,by simpa using h1,by simpa using h2⟩
    · lia
theorem cpre_stop {a b:List Nat} {k:Nat} (h:k ≤ cpre a b) (hs:∀ x,a[k]? = some x→b[k]? = some x→False):k = cpre a b := by
  rcases Nat.lt_or_ge k (cpre a b) with h1 | h1
  · obtain ⟨x,h2,h3⟩ := cpre_at h1
    exact (hs x h2 h3).elim
  · exact (Nat.le_antisymm h h1)
noncomputable def csuf (a b:List Nat):Nat := cpre a.reverse b.reverse
theorem csuf_le (a b:List Nat):csuf a b ≤ a.length ∧ csuf a b ≤ b.length := by
  have := cpre_le a.reverse b.reverse
  simpa [csuf] using this
section
variable {x y:Str} {k:Int}
theorem len0 {z:Str} (h:(((z.length:Nat):Int) != 0) = false):tx z = [] := by
  have:z.length = 0 := by simpa using h
  exact List.eq_nil_of_length_eq_zero (by rw [tx_len];exact this)
theorem len1 {z:Str} (h:(((z.length:Nat):Int) != 0) = true):0 < z.length := by
  have:z.length ≠ 0 := by simpa using h
  lia
theorem pre_stop1 (p:0 ≤ k ∧ k ≤ cpre (tx x) (tx y)) (h:(((Txt.slice x (some k) none).length:Int) != 0) = false):k = cpre (tx x) (tx y) := by
  have hc := cpre_le (tx x) (tx y)
  have := len0 h
  rw [tx_slice_from p.1 (by rw [← tx_len];exact (Int.le_trans p.2 (iCast hc.1)))] at this
  have h2 := List.drop_eq_nil_iff.mp this
  exact Int.le_antisymm (bC (fk11 (Z0 V1 V0 (Z4 V1 V0 Lf)) rfl p.2)) (bC (fk31 (Z6 V0 V1 (Z6 V2 V0 (Z2 V1 V3 (Z4 V2 V3 Lf)))) rfl h2 hc.1 (tC (bC (fk01 (Z0 K0 V0 (Z4 K0 V0 Lf)) rfl p.1)))))
theorem pre_stop2 (p:0 ≤ k ∧ k ≤ cpre (tx x) (tx y)) (h:(((Txt.slice y (some k) none).length:Int) != 0) = false):k = cpre (tx x) (tx y) := by
  have hc := cpre_le (tx x) (tx y)
  have := len0 h
  rw [tx_slice_from p.1 (by rw [← tx_len];exact (Int.le_trans p.2 (iCast hc.2)))] at this
  have h2 := List.drop_eq_nil_iff.mp this
  exact Int.le_antisymm (bC (fk11 (Z0 V1 V0 (Z4 V1 V0 Lf)) rfl p.2)) (bC (fk31 (Z6 V0 V1 (Z6 V2 V0 (Z2 V1 V3 (Z4 V2 V3 Lf)))) rfl h2 hc.2 (tC (bC (fk01 (Z0 K0 V0 (Z4 K0 V0 Lf)) rfl p.1)))))
theorem pre_in (p:0 ≤ k ∧ k ≤ cpre (tx x) (tx y)) (h:(((Txt.slice x (some k) none).length:Int) != 0) = true):k < x.length := by
  have hc := cpre_le (tx x) (tx y)
  have := len1 h
  rw [← tx_len,tx_slice_from p.1 (by rw [← tx_len];exact (Int.le_trans p.2 (iCast hc.1))),List.length_drop] at this
  rw [← tx_len];exact (Int.toNat_lt p.1).mp (Nat.lt_of_sub_pos this)
theorem pre_in2 (p:0 ≤ k ∧ k ≤ cpre (tx x) (tx y)) (h:(((Txt.slice y (some k) none).length:Int) != 0) = true):k < y.length := by
  have hc := cpre_le (tx x) (tx y)
  have := len1 h
  rw [← tx_len,tx_slice_from p.1 (by rw [← tx_len];exact (Int.le_trans p.2 (iCast hc.2))),List.length_drop] at this
  rw [← tx_len];exact (Int.toNat_lt p.1).mp (Nat.lt_of_sub_pos this)
theorem pre_stop3 (p:0 ≤ k ∧ k ≤ cpre (tx x) (tx y)) (h1:k < x.length) (h2:k < y.length) (h:(Txt.item x k == Txt.item y k) = false):k = cpre (tx x) (tx y) := by
  obtain ⟨c,hc,ec⟩ := tx_item p.1 h1
  obtain ⟨d,hd,ed⟩ := tx_item p.1 h2
  have:k.toNat = cpre (tx x) (tx y) := cpre_stop (bC (fk21 (Z0 V2 V0 (Z2 V1 V2 (Z10 V1 V0 Lf))) rfl p.2 (tC (bC (fk01 (Z0 K0 V0 (Z4 K0 V0 Lf)) rfl p.1))))) fun z q1 q2=>by
    rw [hc] at q1;rw [hd] at q2
    cases q1;cases q2
    rw [ec,ed] at h
    simp at h
  exact Int.le_antisymm (bC (fk11 (Z0 V1 V0 (Z4 V1 V0 Lf)) rfl p.2)) (bC (fk21 (Z9 V0 V1 (Z2 V0 V2 (Z4 V1 V2 Lf))) rfl this (tC (bC (fk01 (Z0 K0 V0 (Z4 K0 V0 Lf)) rfl p.1)))))
theorem pre_go (p:0 ≤ k ∧ k ≤ cpre (tx x) (tx y)) (h1:k < x.length) (h2:k < y.length) (h:(Txt.item x k == Txt.item y k) = true):k + 1 ≤ cpre (tx x) (tx y) := by
  obtain ⟨c,hc,ec⟩ := tx_item p.1 h1
  obtain ⟨d,hd,ed⟩ := tx_item p.1 h2
  have e:Txt.item x k = Txt.item y k := beq_iff_eq.mp h
  rw [ec,ed] at e
  have e2:c = d := by injection e with e;simpa using e
  have := cpre_more (k := k.toNat) (bC (fk21 (Z0 V2 V0 (Z2 V1 V2 (Z10 V1 V0 Lf))) rfl p.2 (tC (bC (fk01 (Z0 K0 V0 (Z4 K0 V0 Lf)) rfl p.1))))) hc (e2 ▸ hd)
  exact bC (fk21 (Z6 (La V0 K1) V1 (Z3 V0 V2 (Z4 (La V2 K1) V1 Lf))) rfl this (tC (bC (fk01 (Z0 K0 V0 (Z4 K0 V0 Lf)) rfl p.1))))
end
noncomputable def orV (k:Int) (t:Tok):Value := if k = 0 then .none else .int k t
noncomputable def cutS (x:Str) (k:Int):Str := if k = 0 then Txt.slice x none none else Txt.slice x none (some k)
theorem cutS_len (x:Str) (k:Int):(cutS x k).length ≤ x.length := by
  unfold cutS
  split <;> exact PyProof.Txt.length_slice_le x _ _
theorem slice_all (x:Str):Txt.slice x none none = x := by
  apply tx_inj
  have e:Txt.slice x none none = Txt.slice x none (some (x.length:Int)) := by
    show StrLaws.sliceText x none none = StrLaws.sliceText x none (some (x.length:Int))
    unfold StrLaws.sliceText
    rw [StrLaws.sliceIdx_none_hi]
  rw [e,tx_slice_to (by exact (iDn iCast0 rfl)) (by exact (Int.le_refl _)),← tx_len]
  exact List.take_length
theorem tx_cutS {x:Str} {k:Int} (h0:k ≤ 0) (h1:-(x.length:Int) ≤ k):tx (cutS x k) = (tx x).take (x.length - k.natAbs) := by
  unfold cutS
  split
  · rename_i e
    subst e
    rw [slice_all]
    show tx x = List.take (x.length - 0) (tx x)
    rw [Nat.sub_zero,← tx_len,List.take_length]
  · rename_i e
    rw [beq_iff_eq.mp (slice_closes_to_neg (x := x) (j := k) (k := k + x.length) (by lia) h1 rfl)]
    show List.take _ (List.drop (0:Int).toNat (tx x)) = _
    rw [show (0:Int).toNat = 0 from rfl,List.drop_zero]
    congr 1
    lia
theorem tx_item_neg {x:Str} {i:Int} (h0:i < 0) (h1:-(x.length:Int) ≤ i):∃ c,(tx x)[(i + x.length).toNat]? = some c ∧ Txt.item x i = ⟨#[c]⟩ :=
  ⟨x.cps.getD (i + x.length).toNat 0,by unfold tx;rw [Array.getElem?_toList];exact at_getD ⟨by exact bC (fk11 (Z0 (Lg V0) V1 (Z4 K0 (La V1 V0) Lf)) rfl h1),by exact bC (fk11 (Z1 V1 K0 (Z5 (La V1 V0) V0 Lf)) rfl h0)⟩,beq_iff_eq.mp (item_closes_neg h0 h1 rfl)⟩
section
variable {x y:Str} {k:Int}
theorem suf_stop1 (p:k ≤ 0 ∧ -k ≤ csuf (tx x) (tx y)) (h:(((cutS x k).length:Int) != 0) = false):-k = csuf (tx x) (tx y) := by
  have hc := csuf_le (tx x) (tx y)
  rw [tx_len,tx_len] at hc
  have h1 := congrArg List.length (len0 h)
  rw [tx_cutS p.1 (bC (fk21 (Z6 V0 V1 (Z0 (Lg V2) V0 (Z4 (Lg V1) V2 Lf))) rfl hc.1 p.2)),List.length_take,List.length_nil,tx_len] at h1
  exact Int.le_antisymm p.2 (Int.ofNat_natAbs_of_nonpos p.1 ▸ iCast (Nat.le_trans hc.1 (Nat.le_of_sub_eq_zero (Nat.min_eq_left (Nat.sub_le _ _) ▸ h1))))
theorem suf_stop2 (p:k ≤ 0 ∧ -k ≤ csuf (tx x) (tx y)) (h:(((cutS y k).length:Int) != 0) = false):-k = csuf (tx x) (tx y) := by
  have hc := csuf_le (tx x) (tx y)
  rw [tx_len,tx_len] at hc
  have h1 := congrArg List.length (len0 h)
  rw [tx_cutS p.1 (bC (fk21 (Z6 V0 V1 (Z0 (Lg V2) V0 (Z4 (Lg V1) V2 Lf))) rfl hc.2 p.2)),List.length_take,List.length_nil,tx_len] at h1
  exact Int.le_antisymm p.2 (Int.ofNat_natAbs_of_nonpos p.1 ▸ iCast (Nat.le_trans hc.2 (Nat.le_of_sub_eq_zero (Nat.min_eq_left (Nat.sub_le _ _) ▸ h1))))
theorem suf_in (p:k ≤ 0 ∧ -k ≤ csuf (tx x) (tx y)) (h:(((cutS x k).length:Int) != 0) = true):-(x.length:Int) ≤ k - 1 := by
  have hc := csuf_le (tx x) (tx y)
  rw [tx_len,tx_len] at hc
  have h1 := len1 h
  rw [← tx_len,tx_cutS p.1 (bC (fk21 (Z6 V0 V1 (Z0 (Lg V2) V0 (Z4 (Lg V1) V2 Lf))) rfl hc.1 p.2)),List.length_take,tx_len] at h1
  exact bC (fk21 (Z7 V0 V1 (Z3 V0 (Lg V2) (Z4 (Lg V1) (Ls V2 K1) Lf))) rfl (Nat.lt_of_sub_pos (Nat.lt_of_lt_of_le h1 (Nat.min_le_left _ _))) (Int.ofNat_natAbs_of_nonpos p.1))
theorem suf_in2 (p:k ≤ 0 ∧ -k ≤ csuf (tx x) (tx y)) (h:(((cutS y k).length:Int) != 0) = true):-(y.length:Int) ≤ k - 1 := by
  have hc := csuf_le (tx x) (tx y)
  rw [tx_len,tx_len] at hc
  have h1 := len1 h
  rw [← tx_len,tx_cutS p.1 (bC (fk21 (Z6 V0 V1 (Z0 (Lg V2) V0 (Z4 (Lg V1) V2 Lf))) rfl hc.2 p.2)),List.length_take,tx_len] at h1
  exact bC (fk21 (Z7 V0 V1 (Z3 V0 (Lg V2) (Z4 (Lg V1) (Ls V2 K1) Lf))) rfl (Nat.lt_of_sub_pos (Nat.lt_of_lt_of_le h1 (Nat.min_le_left _ _))) (Int.ofNat_natAbs_of_nonpos p.1))
theorem rev_at {l:List Nat} {k:Int} (h0:k ≤ 0) (h1:-(l.length:Int) ≤ k - 1):l.reverse[(-k).toNat]? = l[(k - 1 + l.length).toNat]? := by
  rw [List.getElem?_reverse (by exact bC (fk21 (Z0 (Lg V0) (Ls V2 K1) (Z2 V1 (Lg V2) (Z11 V1 V0 Lf))) rfl h1 (tC (bC (fk01 (Z0 V0 K0 (Z4 K0 (Lg V0) Lf)) rfl h0)))))]
  congr 1
  rw [Nat.sub_sub,show k - 1 + (l.length:Int) = (l.length:Int) - ((1 + (-k).toNat:Nat):Int) by
    have hk := tC (Int.neg_nonneg_of_nonpos h0)
    rw [Int.natCast_add,hk]
    exact Int.le_antisymm (bC (fk11 (Z4 (La (Ls V1 K1) V0) (Ls V0 (La K1 (Lg V1))) Lf) rfl)) (bC (fk11 (Z4 (Ls V0 (La K1 (Lg V1))) (La (Ls V1 K1) V0) Lf) rfl))]
  exact (Int.toNat_sub _ _).symm
theorem suf_stop3 (p:k ≤ 0 ∧ -k ≤ csuf (tx x) (tx y)) (h1:-(x.length:Int) ≤ k - 1) (h2:-(y.length:Int) ≤ k - 1) (h:(Txt.item x (k - 1) == Txt.item y (k - 1)) = false):-k = csuf (tx x) (tx y) := by
  obtain ⟨c,hc,ec⟩ := tx_item_neg (by exact (iUpLt (Int.sub_le_sub p.1 iLit) rfl)) h1
  obtain ⟨d,hd,ed⟩ := tx_item_neg (by exact (iUpLt (Int.sub_le_sub p.1 iLit) rfl)) h2
  have:(-k).toNat = csuf (tx x) (tx y) := cpre_stop (by unfold csuf at p;exact bC (fk21 (Z0 (Lg V2) V0 (Z2 V1 (Lg V2) (Z10 V1 V0 Lf))) rfl p.2 (tC (bC (fk01 (Z0 V0 K0 (Z4 K0 (Lg V0) Lf)) rfl p.1))))) fun z q1 q2=>by
    rw [rev_at p.1 (by rw [tx_len];exact h1),tx_len,hc] at q1;rw [rev_at p.1 (by rw [tx_len];exact h2),tx_len,hd] at q2
    cases q1;cases q2
    rw [ec,ed] at h
    simp at h
  exact Int.le_antisymm (bC (fk11 (Z0 (Lg V1) V0 (Z4 (Lg V1) V0 Lf)) rfl p.2)) (bC (fk21 (Z9 V0 V1 (Z2 V0 (Lg V2) (Z4 V1 (Lg V2) Lf))) rfl this (tC (bC (fk01 (Z0 V0 K0 (Z4 K0 (Lg V0) Lf)) rfl p.1)))))
theorem suf_go (p:k ≤ 0 ∧ -k ≤ csuf (tx x) (tx y)) (h1:-(x.length:Int) ≤ k - 1) (h2:-(y.length:Int) ≤ k - 1) (h:(Txt.item x (k - 1) == Txt.item y (k - 1)) = true):-(k - 1) ≤ csuf (tx x) (tx y) := by
  obtain ⟨c,hc,ec⟩ := tx_item_neg (by exact (iUpLt (Int.sub_le_sub p.1 iLit) rfl)) h1
  obtain ⟨d,hd,ed⟩ := tx_item_neg (by exact (iUpLt (Int.sub_le_sub p.1 iLit) rfl)) h2
  have e:Txt.item x (k - 1) = Txt.item y (k - 1) := beq_iff_eq.mp h
  rw [ec,ed] at e
  have e2:c = d := by injection e with e;simpa using e
  have := cpre_more (a := (tx x).reverse) (b := (tx y).reverse) (k := (-k).toNat) (x := c) (by unfold csuf at p;exact bC (fk21 (Z0 (Lg V2) V0 (Z2 V1 (Lg V2) (Z10 V1 V0 Lf))) rfl p.2 (tC (bC (fk01 (Z0 V0 K0 (Z4 K0 (Lg V0) Lf)) rfl p.1))))) (by rw [rev_at p.1 (by rw [tx_len];exact h1),tx_len];exact hc) (by rw [rev_at p.1 (by rw [tx_len];exact h2),tx_len,e2];exact hd)
  unfold csuf
  exact bC (fk21 (Z6 (La V0 K1) V1 (Z3 V0 (Lg V2) (Z4 (Lg (Ls V2 K1)) V1 Lf))) rfl this (tC (bC (fk01 (Z0 V0 K0 (Z4 K0 (Lg V0) Lf)) rfl p.1))))
end
theorem pre_cut1 (x y:Str):tx (Txt.slice x (some (cpre (tx x) (tx y):Int)) none) = (tx x).drop (cpre (tx x) (tx y)) := by
  have := cpre_le (tx x) (tx y)
  rw [tx_len,tx_len] at this
  rw [tx_slice_from (by exact (iDn iCast0 rfl)) (by exact (iCast this.1))]
  rfl
theorem pre_cut2 (x y:Str):tx (Txt.slice y (some (cpre (tx x) (tx y):Int)) none) = (tx y).drop (cpre (tx x) (tx y)) := by
  have := cpre_le (tx x) (tx y)
  rw [tx_len,tx_len] at this
  rw [tx_slice_from (by exact (iDn iCast0 rfl)) (by exact (iCast this.2))]
  rfl
theorem suf_cut1 (x y:Str):tx (cutS x (-(csuf (tx x) (tx y):Int))) = (tx x).take ((tx x).length - csuf (tx x) (tx y)) := by
  have := csuf_le (tx x) (tx y)
  rw [tx_len,tx_len] at this
  rw [tx_cutS (by exact (iUp (Int.neg_le_neg iCast0) rfl)) (by exact bC (fk20 (Z6 V0 V1 (Z4 (Lg V1) (Lg V0) Lf)) rfl this.1)),tx_len]
  congr 1
  rw [Int.natAbs_neg,Int.natAbs_natCast]
theorem suf_cut2 (x y:Str):tx (cutS y (-(csuf (tx x) (tx y):Int))) = (tx y).take ((tx y).length - csuf (tx x) (tx y)) := by
  have := csuf_le (tx x) (tx y)
  rw [tx_len,tx_len] at this
  rw [tx_cutS (by exact (iUp (Int.neg_le_neg iCast0) rfl)) (by exact bC (fk20 (Z6 V0 V1 (Z4 (Lg V1) (Lg V0) Lf)) rfl this.2)),tx_len]
  congr 1
  rw [Int.natAbs_neg,Int.natAbs_natCast]
theorem pre_0 (a b:List Nat):(0:Int) ≤ 0 ∧ (0:Int) ≤ cpre a b := ⟨Int.le_refl _,Int.natCast_nonneg _⟩
theorem suf_0 (a b:List Nat):(0:Int) ≤ 0 ∧ (-0:Int) ≤ csuf a b := ⟨Int.le_refl _,Int.natCast_nonneg _⟩
section
variable {x y z z':Str} {k:Int}
theorem ne1 {n:Int} (h:n ≠ 0):(n != 0) = true := by simpa using h
theorem eq1 {n:Int} (h:n = 0):(n != 0) = false := by simpa using h
theorem pre_in' (p:0 ≤ k ∧ k ≤ cpre (tx x) (tx y)) (hz:z = Txt.slice x (some k) none) (h:(z.length:Int) ≠ 0):k < x.length := pre_in p (hz ▸ ne1 h)
theorem pre_in2' (p:0 ≤ k ∧ k ≤ cpre (tx x) (tx y)) (hz:z = Txt.slice y (some k) none) (h:(z.length:Int) ≠ 0):k < y.length := pre_in2 p (hz ▸ ne1 h)
theorem pre_no1 (p:0 ≤ k ∧ k ≤ cpre (tx x) (tx y)) (hz:z = Txt.slice x (some k) none) (h:(z.length:Int) = 0):k = cpre (tx x) (tx y) := pre_stop1 p (hz ▸ eq1 h)
theorem pre_no2 (p:0 ≤ k ∧ k ≤ cpre (tx x) (tx y)) (hz:z = Txt.slice y (some k) none) (h:(z.length:Int) = 0):k = cpre (tx x) (tx y) := pre_stop2 p (hz ▸ eq1 h)
theorem pre_no3 (p:0 ≤ k ∧ k ≤ cpre (tx x) (tx y)) (hz:z = Txt.slice x (some k) none) (h:(z.length:Int) ≠ 0) (hz':z' = Txt.slice y (some k) none) (h':(z'.length:Int) ≠ 0) (e:(Txt.item x k == Txt.item y k) = false):k = cpre (tx x) (tx y) := pre_stop3 p (pre_in' p hz h) (pre_in2' p hz' h') e
theorem pre_yes (p:0 ≤ k ∧ k ≤ cpre (tx x) (tx y)) (hz:z = Txt.slice x (some k) none) (h:(z.length:Int) ≠ 0) (hz':z' = Txt.slice y (some k) none) (h':(z'.length:Int) ≠ 0) (e:(Txt.item x k == Txt.item y k) = true):k + 1 ≤ cpre (tx x) (tx y) := pre_go p (pre_in' p hz h) (pre_in2' p hz' h') e
theorem suf_in' (p:k ≤ 0 ∧ -k ≤ csuf (tx x) (tx y)) (hz:z = cutS x k) (h:(z.length:Int) ≠ 0):-(x.length:Int) ≤ k - 1 := suf_in p (hz ▸ ne1 h)
theorem suf_in2' (p:k ≤ 0 ∧ -k ≤ csuf (tx x) (tx y)) (hz:z = cutS y k) (h:(z.length:Int) ≠ 0):-(y.length:Int) ≤ k - 1 := suf_in2 p (hz ▸ ne1 h)
theorem suf_no1 (p:k ≤ 0 ∧ -k ≤ csuf (tx x) (tx y)) (hz:z = cutS x k) (h:(z.length:Int) = 0):-k = csuf (tx x) (tx y) := suf_stop1 p (hz ▸ eq1 h)
theorem suf_no2 (p:k ≤ 0 ∧ -k ≤ csuf (tx x) (tx y)) (hz:z = cutS y k) (h:(z.length:Int) = 0):-k = csuf (tx x) (tx y) := suf_stop2 p (hz ▸ eq1 h)
theorem suf_no3 (p:k ≤ 0 ∧ -k ≤ csuf (tx x) (tx y)) (hz:z = cutS x k) (h:(z.length:Int) ≠ 0) (hz':z' = cutS y k) (h':(z'.length:Int) ≠ 0) (e:(Txt.item x (k - 1) == Txt.item y (k - 1)) = false):-k = csuf (tx x) (tx y) := suf_stop3 p (suf_in' p hz h) (suf_in2' p hz' h') e
theorem suf_yes (p:k ≤ 0 ∧ -k ≤ csuf (tx x) (tx y)) (hz:z = cutS x k) (h:(z.length:Int) ≠ 0) (hz':z' = cutS y k) (h':(z'.length:Int) ≠ 0) (e:(Txt.item x (k - 1) == Txt.item y (k - 1)) = true):-(k - 1) ≤ csuf (tx x) (tx y) := suf_go p (suf_in' p hz h) (suf_in2' p hz' h') e
end
theorem orV_int {k:Int} {t:Tok} (this:k ≠ 0):Value.int k t = orV k t := by
  unfold orV;rw [if_neg this]
theorem orV_none {k:Int} {t:Tok} (this:k = 0):Value.none = orV k t := by
  unfold orV;rw [if_pos this]
noncomputable def inn (bc:Nat) (as:List Nat) (row:List Int) (d0:Int):Nat→Int × Int × Int × List Int
  | 0=>(d0,d0,9223372036854775807,[])
  | i + 1 =>
    let q := inn bc as row d0 i
    let r := min (min q.2.1 (row.getD i 0) + 2) (q.1 + costOf ⟨#[bc]⟩ ⟨#[as.getD i 0]⟩)
    (row.getD i 0,r,if r < q.2.2.1 then r else q.2.2.1,q.2.2.2 ++ [r])
noncomputable def levRun (as:List Nat) (mc:Int):Nat→List Nat→List Int→Int→Int
  | _,[],_,res=>res
  | bi,bc :: bs,row,_ =>
    let q := inn bc as row (2 * (bi:Int)) as.length
    if q.2.2.1 > mc then mc + 1 else levRun as mc (bi + 1) bs q.2.2.2 q.2.1
noncomputable def levTail (a b:List Nat) (mc:Int):Int := if ((b.length:Int) - a.length) * 2 > mc then mc + 1 else levRun a mc 0 b (rangeInts 2 2 a.length) 0
noncomputable def levMid (a b:List Nat) (mc:Int):Int :=
  if a = [] ∨ b = [] then 2 * ((a.length:Int) + b.length)
  else if a.length > 40 ∨ b.length > 40 then mc + 1
  else if b.length < a.length then levTail b a mc else levTail a b mc
noncomputable def levSuf (a b:List Nat) (mc:Int):Int := levMid (a.take (a.length - csuf a b)) (b.take (b.length - csuf a b)) mc
noncomputable def levOf (a b:List Nat) (mc:Int):Int := if a = b then 0 else levSuf (a.drop (cpre a b)) (b.drop (cpre a b)) mc
section
variable {x y z1 z2 z3 z0:Str} {K K' mc:Int}
theorem lev_same (h:(x == y) = true):levOf (tx x) (tx y) mc = 0 := by
  have:x = y := beq_iff_eq.mp h
  unfold levOf
  rw [if_pos (by rw [this])]
theorem lev_mid (h:(x == y) = false) (e1:z2 = Txt.slice x (some K) none) (e2:z3 = Txt.slice y (some K) none) (hK:K = cpre (tx x) (tx y))
    (e3:z1 = cutS z2 K') (e4:z0 = cutS z3 K') (hK':K' = -(csuf (tx z2) (tx z3):Int)):levOf (tx x) (tx y) mc = levMid (tx z1) (tx z0) mc := by
  have hne:tx x ≠ tx y := fun e=>by
    rw [tx_inj e] at h
    simp at h
  unfold levOf levSuf
  rw [if_neg hne,← pre_cut1,← pre_cut2]
  rw [hK] at e1 e2
  rw [← e1,← e2,← suf_cut1,← suf_cut2,← hK',← e3,← e4]
theorem tx_ne (h:(x.length:Int) ≠ 0):tx x ≠ [] := fun e=>h (by rw [← tx_len,e];rfl)
theorem mid_no (h:(z1.length:Int) = 0 ∨ (z0.length:Int) = 0):levMid (tx z1) (tx z0) mc = 2 * ((z1.length:Int) + z0.length) := by
  unfold levMid
  rw [if_pos,tx_len,tx_len]
  rcases h with h | h
  · exact .inl (List.eq_nil_of_length_eq_zero (by rw [tx_len];exact Nat.le_antisymm (bC (fk10 (Z2 V0 K0 (Z10 V0 K0 Lf)) rfl h)) (bC (fk10 (Z12 V0 (Z10 K0 V0 Lf)) rfl trivial))))
  · exact .inr (List.eq_nil_of_length_eq_zero (by rw [tx_len];exact Nat.le_antisymm (bC (fk10 (Z2 V0 K0 (Z10 V0 K0 Lf)) rfl h)) (bC (fk10 (Z12 V0 (Z10 K0 V0 Lf)) rfl trivial))))
theorem mid_40 (h1:(z1.length:Int) ≠ 0) (h2:(z0.length:Int) ≠ 0) (h:(40:Int) < z1.length ∨ (40:Int) < z0.length):levMid (tx z1) (tx z0) mc = mc + 1 := by
  unfold levMid
  rw [if_neg (by rintro (e | e);exact tx_ne h1 e;exact tx_ne h2 e),if_pos]
  rw [tx_len,tx_len]
  lia
theorem mid_tail {C D:Str} (h:(C = z1 ∧ D = z0 ∧ z1.length ≤ z0.length) ∨ (C = z0 ∧ D = z1 ∧ z0.length < z1.length)) (h1:(z1.length:Int) ≠ 0) (h2:(z0.length:Int) ≠ 0) (h3:¬ (40:Int) < z1.length) (h4:¬ (40:Int) < z0.length) :
    levMid (tx z1) (tx z0) mc = levTail (tx C) (tx D) mc := by
  unfold levMid
  rw [if_neg (by rintro (e | e);exact tx_ne h1 e;exact tx_ne h2 e),if_neg (by rw [tx_len,tx_len];omega)]
  rcases h with ⟨rfl,rfl,h⟩ | ⟨rfl,rfl,h⟩
  · rw [if_neg (by rw [tx_len,tx_len];exact (Nat.not_lt_of_le h))]
  · rw [if_pos (by rw [tx_len,tx_len];exact h)]
theorem tail_far (h:mc < ((y.length:Int) - x.length) * 2):levTail (tx x) (tx y) mc = mc + 1 := by
  unfold levTail
  rw [if_pos (by rw [tx_len,tx_len];exact h)]
theorem tail_run (h:¬ mc < ((y.length:Int) - x.length) * 2):levTail (tx x) (tx y) mc = levRun (tx x) mc 0 (tx y) (rangeInts 2 2 x.length) 0 := by
  unfold levTail
  rw [if_neg (by rw [tx_len,tx_len];exact (Int.not_lt.mpr (Int.not_lt.mp h))),tx_len]
end
structure LV where
  vs:List Value
  nn:Nat
  res:Int
  tr:Tok
noncomputable abbrev lvPs (c:LV):List (Str × Value) := [(Str.ofString "result",.int c.res c.tr)]
noncomputable def lvInv (D:Addr) (news:List (Addr × Obj)) (as bs:List Nat) (mc ans:Int) (i:Nat) (c:LV) (nx:List (Addr × Obj)):Prop :=
  nx = (D,listOf c.vs.toArray c.nn) :: news ∧ ∃ row,IntsAre c.vs row ∧ row.length = as.length ∧ (∀ r ∈ row,0 ≤ r ∧ r ≤ 1000) ∧ 0 ≤ c.res ∧ c.res ≤ 1000 ∧ ans = levRun as mc i (bs.drop i) row c.res
noncomputable abbrev lvSt:List Str := [Str.ofString "bchar",Str.ofString "distance",Str.ofString "minimum",Str.ofString "index",Str.ofString "substitute",Str.ofString "insert_delete"]
structure LI where
  vs:List Value
  nn:Nat
  dist:Int
  res:Int
  mn:Int
  t1:Tok
  t2:Tok
  t3:Tok
noncomputable abbrev liPs (c:LI):List (Str × Value) := [(Str.ofString "distance",.int c.dist c.t1),(Str.ofString "result",.int c.res c.t2),(Str.ofString "minimum",.int c.mn c.t3)]
noncomputable def liInv (D:Addr) (news:List (Addr × Obj)) (bc:Nat) (as:List Nat) (row:List Int) (d0:Int) (i:Nat) (c:LI) (nx:List (Addr × Obj)):Prop :=
  nx = (D,listOf c.vs.toArray c.nn) :: news ∧ IntsAre c.vs ((inn bc as row d0 i).2.2.2 ++ row.drop i) ∧ c.dist = (inn bc as row d0 i).1 ∧ c.res = (inn bc as row d0 i).2.1 ∧ c.mn = (inn bc as row d0 i).2.2.1
noncomputable abbrev liSt:List Str := [Str.ofString "substitute",Str.ofString "insert_delete"]
theorem cost_le (a b:Str):0 ≤ costOf a b ∧ costOf a b ≤ 2 := by
  unfold costOf
  split
  · exact ⟨(by decide),(by decide)⟩
  · split <;> exact ⟨(by decide),(by decide)⟩
theorem inn_len (bc:Nat) (as:List Nat) (row:List Int) (d0:Int) (i:Nat):(inn bc as row d0 i).2.2.2.length = i := by
  induction i with
  | zero=>rfl
  | succ i ih=>simp only [inn,List.length_append,ih,List.length_singleton]
theorem getD_le {row:List Int} {k:Nat} (h:∀ r ∈ row,0 ≤ r ∧ r ≤ 1000):0 ≤ row.getD k 0 ∧ row.getD k 0 ≤ 1000 := by
  rw [List.getD_eq_getElem?_getD]
  cases e:row[k]? with
  | none=>simp
  | some v=>simpa using h v (List.mem_of_getElem? e)
theorem inn_ok {bc:Nat} {as:List Nat} {row:List Int} {d0:Int} (h:∀ r ∈ row,0 ≤ r ∧ r ≤ 1000) (h0:0 ≤ d0) (h1:d0 ≤ 500):∀ i,i ≤ 100 →
    (0 ≤ (inn bc as row d0 i).1 ∧ (inn bc as row d0 i).1 ≤ 1000) ∧ (0 ≤ (inn bc as row d0 i).2.1 ∧ (inn bc as row d0 i).2.1 ≤ 500 + 2 * i) ∧ (0 ≤ (inn bc as row d0 i).2.2.1 ∧ (inn bc as row d0 i).2.2.1 ≤ 9223372036854775807) ∧ ∀ r ∈ (inn bc as row d0 i).2.2.2,0 ≤ r ∧ r ≤ 500 + 2 * i := by
  intro i
  induction i with
  | zero=>intro _;simp only [inn];refine ⟨by exact ⟨h0,(iUp h1 rfl)⟩,by exact ⟨h0,(iUp h1 rfl)⟩,by exact ⟨(by decide),(by decide)⟩,by simp⟩
  | succ i ih =>
    intro hi
    obtain ⟨a,b,c,d⟩ := ih (bC (fk10 (Z6 (La V0 K1) (Lk 100) (Z10 V0 (Lk 100) Lf)) rfl hi))
    have g := getD_le (k := i) h
    have k := cost_le ⟨#[bc]⟩ ⟨#[as.getD i 0]⟩
    simp only [inn]
    generalize hr:min (min (inn bc as row d0 i).2.1 (row.getD i 0) + 2) ((inn bc as row d0 i).1 + costOf ⟨#[bc]⟩ ⟨#[as.getD i 0]⟩) = r at *
    have r1:0 ≤ r ∧ r ≤ 500 + 2 * (i + 1) := hr ▸ ⟨Int.le_min.mpr ⟨Int.add_nonneg (Int.le_min.mpr ⟨b.1,g.1⟩) (by decide),Int.add_nonneg a.1 k.1⟩,Int.le_trans (Int.min_le_left _ _) (bC (fk12 (Z0 V1 V2 (Z0 V2 (La (Lk 500) (Lm 2 V0)) (Z4 (La V1 K2) (La (Lk 500) (Lm 2 (La V0 K1))) Lf))) rfl (Int.min_le_left _ _) b.2))⟩
    refine ⟨g,by push_cast;exact ⟨r1.1,r1.2⟩,by split <;> (first | exact ⟨r1.1,(Int.le_trans (Int.le_of_lt (by assumption)) c.2)⟩ | exact ⟨c.1,c.2⟩),?_⟩
    intro q hq
    rcases List.mem_append.mp hq with hq | hq
    · have := d q hq;push_cast;exact ⟨bC (fk01 (Z0 K0 V0 (Z4 K0 V0 Lf)) rfl this.1),bC (fk11 (Z0 V1 (La (Lk 500) (Lm 2 V0)) (Z4 V1 (La (Lk 500) (Lm 2 (La V0 K1))) Lf)) rfl this.2)⟩
    · rw [List.mem_singleton.mp hq];push_cast;exact ⟨r1.1,r1.2⟩
section
variable {prog:Program} {w:World} {A:Around} {E:Value→Shared→Prop} {s:Shared} {env:Env} {h₀:Heap} {x:Str} {body:List Stmt} {Q:Flow→Shared→Prop}
theorem lev_outer {C D:Str} {tC tD:Tok} {Dd r:Addr} {b₀:Int} {t₀ u₀ v₀ tr₀:Tok} {m₀:Str→Option Value} {news:List (Addr × Obj)} {ys:List Value} {nn₀:Nat} {mc:Int}
    (hh:A.handled = none) (F:Fr h₀ env.locals s.heap m₀) (_hx:m₀ (Str.ofString "a") = some (.str C tC)) (_hy:m₀ (Str.ofString "b") = some (.str D tD)) (hres:m₀ (Str.ofString "result") = some (.int 0 tr₀))
    (hr:IsRange s.heap r 0 b₀ 1 t₀ u₀ v₀) (hb:b₀ = D.length) (N:News h₀ env.locals s.heap ((Dd,listOf ys.toArray nn₀) :: news)) (hi:IntsAre ys (rangeInts 2 2 C.length)) (hC:C.length ≤ 100) (hD:D.length ≤ 100)
    (turn:∀ (i:Nat) t (vs:List Value) nn (row:List Int) (res:Int) tr (u:Str→Option Value) h tk own,i < D.length→OwnOff own (((Dd,listOf vs.toArray nn) :: news).map (·.1))→IntsAre vs row→row.length = C.length→(∀ r ∈ row,0 ≤ r ∧ r ≤ 1000)→0 ≤ res→res ≤ 1000 →
      levRun (tx C) mc 0 (tx D) (rangeInts 2 2 C.length) 0 = levRun (tx C) mc i ((tx D).drop i) row res →
      Fr h₀ env.locals h (fun y=>if y = x then some (.int (0 + (i:Int)) t) else if y = Str.ofString "result" then some (.int res tr) else if lvSt.contains y then u y else m₀ y)→News h₀ env.locals h ((Dd,listOf vs.toArray nn) :: (news ++ own)) →
      wpAny (model prog w) A (execs body env) (InvPostG h₀ env.locals (GS lvPs (lvInv Dd news (tx C) (tx D) mc (levRun (tx C) mc 0 (tx D) (rangeInts 2 2 C.length) 0)) x lvSt m₀ (i + 1)) own { s with heap := h,toks := tk } Q) E { s with heap := h,toks := tk })
    (done:∀ res tr (vs:List Value) nn (u:Str→Option Value) h tk,levRun (tx C) mc 0 (tx D) (rangeInts 2 2 C.length) 0 = res→Fr h₀ env.locals h (fun y=>if y = x then u y else if y = Str.ofString "result" then some (.int res tr) else if lvSt.contains y then u y else m₀ y)→News h₀ env.locals h ((Dd,listOf vs.toArray nn) :: news)→Q .next { s with heap := h,toks := tk }) :
    wpAny (model prog w) A (pyIter (.ref r)) (fun it s₂=>LoopAtV prog w A h₀ env x body Q E it s₂) E s := by
  subst hb
  refine my_range (n := D.length) lvPs (lvInv Dd news (tx C) (tx D) mc (levRun (tx C) mc 0 (tx D) (rangeInts 2 2 C.length) 0)) lvSt ⟨ys,nn₀,0,tr₀⟩ hh hr (small_one (by exact (by decide)) (by exact (by decide)) (by exact (iDn iCast0 rfl)) (by exact (iUpLt (iCast hD) rfl))) (by rw [rangeSize_nat];exact rfl) F N
    ⟨rfl,_,hi,by rw [rangeInts_length,tx_len],?_,Int.le_refl _,(by decide:(0:Int) ≤ 1000),by simp⟩ (by intro p hp;rw [List.mem_singleton.mp hp];exact hres) ?_ ?_
  · intro q hq
    obtain ⟨k,hk,rfl⟩ := List.mem_map.mp hq
    have := List.mem_range.mp hk
    exact ⟨bC (fk10 (Lh 12 2 V0 Lf (Z4 K0 (La K2 (Lr V0 2)) Lf)) rfl trivial),bC (fk20 (Lh 7 2 V0 V1 (Lh 6 2 V1 (Lk 100) (Z4 (La K2 (Lr V0 2)) (Lk 1000) Lf))) rfl this hC)⟩
  · rintro c i t u h tk own nx hi' hoff ⟨rfl,row,h1,h2,h3,h4,h5,h6⟩ F₁ N₁
    exact turn i t c.vs c.nn row c.res c.tr u h tk own hi' hoff h1 (by rw [h2,tx_len]) h3 h4 h5 h6 F₁ (by simpa using N₁)
  · rintro c u h tk nx ⟨rfl,row,h1,h2,h3,h4,h5,h6⟩ F₁ N₁
    refine done c.res c.tr c.vs c.nn u h tk ?_ F₁ N₁
    rw [h6,List.drop_of_length_le (by rw [tx_len];exact Nat.le_refl _)]
    rfl
end
section
variable {prog:Program} {w:World} {A:Around} {E:Value→Shared→Prop} {s:Shared} {env:Env} {h₀:Heap} {x:Str} {body:List Stmt} {Q:Flow→Shared→Prop}
theorem lev_inner {C:Str} {tC tb t1₀ t2₀ t3₀:Tok} {bc:Nat} {d0:Int} {Dd r:Addr} {b₀:Int} {t₀ u₀ v₀:Tok} {m₀:Str→Option Value} {news:List (Addr × Obj)} {ys:List Value} {row:List Int} {nn₀:Nat}
    (hh:A.handled = none) (F:Fr h₀ env.locals s.heap m₀) (_hx:m₀ (Str.ofString "a") = some (.str C tC)) (_hb:m₀ (Str.ofString "bchar") = some (.str ⟨#[bc]⟩ tb))
    (hd:m₀ (Str.ofString "distance") = some (.int d0 t1₀)) (hres:m₀ (Str.ofString "result") = some (.int d0 t2₀)) (hmn:m₀ (Str.ofString "minimum") = some (.int 9223372036854775807 t3₀))
    (hr:IsRange s.heap r 0 b₀ 1 t₀ u₀ v₀) (hb:b₀ = C.length) (N:News h₀ env.locals s.heap ((Dd,listOf ys.toArray nn₀) :: news)) (hi:IntsAre ys row) (hl:row.length = C.length) (hrow:∀ r ∈ row,0 ≤ r ∧ r ≤ 1000) (hC:C.length ≤ 100) (hd0:0 ≤ d0) (hd1:d0 ≤ 500)
    (turn:∀ (i:Nat) t (vs:List Value) nn (d res mn:Int) (pre:List Int) t1 t2 t3 (u:Str→Option Value) h tk own,i < C.length→OwnOff own (((Dd,listOf vs.toArray nn) :: news).map (·.1))→inn bc (tx C) row d0 i = (d,res,mn,pre)→pre.length = i→IntsAre vs (pre ++ row.drop i) →
      0 ≤ d ∧ d ≤ 1000→0 ≤ res ∧ res ≤ 1000→0 ≤ mn ∧ mn ≤ 9223372036854775807 →
      Fr h₀ env.locals h (fun y=>if y = x then some (.int (0 + (i:Int)) t) else if y = Str.ofString "distance" then some (.int d t1) else if y = Str.ofString "result" then some (.int res t2) else if y = Str.ofString "minimum" then some (.int mn t3) else if liSt.contains y then u y else m₀ y)→News h₀ env.locals h ((Dd,listOf vs.toArray nn) :: (news ++ own)) →
      wpAny (model prog w) A (execs body env) (InvPostG h₀ env.locals (GS liPs (liInv Dd news bc (tx C) row d0) x liSt m₀ (i + 1)) own { s with heap := h,toks := tk } Q) E { s with heap := h,toks := tk })
    (done:∀ (d res mn:Int) (row':List Int) t1 t2 t3 (vs:List Value) nn (u:Str→Option Value) h tk,inn bc (tx C) row d0 (tx C).length = (d,res,mn,row')→IntsAre vs row'→row'.length = C.length→(∀ r ∈ row',0 ≤ r ∧ r ≤ 1000)→0 ≤ res ∧ res ≤ 1000→0 ≤ mn ∧ mn ≤ 9223372036854775807 →
      Fr h₀ env.locals h (fun y=>if y = x then u y else if y = Str.ofString "distance" then some (.int d t1) else if y = Str.ofString "result" then some (.int res t2) else if y = Str.ofString "minimum" then some (.int mn t3) else if liSt.contains y then u y else m₀ y)→News h₀ env.locals h ((Dd,listOf vs.toArray nn) :: news)→Q .next { s with heap := h,toks := tk }) :
    wpAny (model prog w) A (pyIter (.ref r)) (fun it s₂=>LoopAtV prog w A h₀ env x body Q E it s₂) E s := by
  subst hb
  have ok := inn_ok (bc := bc) (as := tx C) hrow hd0 hd1
  refine my_range (n := C.length) liPs (liInv Dd news bc (tx C) row d0) liSt ⟨ys,nn₀,d0,d0,9223372036854775807,t1₀,t2₀,t3₀⟩ hh hr (small_one (by exact (by decide)) (by exact (by decide)) (by exact (iDn iCast0 rfl)) (by exact (iUpLt (iCast hC) rfl))) (by rw [rangeSize_nat];exact rfl) F N
    ⟨rfl,by simpa [inn] using hi,rfl,rfl,rfl⟩ ?_ ?_ ?_
  · intro p hp
    rcases List.mem_cons.mp hp with rfl | hp
    · exact hd
    · rcases List.mem_cons.mp hp with rfl | hp
      · exact hres
      · rw [List.mem_singleton.mp hp];exact hmn
  · rintro c i t u h tk own nx hi' hoff ⟨rfl,h1,h2,h3,h4⟩ F₁ N₁
    have o := ok i (by exact (Nat.le_trans (Nat.le_of_lt hi') hC))
    exact turn i t c.vs c.nn _ _ _ _ c.t1 c.t2 c.t3 u h tk own hi' hoff rfl (inn_len ..) h1 o.1 ⟨o.2.1.1,Int.le_trans o.2.1.2 (bC (fk20 (Lh 7 2 V0 V1 (Lh 6 2 V1 (Lk 100) (Z4 (La (Lk 500) (Lm 2 V0)) (Lk 1000) Lf))) rfl hi' hC))⟩ o.2.2.1 (by rw [← h2,← h3,← h4];exact F₁) (by simpa using N₁)
  · rintro c u h tk nx ⟨rfl,h1,h2,h3,h4⟩ F₁ N₁
    have o := ok C.length (by exact hC)
    rw [List.drop_of_length_le (by exact (Nat.le_of_eq hl)),List.append_nil] at h1
    exact done _ _ _ _ c.t1 c.t2 c.t3 c.vs c.nn u h tk (by rw [tx_len]) h1 (inn_len ..) (fun q hq=>by have := o.2.2.2 q hq;exact ⟨bC (fk01 (Z0 K0 V0 (Z4 K0 V0 Lf)) rfl this.1),bC (fk11 (Z0 V1 (La (Lk 500) (Lm 2 V0)) (Lh 6 2 V0 (Lk 100) (Z4 V1 (Lk 1000) Lf))) rfl this.2 hC)⟩) ⟨o.2.1.1,Int.le_trans o.2.1.2 (by exact (iUp (Int.add_le_add iLit (iMulL (iCast hC) rfl)) rfl))⟩ o.2.2.1 (by rw [← h2,← h3,← h4];exact F₁) N₁
end
theorem size_two (n:Nat):Builtin.Range.rangeSize 2 (2 * ((n:Int) + 1)) 2 = (n:Int) := by
  unfold Builtin.Range.rangeSize
  simp
  lia
theorem small_two {n:Nat} (h:n ≤ 100):Builtin.Range.small 2 (2 * ((n:Int) + 1)) 2 = true := by
  unfold Builtin.Range.small
  rw [size_two]
  generalize hb:2 * ((n:Int) + 1) = b
  simp [Builtin.Range.rangeFitsLong]
  exact ⟨⟨⟨bC (fk11 (Z2 (Lm 2 (La V0 K1)) V1 (Lh 12 2 V0 Lf (Z4 (Lg (Lk 9223372036854775808)) V1 Lf))) rfl hb trivial),bC (fk11 (Z3 (Lm 2 (La V0 K1)) V1 (Lh 6 2 V0 (Lk 100) (Z5 V1 (Lk 9223372036854775808) Lf))) rfl hb h)⟩,bC (fk10 (Z6 V0 (Lk 100) (Z5 V0 (Lk 9223372036854775808) Lf)) rfl h)⟩,(Or.inr (⟨bC (fk11 (Z2 (Lm 2 (La V0 K1)) V1 (Lh 12 2 V0 Lf (Z4 (Lg (Lk 9223372036854775808)) (La V1 K1) Lf))) rfl hb trivial),bC (fk11 (Z3 (Lm 2 (La V0 K1)) V1 (Lh 6 2 V0 (Lk 100) (Z5 (La V1 K1) (Lk 9223372036854775808) Lf))) rfl hb h)⟩))⟩
section
variable {prog:Program} {w:World} {A:Around} {E:Value→Shared→Prop} {Q:Value→Shared→Prop} {s:Shared} {h₀:Heap} {L:Addr} {m:Str→Option Value} {news:List (Addr × Obj)}
theorem list_two {r:Addr} {t u v:Tok} {n:Nat} (hh:A.handled = none) (Fh:Fr h₀ L s.heap m) (N:News h₀ L s.heap news)
    (hr:IsRange s.heap r 2 (2 * ((n:Int) + 1)) 2 t u v) (hlen:n ≤ 100)
    (hQ:∀ h' tk (ys:List Value) D nn,Fr h₀ L h' m→News h₀ L h' ((D,listOf ys.toArray nn) :: news)→(∀ p ∈ news,p.1 < D)→IntsAre ys (rangeInts 2 2 n)→Q (.ref D) { s with heap := h',toks := tk }) :
    wpAny (model prog w) A (call (.type "list") [.ref r]) Q E s := by
  refine call_list_range hh hr (small_two hlen) (size_two n) (by exact (nUp hlen rfl)) fun h' tk acc' c' hk hS' hacc=>?_
  have F' := Fh.keeps hk
  refine hQ h' tk acc'.toList s.heap.objs.size c' F' (fun p hp=>?_) (fun p hp=>Heap.lt_size (N p hp).1) ?_
  · rcases List.mem_cons.mp hp with rfl | hp
    · exact ⟨by simpa using hS',fun e=>absurd (e ▸ Fh.ns.lt) (Nat.lt_irrefl _),by
        cases e:h₀.get? s.heap.objs.size with
        | none=>rfl
        | some o=>exact absurd (Heap.lt_size (Fh.keep _ _ e)) (Nat.lt_irrefl _)⟩
    · exact ⟨hk _ _ (N p hp).1,(N p hp).2⟩
  · refine ints_by (by simp [hacc.1,rangeInts_length]) fun j y hy=>?_
    have hv':acc'[j]? = some y := by simpa using hy
    obtain ⟨tk,rfl⟩ := hacc.2 j y hv'
    have hj:j < n := by
      have := (Array.getElem?_eq_some_iff.mp hv').1
      rw [hacc.1] at this;exact this
    exact ⟨2 + (j:Nat) * 2,tk,rangeInts_get hj,rfl⟩
end
theorem at0 (i:Nat):(0 + (i:Int)).toNat = i := by exact Nat.le_antisymm (bC (fk20 (Z2 V0 (La K0 V1) (Z10 V0 V1 Lf)) rfl (tC (bC (fk10 (Z12 V0 (Z4 K0 (La K0 V0) Lf)) rfl trivial))))) (bC (fk20 (Z3 V0 (La K0 V1) (Z10 V1 V0 Lf)) rfl (tC (bC (fk10 (Z12 V0 (Z4 K0 (La K0 V0) Lf)) rfl trivial)))))
theorem getD_app {pre row:List Int} {i:Nat} (h:pre.length = i):(pre ++ row.drop i).getD (0 + (i:Int)).toNat 0 = row.getD i 0 := by
  rw [at0,List.getD_eq_getElem?_getD,List.getD_eq_getElem?_getD,List.getElem?_append_right (by exact (Nat.le_of_eq h)),h,Nat.sub_self,List.getElem?_drop,Nat.add_zero]
theorem set_app {pre row:List Int} {i:Nat} {r:Int} (h:pre.length = i) (hi:i < row.length):(pre ++ row.drop i).set (0 + (i:Int)).toNat r = (pre ++ [r]) ++ row.drop (i + 1) := by
  rw [at0,List.set_append_right _ _ (by exact (Nat.le_of_eq h)),h,Nat.sub_self,List.drop_eq_getElem_cons hi,List.set_cons_zero,List.append_assoc];rfl
noncomputable def innR (bc:Nat) (as:List Nat) (row pre:List Int) (d res:Int) (i:Nat):Int :=
  if d + costOf ⟨#[bc]⟩ ⟨#[as.getD (0 + (i:Int)).toNat 0]⟩ < (if (pre ++ row.drop i).getD (0 + (i:Int)).toNat 0 < res then (pre ++ row.drop i).getD (0 + (i:Int)).toNat 0 else res) + 2 then d + costOf ⟨#[bc]⟩ ⟨#[as.getD (0 + (i:Int)).toNat 0]⟩ else (if (pre ++ row.drop i).getD (0 + (i:Int)).toNat 0 < res then (pre ++ row.drop i).getD (0 + (i:Int)).toNat 0 else res) + 2
theorem mnI (a b:Int):(if b < a then b else a) = min a b := by
  split
  · rename_i h;exact (Int.min_eq_right (Int.le_of_lt h)).symm
  · rename_i h;exact (Int.min_eq_left (Int.not_lt.mp h)).symm
theorem min_ifs (a b c:Int):(if c < (if b < a then b else a) + 2 then c else (if b < a then b else a) + 2) = min (min a b + 2) c := by
  rw [mnI a b,mnI (min a b + 2) c]
theorem inn_turn {bc:Nat} {as:List Nat} {row:List Int} {d0 d res mn:Int} {pre:List Int} {i:Nat} (hinn:inn bc as row d0 i = (d,res,mn,pre)) (hpre:pre.length = i) :
    inn bc as row d0 (i + 1) = ((pre ++ row.drop i).getD (0 + (i:Int)).toNat 0,innR bc as row pre d res i,if innR bc as row pre d res i < mn then innR bc as row pre d res i else mn,pre ++ [innR bc as row pre d res i]) := by
  have e:innR bc as row pre d res i = min (min res (row.getD i 0) + 2) (d + costOf ⟨#[bc]⟩ ⟨#[as.getD i 0]⟩) := by
    unfold innR
    rw [getD_app hpre,at0,min_ifs]
  rw [getD_app hpre,e]
  simp only [inn,hinn]
section
variable {s₁:Shared} {h₀ h':Heap} {L Dd:Addr} {x:Str} {m₀ m':Str→Option Value} {own news:List (Addr × Obj)} {tk:Nat}
theorem li_end {bc:Nat} {as:List Nat} {row pre:List Int} {d0 d res mn mn' r:Int} {i nn:Nat} {vs:List Value} {t1 t2 t3 tr:Tok}
    (hinn:inn bc as row d0 i = (d,res,mn,pre)) (hpre:pre.length = i) (hi:i < row.length) (hoff:OwnOff own (((Dd,listOf vs.toArray nn) :: news).map (·.1)))
    (hI:IntsAre (vs.set (0 + (i:Int)).toNat (.int r tr)) ((pre ++ row.drop i).set (0 + (i:Int)).toNat r))
    (F:Fr h₀ L h' m') (N:News h₀ L h' ((Dd,listOf (vs.set (0 + (i:Int)).toNat (.int r tr)).toArray nn) :: (news ++ own)))
    (hr:r = innR bc as row pre d res i) (hmn:mn' = if r < mn then r else mn)
    (hk:∀ p ∈ [(Str.ofString "distance",Value.int ((pre ++ row.drop i).getD (0 + (i:Int)).toNat 0) t1),(Str.ofString "result",.int r t2),(Str.ofString "minimum",.int mn' t3)],m' p.1 = some p.2)
    (hs:∀ z,z ≠ x→(∀ p ∈ [(Str.ofString "distance",Value.int ((pre ++ row.drop i).getD (0 + (i:Int)).toNat 0) t1),(Str.ofString "result",.int r t2),(Str.ofString "minimum",.int mn' t3)],z ≠ p.1)→liSt.contains z = false→m' z = m₀ z) :
    InvEndG h₀ L (GS liPs (liInv Dd news bc as row d0) x liSt m₀ (i + 1)) own s₁ { s₁ with heap := h',toks := tk } := by
  have e := inn_turn hinn hpre
  rw [← hr,← hmn] at e
  refine gs_end ⟨vs.set (0 + (i:Int)).toNat (.int r tr),nn,_,r,mn',t1,t2,t3⟩ ((Dd,listOf (vs.set (0 + (i:Int)).toNat (.int r tr)).toArray nn) :: news) F N (fun p hp=>?_) (fun p hp=>?_) ?_ ⟨rfl,?_,?_,?_,?_⟩ hk hs
  · rcases List.mem_cons.mp hp with rfl | hp
    · exact List.mem_cons_self
    · exact List.mem_cons_of_mem _ (List.mem_append_left _ hp)
  · exact List.mem_cons_of_mem _ (List.mem_append_right _ hp)
  · simpa using hoff
  · rw [e]
    rw [set_app hpre hi] at hI
    exact hI
  · exact congrArg (fun q=>q.1) e.symm
  · exact congrArg (fun q=>q.2.1) e.symm
  · exact congrArg (fun q=>q.2.2.1) e.symm
theorem lev_at {as bs:List Nat} {mc:Int} {i:Nat} {row:List Int} {res:Int} (hi:i < bs.length) :
    levRun as mc i (bs.drop i) row res = if (inn (bs.getD (0 + (i:Int)).toNat 0) as row ((0 + (i:Int)) * 2) as.length).2.2.1 > mc then mc + 1 else levRun as mc (i + 1) (bs.drop (i + 1)) (inn (bs.getD (0 + (i:Int)).toNat 0) as row ((0 + (i:Int)) * 2) as.length).2.2.2 (inn (bs.getD (0 + (i:Int)).toNat 0) as row ((0 + (i:Int)) * 2) as.length).2.1 := by
  rw [at0,show (0 + (i:Int)) * 2 = 2 * (i:Int) by exact Int.le_antisymm (bC (fk10 (Z4 (Lr (La K0 V0) 2) (Lm 2 V0) Lf) rfl)) (bC (fk10 (Z4 (Lm 2 V0) (Lr (La K0 V0) 2) Lf) rfl)),List.drop_eq_getElem_cons hi,List.getD_eq_getElem?_getD,List.getElem?_eq_getElem hi]
  rfl
theorem lev_stop {as bs:List Nat} {mc:Int} {i:Nat} {row row2:List Int} {res d res2 mn:Int} (hi:i < bs.length) (hinn:inn (bs.getD (0 + (i:Int)).toNat 0) as row ((0 + (i:Int)) * 2) as.length = (d,res2,mn,row2)) (h:mc < mn) :
    levRun as mc i (bs.drop i) row res = mc + 1 := by
  rw [lev_at hi,hinn,if_pos h]
theorem lev_next {as bs:List Nat} {mc:Int} {i:Nat} {row row2:List Int} {res d res2 mn:Int} (hi:i < bs.length) (hinn:inn (bs.getD (0 + (i:Int)).toNat 0) as row ((0 + (i:Int)) * 2) as.length = (d,res2,mn,row2)) (h:¬ mc < mn) :
    levRun as mc i (bs.drop i) row res = levRun as mc (i + 1) (bs.drop (i + 1)) row2 res2 := by
  rw [lev_at hi,hinn,if_neg h]
theorem lv_end {C D:Str} {mc ans:Int} {row row2:List Int} {res d res2 mn:Int} {i nn nn2:Nat} {vs vs2:List Value} {tr:Tok}
    (hinn:inn ((tx D).getD (0 + (i:Int)).toNat 0) (tx C) row ((0 + (i:Int)) * 2) (tx C).length = (d,res2,mn,row2)) (hi:i < D.length) (hno:¬ mc < mn) (hrun:ans = levRun (tx C) mc i ((tx D).drop i) row res)
    (hvs:IntsAre vs2 row2) (hlen:row2.length = C.length) (hrow:∀ r ∈ row2,0 ≤ r ∧ r ≤ 1000) (hres:0 ≤ res2 ∧ res2 ≤ 1000) (hoff:OwnOff own (((Dd,listOf vs.toArray nn) :: news).map (·.1)))
    (F:Fr h₀ L h' m') (N:News h₀ L h' ((Dd,listOf vs2.toArray nn2) :: (news ++ own)))
    (hk:∀ p ∈ [(Str.ofString "result",Value.int res2 tr)],m' p.1 = some p.2)
    (hs:∀ z,z ≠ x→(∀ p ∈ [(Str.ofString "result",Value.int res2 tr)],z ≠ p.1)→lvSt.contains z = false→m' z = m₀ z) :
    InvEndG h₀ L (GS lvPs (lvInv Dd news (tx C) (tx D) mc ans) x lvSt m₀ (i + 1)) own s₁ { s₁ with heap := h',toks := tk } := by
  refine gs_end ⟨vs2,nn2,res2,tr⟩ ((Dd,listOf vs2.toArray nn2) :: news) F N (fun p hp=>?_) (fun p hp=>?_) ?_ ⟨rfl,row2,hvs,?_,hrow,hres.1,hres.2,?_⟩ hk hs
  · rcases List.mem_cons.mp hp with rfl | hp
    · exact List.mem_cons_self
    · exact List.mem_cons_of_mem _ (List.mem_append_left _ hp)
  · exact List.mem_cons_of_mem _ (List.mem_append_right _ hp)
  · simpa using hoff
  · rw [hlen,tx_len]
  · rw [hrun,lev_next (by rw [tx_len];exact hi) hinn hno]
end
noncomputable abbrev lwPs (x:Str) (c:Int × Tok):List (Str × Value) := [(x,.int c.1 c.2)]
section
variable {prog:Program} {w:World} {A:Around} {E:Value→Shared→Prop} {Q:Flow→Shared→Prop} {s:Shared} {env:Env} {h₀:Heap} {L:Addr}
inductive TestEnd (h₀:Heap) (L:Addr) (m:Str→Option Value) (news:List (Addr × Obj)) (s:Shared) (T Fl:Prop) (b:Bool) (s₂:Shared):Prop
  | con (h':_) (tk':_)
      (q1:s₂ = { s with heap := h',toks := tk' })
      (q2:Fr h₀ L h' m)
      (q3:News h₀ L h' news)
      (q4:(if b = true then T else Fl)):TestEnd h₀ L m news s T Fl b s₂
theorem TestEnd.yes {m:Str→Option Value} {news:List (Addr × Obj)} {T Fl:Prop} {h':Heap} {tk':Nat} (F:Fr h₀ L h' m) (N:News h₀ L h' news) (h:T):TestEnd h₀ L m news s T Fl true { s with heap := h',toks := tk' } := ⟨h',tk',rfl,F,N,by rw [if_pos rfl];exact h⟩
theorem TestEnd.no {m:Str→Option Value} {news:List (Addr × Obj)} {T Fl:Prop} {h':Heap} {tk':Nat} (F:Fr h₀ L h' m) (N:News h₀ L h' news) (h:Fl):TestEnd h₀ L m news s T Fl false { s with heap := h',toks := tk' } := ⟨h',tk',rfl,F,N,by rw [if_neg (by decide)];exact h⟩
theorem my_while {test:Expr} {body:List Stmt} {pos:Pos} {m₀:Str→Option Value} {news:List (Addr × Obj)} (x:Str) (P T:Int→Prop) (last:Int) (μ:Int→Nat) {k₀:Int} {t₀:Tok}
    (F:Fr h₀ L s.heap m₀) (N:News h₀ L s.heap news) (hk:m₀ x = some (.int k₀ t₀)) (hp:P k₀)
    (look:∀ (k:Int) t h tk,P k→Fr h₀ L h (fun y=>if y = x then some (.int k t) else m₀ y)→News h₀ L h news →
      wpAny (model prog w) A (isTrue test env (eval test env)) (TestEnd h₀ L (fun y=>if y = x then some (.int k t) else m₀ y) news { s with heap := h,toks := tk } (T k) (k = last)) E { s with heap := h,toks := tk })
    (turn:∀ (k:Int) t h tk,P k→T k→Fr h₀ L h (fun y=>if y = x then some (.int k t) else m₀ y)→News h₀ L h news →
      wpAny (model prog w) A (execs body env) (KswPost h₀ L s (fun _=>news) (lwPs x) (fun _=>True) [] m₀ (fun c=>P c.1) (fun c=>μ c.1) Q (k,t)) E { s with heap := h,toks := tk })
    (done:∀ t h tk,P last→Fr h₀ L h (fun y=>if y = x then some (.int last t) else m₀ y)→News h₀ L h news→Q .next { s with heap := h,toks := tk })
    (hE:PassesOwn (model prog w) A env E := by passes_own) :
    wpAny (model prog w) A (exec (.While test body [] pos) env) Q E s := by
  refine ksw_while (fun _:Int × Tok=>news) (lwPs x) (fun _=>True) [] (fun c=>P c.1) (fun c=>μ c.1) (k₀,t₀) F N trivial (by intro p hp;rw [List.mem_singleton.mp hp];exact hk) hp ?_ hE
  intro c u h tk _ hP F₁ N₁
  have e:kstB (fun z=>if ([]:List Str).contains z = true then u z else m₀ z) (lwPs x c) = fun y=>if y = x then some (.int c.1 c.2) else m₀ y := by
    funext y
    show (if y = x then _ else kstB (fun z=>if ([]:List Str).contains z = true then u z else m₀ z) [] y) = _
    show (if y = x then _ else (if ([]:List Str).contains y = true then u y else m₀ y)) = _
    simp
  rw [e] at F₁
  refine wpAny_mono (look c.1 c.2 h tk hP F₁ N₁) (fun b s₂ q=>?_) fun _ _ x=>x
  obtain ⟨h',tk',rfl,F',N',q⟩ := q
  cases b with
  | true=>rw [if_pos rfl] at q ⊢;exact turn c.1 c.2 h' tk' hP q F' N'
  | false =>
    rw [if_neg (by decide)] at q ⊢
    rw [q] at F' hP
    exact done c.2 h' tk' hP F' N'
theorem my_while_end {m₀ m':Str→Option Value} {news all:List (Addr × Obj)} {x:Str} {P:Int→Prop} {μ:Int→Nat} {k k':Int} {t t':Tok} {h':Heap} {tk:Nat}
    (F:Fr h₀ L h' m') (N:News h₀ L h' all) (hn:∀ p ∈ news,p ∈ all) (hx:m' x = some (.int k' t')) (hr:∀ z,z ≠ x→m' z = m₀ z) (hp:P k') (hm:μ k' < μ k) :
    KswEnd h₀ L s (fun _=>news) (lwPs x) (fun _=>True) [] m₀ (fun c=>P c.1) (fun c=>μ c.1) (k,t) { s with heap := h',toks := tk } :=
  ksw_end (k',t') F N hn trivial (by intro p hp;rw [List.mem_singleton.mp hp];exact hx) (fun z h1 _=>hr z (h1 (x,.int k' t') (List.mem_singleton.mpr rfl))) hp hm
theorem or_join {M:Model} {K:Int} {t:Tok} {e:Expr} {m:Str→Option Value} {Q:Value→Shared→Prop} (F:Fr h₀ L s.heap m) (hp:m (Str.ofString "post") = some (.int K t)) (h:wpAny M A (eval e env) (fun v s'=>v = orV K t ∧ s' = s) E s) (h2:Q (orV K t) s):wpAny M A (evalPart (some e) env) Q E s :=
  wpAny_mono (evalPart_some_step h) (fun v s' q=>by obtain ⟨rfl,rfl⟩ := q;exact h2) fun _ _ x=>x
theorem slice_or {value slice:Expr} {x:Str} {t tk:Tok} {K:Int} {m:Str→Option Value} {news:List (Addr × Obj)} {Q:Value→Shared→Prop} (hF:Fr h₀ L s.heap m) (hN:News h₀ L s.heap news) (h:∀ z h' t' k,z = cutS x K→Fr h₀ L h' m→News h₀ L h' news→z.length ≤ x.length→Q (.str z t') { s with heap := h',toks := k })
    (hs:subscripted slice false (.str x t) (.ref s.heap.objs.size) = operate [.ref s.heap.objs.size,.str x t] (getItem (.str x t) (.ref s.heap.objs.size)) := by with_unfolding_all rfl)
    (ht:∀ r,letTemporaryGo value (.str x t) r = pure () := by intro _;with_unfolding_all rfl) (hsz:x.length ≤ sizeLine := by size_fits) :
    wpAny (model prog w) A (subscriptTail value slice (.str x t) (.ref s.heap.objs.size)) Q E { s with heap := s.heap.push { cls := .type "slice",data := .fields #[.none,orV K tk,.none] } } := by
  have h := fun h' t' k a b=>h _ h' t' k rfl a b (cutS_len x K)
  unfold orV
  unfold cutS at h
  split
  · rename_i e
    rw [if_pos e] at h
    exact slice_strN_nn hF hN h hs ht hsz
  · rename_i e
    rw [if_neg e] at h
    exact slice_strN_ns hF hN h hs ht hsz
theorem slice_from {value slice:Expr} {x:Str} {t tk:Tok} {K:Int} {m:Str→Option Value} {news:List (Addr × Obj)} {Q:Value→Shared→Prop} (hF:Fr h₀ L s.heap m) (hN:News h₀ L s.heap news) (h:∀ z h' t' k,z = Txt.slice x (some K) none→Fr h₀ L h' m→News h₀ L h' news→z.length ≤ x.length→Q (.str z t') { s with heap := h',toks := k })
    (hs:subscripted slice false (.str x t) (.ref s.heap.objs.size) = operate [.ref s.heap.objs.size,.str x t] (getItem (.str x t) (.ref s.heap.objs.size)) := by with_unfolding_all rfl)
    (ht:∀ r,letTemporaryGo value (.str x t) r = pure () := by intro _;with_unfolding_all rfl) (hsz:x.length ≤ sizeLine := by size_fits) :
    wpAny (model prog w) A (subscriptTail value slice (.str x t) (.ref s.heap.objs.size)) Q E { s with heap := s.heap.push { cls := .type "slice",data := .fields #[.int K tk,.none,.none] } } :=
  slice_strN_sn hF hN (fun h' t' k a b=>h _ h' t' k rfl a b (PyProof.Txt.length_slice_le x _ _)) hs ht hsz
theorem item_nn {value slice:Expr} {x:Str} {t u:Tok} {i:Int} {Q:Value→Shared→Prop} (h0:-(x.length:Int) ≤ i) (h1:i < x.length) (hx:x.length ≤ 100)
    (h:Q (.str (Txt.item x i) s.toks) { s with toks := s.toks + 1 })
    (hs:subscripted slice false (.str x t) (.int i u) = operate [.str x t,.int i u] (getItem (.str x t) (.int i u)) := by with_unfolding_all rfl)
    (ht:∀ r,letTemporaryGo value (.str x t) r = pure () := by intro _;with_unfolding_all rfl) :
    wpAny (model prog w) A (subscriptTail value slice (.str x t) (.int i u)) Q E s :=
  item_str (fitsSsize_of (N := 9223372036854775808) (by exact (iDnLt (Int.le_trans (Int.neg_le_neg (iCast hx)) h0) rfl)) (by exact (iUpLt (Int.le_trans (iLt1 h1) (Int.sub_le_sub_right (iCast hx) 1)) rfl)) (Int.le_refl _)) h0 h1 (fun _=>h) hs ht
theorem lt_of_nonneg {x:Str} {k:Int} (h:0 ≤ k):-(x.length:Int) ≤ k := by exact (iUp2 (Int.neg_le_neg iCast0) h rfl)
theorem lt_of_neg {x:Str} {k:Int} (h:k ≤ 0):k - 1 < (x.length:Int) := by exact (iUp2Lt (Int.sub_le_sub h iLit) iCast0 rfl)
inductive SwapEnd (h₀:Heap) (L:Addr) (m:Str→Option Value) (news:List (Addr × Obj)) (s:Shared) (x y:Str) (f:Flow) (s₂:Shared):Prop
  | con
      (q1:f = .next) (h':_) (tk':_) (C:_) (D:_) (tC:_) (tD:_)
      (q2:s₂ = { s with heap := h',toks := tk' })
      (q3:Fr h₀ L h' (fun z=>if z = Str.ofString "b" then some (.str D tD) else if z = Str.ofString "a" then some (.str C tC) else m z))
      (q4:News h₀ L h' news)
      (q5:((C = x ∧ D = y ∧ x.length ≤ y.length) ∨ (C = y ∧ D = x ∧ y.length < x.length))):SwapEnd h₀ L m news s x y f s₂
theorem SwapEnd.yes {m m':Str→Option Value} {news:List (Addr × Obj)} {x y C D:Str} {tC tD:Tok} {h':Heap} {tk':Nat} (F:Fr h₀ L h' m') (N:News h₀ L h' news) (e:m' = fun z=>if z = Str.ofString "b" then some (.str D tD) else if z = Str.ofString "a" then some (.str C tC) else m z)
    (h:(C = x ∧ D = y ∧ x.length ≤ y.length) ∨ (C = y ∧ D = x ∧ y.length < x.length)):SwapEnd h₀ L m news s x y .next { s with heap := h',toks := tk' } := ⟨rfl,h',tk',C,D,tC,tD,rfl,e ▸ F,N,h⟩
theorem SwapEnd.no {m:Str→Option Value} {news:List (Addr × Obj)} {x y:Str} {tC tD:Tok} {h':Heap} {tk':Nat} (F:Fr h₀ L h' m) (N:News h₀ L h' news) (hx:m (Str.ofString "a") = some (.str x tC)) (hy:m (Str.ofString "b") = some (.str y tD)) (h:x.length ≤ y.length):SwapEnd h₀ L m news s x y .next { s with heap := h',toks := tk' } :=
  SwapEnd.yes F N (C := x) (D := y) (tC := tC) (tD := tD) (by funext z;split
                                                              · rename_i e;rw [e,hy]
                                                              · split
                                                                · rename_i e;rw [e,hx]
                                                                · rfl) (.inl ⟨rfl,rfl,h⟩)
theorem SwapEnd.yes2 {m:Str→Option Value} {news:List (Addr × Obj)} {x y C D:Str} {tC tD:Tok} {h':Heap} {tk':Nat} (F:Fr h₀ L h' (fun z=>if z = Str.ofString "a" then some (.str C tC) else if z = Str.ofString "b" then some (.str D tD) else m z)) (N:News h₀ L h' news)
    (h:(C = x ∧ D = y ∧ x.length ≤ y.length) ∨ (C = y ∧ D = x ∧ y.length < x.length)):SwapEnd h₀ L m news s x y .next { s with heap := h',toks := tk' } :=
  SwapEnd.yes F N (C := C) (D := D) (tC := tC) (tD := tD) (by
    funext z
    by_cases e1:z = Str.ofString "a"
    · rw [if_pos e1,if_neg (by rw [e1];decide),if_pos e1]
    · rw [if_neg e1]
      split
      · rfl
      · first | rfl | (rw [if_neg e1])) h
theorem swap_join {M:Model} {st:Stmt} {m:Str→Option Value} {news:List (Addr × Obj)} {x y:Str} {tx' ty:Tok} (_F:Fr h₀ L s.heap m) (_N:News h₀ L s.heap news) (_hx:m (Str.ofString "a") = some (.str x tx')) (_hy:m (Str.ofString "b") = some (.str y ty))
    (h:wpAny M A (exec st env) (SwapEnd h₀ L m news s x y) E s)
    (h2:∀ C D tC tD h' tk',((C = x ∧ D = y ∧ x.length ≤ y.length) ∨ (C = y ∧ D = x ∧ y.length < x.length))→Fr h₀ L h' (fun z=>if z = Str.ofString "b" then some (.str D tD) else if z = Str.ofString "a" then some (.str C tC) else m z)→News h₀ L h' news→C.length ≤ D.length→D.length ≤ x.length + y.length→Q .next { s with heap := h',toks := tk' }) :
    wpAny M A (exec st env) Q E s :=
  wpAny_mono h (fun f s' q=>by
    obtain ⟨rfl,h',tk',C,D,tC,tD,rfl,F',N',hc⟩ := q
    refine h2 C D tC tD h' tk' hc F' N' ?_ ?_
    · rcases hc with ⟨rfl,rfl,h⟩ | ⟨rfl,rfl,h⟩ <;> (first | exact h | exact (Nat.le_of_lt h))
    · rcases hc with ⟨rfl,rfl,h⟩ | ⟨rfl,rfl,h⟩ <;> (first | exact (Nat.le_add_left _ _) | exact (Nat.le_add_right _ _))) fun _ _ x=>x
theorem item_sign {value slice:Expr} {x:Str} {t u:Tok} {i:Int} {Q:Value→Shared→Prop} (h0:0 ≤ i) (h1:i < x.length) (hx:x.length ≤ 100)
    (h:Q (.str ⟨#[(tx x).getD i.toNat 0]⟩ s.toks) { s with toks := s.toks + 1 })
    (hs:subscripted slice false (.str x t) (.int i u) = operate [.str x t,.int i u] (getItem (.str x t) (.int i u)) := by with_unfolding_all rfl)
    (ht:∀ r,letTemporaryGo value (.str x t) r = pure () := by intro _;with_unfolding_all rfl) :
    wpAny (model prog w) A (subscriptTail value slice (.str x t) (.int i u)) Q E s := by
  obtain ⟨c,hc,ec⟩ := tx_item h0 h1
  refine item_nn (by exact (iUp2 (Int.neg_le_neg (Int.le_trans (Int.add_le_add_right h0 1) (iGt1 h1))) h0 rfl)) h1 hx ?_ hs ht
  rw [ec]
  have e:(tx x).getD i.toNat 0 = c := by rw [List.getD_eq_getElem?_getD,hc];rfl
  rw [e] at h
  exact h
theorem pre_while {test:Expr} {body:List Stmt} {pos:Pos} {m₀:Str→Option Value} {news:List (Addr × Obj)} {x y:Str} {tx' ty t₀:Tok}
    (F:Fr h₀ L s.heap m₀) (N:News h₀ L s.heap news) (hk:m₀ (Str.ofString "pre") = some (.int 0 t₀)) (hx:m₀ (Str.ofString "a") = some (.str x tx')) (hy:m₀ (Str.ofString "b") = some (.str y ty))
    (look:∀ (k:Int) t h tk,(0 ≤ k ∧ k ≤ cpre (tx x) (tx y))→Fr h₀ L h (fun y=>if y = Str.ofString "pre" then some (.int k t) else m₀ y)→News h₀ L h news →
      wpAny (model prog w) A (isTrue test env (eval test env)) (TestEnd h₀ L (fun y=>if y = Str.ofString "pre" then some (.int k t) else m₀ y) news { s with heap := h,toks := tk } (k + 1 ≤ cpre (tx x) (tx y)) (k = cpre (tx x) (tx y))) E { s with heap := h,toks := tk })
    (turn:∀ (k:Int) t h tk,0 ≤ k→k + 1 ≤ 1000→k + 1 ≤ cpre (tx x) (tx y)→Fr h₀ L h (fun y=>if y = Str.ofString "pre" then some (.int k t) else m₀ y)→News h₀ L h news →
      wpAny (model prog w) A (execs body env) (KswPost h₀ L s (fun _=>news) (lwPs (Str.ofString "pre")) (fun _=>True) [] m₀ (fun c=>0 ≤ c.1 ∧ c.1 ≤ cpre (tx x) (tx y)) (fun c=>(cpre (tx x) (tx y) - c.1).toNat) Q (k,t)) E { s with heap := h,toks := tk })
    (done:∀ K t h tk,K = (cpre (tx x) (tx y):Int)→0 ≤ K→K ≤ x.length→K ≤ y.length→Fr h₀ L h (fun y=>if y = Str.ofString "pre" then some (.int K t) else m₀ y)→News h₀ L h news→Q .next { s with heap := h,toks := tk })
    (hs:x.length ≤ 100) (hE:PassesOwn (model prog w) A env E := by passes_own) :
    wpAny (model prog w) A (exec (.While test body [] pos) env) Q E s := by
  have hc := cpre_le (tx x) (tx y)
  rw [tx_len,tx_len] at hc
  refine my_while (Str.ofString "pre") (fun k=>0 ≤ k ∧ k ≤ cpre (tx x) (tx y)) (fun k=>k + 1 ≤ cpre (tx x) (tx y)) (cpre (tx x) (tx y)) (fun k=>(cpre (tx x) (tx y) - k).toNat) F N hk (pre_0 _ _) look (fun k t h tk a b=>turn k t h tk a.1 (by exact (iUp (Int.le_trans b (iCast (Nat.le_trans hc.1 hs))) rfl)) b) ?_ hE
  intro t h tk hP F' N'
  exact done _ t h tk rfl (by exact hP.1) (by exact (iCast hc.1)) (by exact (iCast hc.2)) F' N'
theorem post_while {test:Expr} {body:List Stmt} {pos:Pos} {m₀:Str→Option Value} {news:List (Addr × Obj)} {x y:Str} {tx' ty t₀:Tok}
    (F:Fr h₀ L s.heap m₀) (N:News h₀ L s.heap news) (hk:m₀ (Str.ofString "post") = some (.int 0 t₀)) (hx:m₀ (Str.ofString "a") = some (.str x tx')) (hy:m₀ (Str.ofString "b") = some (.str y ty))
    (look:∀ (k:Int) t h tk,(k ≤ 0 ∧ -k ≤ csuf (tx x) (tx y))→Fr h₀ L h (fun y=>if y = Str.ofString "post" then some (.int k t) else m₀ y)→News h₀ L h news →
      wpAny (model prog w) A (isTrue test env (eval test env)) (TestEnd h₀ L (fun y=>if y = Str.ofString "post" then some (.int k t) else m₀ y) news { s with heap := h,toks := tk } (-(k - 1) ≤ csuf (tx x) (tx y)) (-k = csuf (tx x) (tx y))) E { s with heap := h,toks := tk })
    (turn:∀ (k:Int) t h tk,k ≤ 0→-1000 ≤ k - 1→-(k - 1) ≤ csuf (tx x) (tx y)→Fr h₀ L h (fun y=>if y = Str.ofString "post" then some (.int k t) else m₀ y)→News h₀ L h news →
      wpAny (model prog w) A (execs body env) (KswPost h₀ L s (fun _=>news) (lwPs (Str.ofString "post")) (fun _=>True) [] m₀ (fun c=>c.1 ≤ 0 ∧ -c.1 ≤ csuf (tx x) (tx y)) (fun c=>(csuf (tx x) (tx y) + c.1).toNat) Q (k,t)) E { s with heap := h,toks := tk })
    (done:∀ K t h tk,K = -(csuf (tx x) (tx y):Int)→K ≤ 0→-(x.length:Int) ≤ K→-(y.length:Int) ≤ K→Fr h₀ L h (fun y=>if y = Str.ofString "post" then some (.int K t) else m₀ y)→News h₀ L h news→Q .next { s with heap := h,toks := tk })
    (hs:x.length ≤ 100) (hE:PassesOwn (model prog w) A env E := by passes_own) :
    wpAny (model prog w) A (exec (.While test body [] pos) env) Q E s := by
  have hc := csuf_le (tx x) (tx y)
  rw [tx_len,tx_len] at hc
  refine my_while (Str.ofString "post") (fun k=>k ≤ 0 ∧ -k ≤ csuf (tx x) (tx y)) (fun k=>-(k - 1) ≤ csuf (tx x) (tx y)) (-(csuf (tx x) (tx y):Int)) (fun k=>(csuf (tx x) (tx y) + k).toNat) F N hk (suf_0 _ _) (fun k t h tk a b c=>wpAny_mono (look k t h tk a b c) (fun b s₂ q=>?_) fun _ _ x=>x) (fun k t h tk a b=>turn k t h tk a.1 (bC (fk21 (Z0 (Lg (Ls V2 K1)) V0 (Z6 V0 V1 (Z6 V1 (Lk 100) (Z4 (Lg (Lk 1000)) (Ls V2 K1) Lf)))) rfl b hc.1 hs)) b) ?_ hE
  · obtain ⟨h',tk',e,F',N',q⟩ := q
    refine ⟨h',tk',e,F',N',?_⟩
    cases b with
    | true=>exact q
    | false=>rw [if_neg (by decide)] at q ⊢;exact Int.le_antisymm (bC (fk11 (Z3 (Lg V1) V0 (Z4 V1 (Lg V0) Lf)) rfl q)) (bC (fk11 (Z2 (Lg V1) V0 (Z4 (Lg V0) V1 Lf)) rfl q))
  · intro t h tk hP F' N'
    exact done _ t h tk rfl (by exact hP.1) (bC (fk20 (Z6 V0 V1 (Z4 (Lg V1) (Lg V0) Lf)) rfl hc.1)) (bC (fk20 (Z6 V0 V1 (Z4 (Lg V1) (Lg V0) Lf)) rfl hc.2)) F' N'
end
example:True := by
  k_with "^ite" => (first
  | (k_closed;k_dflt (first | refine ite_pos (by decide) ?_ | refine ite_neg (by decide) ?_))
  | with_reducible refine ite_tt ?_
  | with_reducible refine ite_ff ?_
  | (with_reducible refine split_ine ?_ ?_ <;> intro _)
  | (with_reducible refine split_ieq ?_ ?_ <;> intro _)
  | with_reducible refine split_not ?_
  | (refine split_dec ?_ ?_ <;> intro _)
  | (refine split_bool ?_ ?_ <;> intro _))
  k_with "^subscriptTail Name Slice str ref" => (k_here;(with_reducible show wpAny _ _ (subscriptTail _ (Expr.Slice (some (Expr.Name _ _)) none none _) _ _) _ _ _);(with_reducible rename Fr _ _ _ _=>F');(with_reducible rename News _ _ _ _=>N');(refine slice_from (hsz := (by size_fits)) (s := ⟨_,_,_,_,_⟩) F' N' ?_);intro _ _ _ _ _ _ _ _)
  k_with "evalPart some" => (k_here;(with_reducible show wpAny _ _ (evalPart (some (Expr.BoolOp _ _ _)) _) _ _ _);k_dflt (refine or_join (by k_asm) (by with_unfolding_all rfl) ?_ ?_);rotate_left)
  k_with "^subscriptTail Name Slice str ref" => (k_here;(with_reducible show wpAny _ _ (subscriptTail _ (Expr.Slice none (some (Expr.BoolOp _ _ _)) none _) _ _) _ _ _);(with_reducible rename Fr _ _ _ _=>F');(with_reducible rename News _ _ _ _=>N');(refine slice_or (hsz := (by size_fits)) (s := ⟨_,_,_,_,_⟩) F' N' ?_);intro _ _ _ _ _ _ _ _)
  k_with "^subscriptTail Name Name str int" => (k_here;k_dflt (first
  | refine item_nn (lt_of_nonneg (And.left (by with_reducible assumption))) (pre_in' (by with_reducible assumption) (by with_reducible assumption) (by with_reducible assumption)) (by exact h1) ?_
  | refine item_nn (lt_of_nonneg (And.left (by with_reducible assumption))) (pre_in2' (by with_reducible assumption) (by with_reducible assumption) (by with_reducible assumption)) (by exact h2) ?_
  | refine item_sign (by exact (iDn (Int.add_le_add iLit iCast0) rfl)) (by (first | exact bC (fk20 (Z7 V0 V1 (Z5 (La K0 V0) V1 Lf)) rfl hi) | exact bC (fk20 (Z7 V0 V1 (Z5 (La K0 V0) V1 Lf)) rfl hi2))) (by (first | exact (nUp (Nat.le_trans hm9 (Nat.add_le_add (nOfI (Int.not_lt.mp (by assumption))) (nOfI (Int.not_lt.mp (by assumption))))) rfl) | exact (nUp (Nat.le_trans hl9 (Nat.le_trans hm9 (Nat.add_le_add (nOfI (Int.not_lt.mp (by assumption))) (nOfI (Int.not_lt.mp (by assumption)))))) rfl))) ?_))
  k_with "^subscriptTail Name Name ref int" => ((with_reducible show wpAny _ _ (subscriptTail _ _ (Value.ref _) (Value.int _ _)) _ _ _);k_dflt (refine item_list_intsR (by is_list) (by assumption) (by first | decide | omega) (by first | idx_side | (simp;omega)) (by first | decide | omega) ?_);intro _)
  k_with "^subscriptTail Name BinOp str int" => (k_here;k_dflt (first
  | refine item_nn (suf_in' (by with_reducible assumption) (by with_reducible assumption) (by with_reducible assumption)) (lt_of_neg (And.left (by with_reducible assumption))) (by exact (Nat.le_trans (by assumption) h1)) ?_
  | refine item_nn (suf_in2' (by with_reducible assumption) (by with_reducible assumption) (by with_reducible assumption)) (lt_of_neg (And.left (by with_reducible assumption))) (by exact (Nat.le_trans (by assumption) h2)) ?_))
  k_with "exec If" => (k_here;(with_reducible show wpAny _ _ (exec (Stmt.If _ (Stmt.Assign (Expr.Tuple _ _ _ :: _) _ _ :: _) _ _) _) _ _ _);k_dflt (refine swap_join (by k_asm) (by k_asm) (by with_unfolding_all rfl) (by with_unfolding_all rfl) (wpAny_If ?_) ?_);rotate_left;(intro C9 D9 tC9 tD9 h9 tk9 hc9 F9 N9 hl9 hm9);rotate_right)
  k_with "call type:list" => (k_here;(rename IsRange _ _ _ _ _ _ _ _=>R9);k_dflt (refine list_two rfl (by k_asm) (by k_asm) R9 (by exact (nUp (Nat.le_trans hl9 (Nat.le_trans hm9 (Nat.add_le_add (nOfI (Int.not_lt.mp (by assumption))) (nOfI (Int.not_lt.mp (by assumption)))))) rfl)) ?_);intro h9 tk9 ys9 D9 nn9 F9 N9 l9 hi9)
  k_with "call ref" => (k_here;k_dflt (show wpAny _ _ (call (Value.ref 135) _) _ _ _);k_dflt (refine ctr_use (by k_asm) (by k_asm) (by k_asm) (by k_asm) (by k_asm) (by walk_at "ctr K") (cost_tells (show 1 ≤ 100 by decide) (show 1 ≤ 100 by decide)) (by walk_at "ctr D") (by walk_at "ctr U") ?_);walk_at "ctr back")
  trivial
theorem lev_tells {w:World} {mean:ExcName→Option Value} {mg mb:Str→Option Value} {news:List (Addr × Obj)} {one other:Str} {mc:Int} {t1 t2 t3:Tok} (h1:one.length ≤ 100) (h2:other.length ≤ 100) (m0:-10 ≤ mc) (m1:mc ≤ 1000) :
    Ctr w mean mg mb 142 2 [.str one t1,.str other t2,.int mc t3] news (fun r=>∃ t,r = .int (levOf (tx one) (tx other) mc) t) := by
  intros _ w mean mg mb news one other mc t1 t2 t3 _ h1 h2 m0 m1
  k_with "exec While" => k_dflt (
    refine post_while (by k_asm) (by k_asm) (by with_unfolding_all rfl) (by with_unfolding_all rfl) (by with_unfolding_all rfl) ?_ ?_ ?_ (by exact (Nat.le_trans (by assumption) h1))
    intro k t h tk hP F9 N9
    rotate_left
    intro k t h tk hP1 hP2 hT F9 N9
    rotate_left
    intro K t h tk hK hK0 hK1 hK2 F9 N9
    rotate_left)
  k_with "exec While" => k_dflt (
    refine pre_while (by k_asm) (by k_asm) (by with_unfolding_all rfl) (by with_unfolding_all rfl) (by with_unfolding_all rfl) ?_ ?_ ?_ (by exact h1)
    intro k t h tk hP F9 N9
    rotate_left
    intro k t h tk hP1 hP2 hT F9 N9
    rotate_left
    intro K t h tk hK hK0 hK1 hK2 F9 N9
    rotate_left)
  k_with "setItem ref int" => k_dflt (
    refine ksa_set (by k_asm) (by k_asm) (by k_upd) hvs (by exact (iDn (Int.add_le_add iLit iCast0) rfl)) (by rw [hlen3];exact bC (fk30 (Z7 V0 V1 (Z9 V2 V1 (Z5 (La K0 V0) V2 Lf))) rfl hi2 hlen)) (bC (fk50 (Z7 V0 V1 (Z6 V2 (La V3 V4) (Z6 V1 V2 (Z5 (Lk 40) V4 (Z5 (Lk 40) V3 (Z5 (La K0 V0) (Lk 9223372036854775808) Lf)))))) rfl hi2 hm9 hl9 (by assumption) (by assumption))) ?_
    intro h8 F8 N8 hi8 hl8 hs8)
  k_with "pyIter ref" => k_dflt (
    rename IsRange _ _ _ _ _ _ _ _=>R9
    refine lev_inner rfl (by k_asm) (by with_unfolding_all rfl) (by with_unfolding_all rfl) (by with_unfolding_all rfl) (by with_unfolding_all rfl) (by with_unfolding_all rfl) R9 (by rfl) (by k_asm) (by with_reducible assumption) (by with_reducible assumption) (by with_reducible assumption) (by exact (nUp (Nat.le_trans hl9 (Nat.le_trans hm9 (Nat.add_le_add (nOfI (Int.not_lt.mp (by assumption))) (nOfI (Int.not_lt.mp (by assumption)))))) rfl)) (by exact (iDn (iMulR (Int.add_le_add iLit iCast0) rfl) rfl)) (bC (fk40 (Lh 7 2 V0 V1 (Lh 6 2 V1 (La V2 V3) (Lh 5 2 (Lk 40) V3 (Lh 5 2 (Lk 40) V2 (Z4 (Lr (La K0 V0) 2) (Lk 500) Lf))))) rfl hi hm9 (by assumption) (by assumption))) ?_ ?_
    intro i2 t vs2 nn2 d res2 mn pre t1 t2 t3 u h tk own hi2 hoff hinn hpre hvs hdd hres hmn F9 N9
    have hlen3:(pre ++ row.drop i2).length = row.length := by rw [List.length_append,List.length_drop];exact Nat.le_antisymm (bC (fk40 (Z8 V0 V1 (Z8 (La V2 V1) V3 (Z10 (La V0 V2) V3 Lf))) rfl hpre (sC (bC (fk30 (Z7 V0 V1 (Z9 V2 V1 (Z10 V0 V2 Lf))) rfl hi2 hlen))))) (bC (fk40 (Z9 V0 V1 (Z9 (La V2 V1) V3 (Z10 V3 (La V0 V2) Lf))) rfl hpre (sC (bC (fk30 (Z7 V0 V1 (Z9 V2 V1 (Z10 V0 V2 Lf))) rfl hi2 hlen)))))
    rotate_left
    intro d res2 mn row2 t1 t2 t3 vs2 nn2 u h tk hinn hvs hlen2 hrow2 hres hmn F9 N9
    rotate_left)
  k_with "pyIter ref" => k_dflt (
    rename IsRange _ _ _ _ _ _ _ _=>R9
    refine lev_outer (mc := mc) rfl (by k_asm) (by with_unfolding_all rfl) (by with_unfolding_all rfl) (by with_unfolding_all rfl) R9 (by rfl) (by k_asm) (by with_reducible assumption) (by exact (nUp (Nat.le_trans hl9 (Nat.le_trans hm9 (Nat.add_le_add (nOfI (Int.not_lt.mp (by assumption))) (nOfI (Int.not_lt.mp (by assumption)))))) rfl)) (by exact (nUp (Nat.le_trans hm9 (Nat.add_le_add (nOfI (Int.not_lt.mp (by assumption))) (nOfI (Int.not_lt.mp (by assumption))))) rfl)) ?_ ?_
    intro i t vs nn row res tr u h tk own hi hoff hvs hlen hrow hr0 hr1 hrun F9 N9
    rotate_left
    intro res tr vs nn u h tk hrun F9 N9
    rotate_left)
  k_steps
  all_goals first
    | exact orV_int (by with_reducible assumption)
    | exact orV_none (by with_reducible assumption)
    | exact TestEnd.no (by k_asm) (by k_asm) (pre_no1 (by with_reducible assumption) (by with_reducible assumption) (by with_reducible assumption))
    | exact TestEnd.no (by k_asm) (by k_asm) (pre_no2 (by with_reducible assumption) (by with_reducible assumption) (by with_reducible assumption))
    | exact TestEnd.no (by k_asm) (by k_asm) (pre_no3 (by with_reducible assumption) (by with_reducible assumption) (by with_reducible assumption) (by with_reducible assumption) (by with_reducible assumption) (by with_reducible assumption))
    | exact TestEnd.yes (by k_asm) (by k_asm) (pre_yes (by with_reducible assumption) (by with_reducible assumption) (by with_reducible assumption) (by with_reducible assumption) (by with_reducible assumption) (by with_reducible assumption))
    | exact TestEnd.no (by k_asm) (by k_asm) (suf_no1 (by with_reducible assumption) (by with_reducible assumption) (by with_reducible assumption))
    | exact TestEnd.no (by k_asm) (by k_asm) (suf_no2 (by with_reducible assumption) (by with_reducible assumption) (by with_reducible assumption))
    | exact TestEnd.no (by k_asm) (by k_asm) (suf_no3 (by with_reducible assumption) (by with_reducible assumption) (by with_reducible assumption) (by with_reducible assumption) (by with_reducible assumption) (by with_reducible assumption))
    | exact TestEnd.yes (by k_asm) (by k_asm) (suf_yes (by with_reducible assumption) (by with_reducible assumption) (by with_reducible assumption) (by with_reducible assumption) (by with_reducible assumption) (by with_reducible assumption))
    | (refine my_while_end (k' := _) (by k_asm) (by k_asm) (fun p hp=>hp) rfl (fun z hz=>?_) ?_ ?_ <;> first | (simp [hz];done) | omega | skip)
    | exact SwapEnd.no (by k_asm) (by k_asm) (by with_unfolding_all rfl) (by with_unfolding_all rfl) (by (first | exact hl9 | exact bC (fk20 (Z5 V0 V1 (Z10 V1 V0 Lf)) rfl (by assumption))))
    | exact SwapEnd.yes2 (by k_asm) (by walk_at "my news") (.inr ⟨rfl,rfl,by exact bC (fk20 (Z1 V0 V1 (Z11 V0 V1 Lf)) rfl (by assumption))⟩)
    | exact hret _ _ _ ⟨_,by rw [lev_same (by with_reducible assumption)]⟩ (by k_asm) (by k_asm)
    | (have hmid := lev_mid (mc := mc) (x := one) (y := other) (by with_reducible assumption) (by with_reducible assumption) (by with_reducible assumption) (by with_reducible assumption) (by with_reducible assumption) (by with_reducible assumption) (by with_reducible assumption)
       first
       | exact hret _ _ _ ⟨_,by rw [hmid,mid_no (.inl (by with_reducible assumption))]⟩ (by k_asm) (by k_asm)
       | exact hret _ _ _ ⟨_,by rw [hmid,mid_no (.inr (by with_reducible assumption))]⟩ (by k_asm) (by k_asm)
       | exact hret _ _ _ ⟨_,by rw [hmid,mid_40 (by with_reducible assumption) (by with_reducible assumption) (.inl (by with_reducible assumption))]⟩ (by k_asm) (by k_asm)
       | exact hret _ _ _ ⟨_,by rw [hmid,mid_40 (by with_reducible assumption) (by with_reducible assumption) (.inr (by with_reducible assumption))]⟩ (by k_asm) (by k_asm)
       | (have htail := mid_tail (mc := mc) (by with_reducible assumption) (by with_reducible assumption) (by with_reducible assumption) (by with_reducible assumption) (by with_reducible assumption)
          first
          | exact hret _ _ _ ⟨_,by rw [hmid,htail,tail_far (by with_reducible assumption)]⟩ (by k_asm) (by k_asm)
          | exact hret _ _ _ ⟨_,by rw [hmid,htail,tail_run (by with_reducible assumption),hrun,lev_stop (by rw [tx_len];exact hi) hinn (by with_reducible assumption)]⟩ (by k_asm) (by walk_at "my news")
          | exact hret _ _ _ ⟨_,by rw [hmid,htail,tail_run (by with_reducible assumption),hrun]⟩ (by k_asm) (by walk_at "my news")))
    | exact li_end hinn hpre (by exact (Nat.lt_of_lt_of_le hi2 (Nat.le_of_eq (Eq.symm hlen)))) hoff hi8 (by k_asm) (by k_asm) (by rfl) (if_pos (by with_reducible assumption)).symm (by kst_all) (by kst_same)
    | exact li_end hinn hpre (by exact (Nat.lt_of_lt_of_le hi2 (Nat.le_of_eq (Eq.symm hlen)))) hoff hi8 (by k_asm) (by k_asm) (by rfl) (if_neg (by with_reducible assumption)).symm (by kst_all) (by kst_same)
    | exact lv_end hinn hi (by with_reducible assumption) hrun hvs hlen2 hrow2 hres hoff (by k_asm) (by k_asm) (by kst_all) (by kst_same)
end
section
example:True := by
  w_top off
  k_with_none
  k_with "a" => with_reducible assumption
  k_with "sh" => first | exact sh1 (by k_extra "a") rfl | exact sh2 (by k_extra "a") rfl | exact sh3 (by k_extra "a") rfl | exact sh4 (by k_extra "a") rfl | exact sl1 (by k_extra "a") rfl | exact sl2 (by k_extra "a") rfl | exact sl3 (by k_extra "a") rfl | omega
  k_with "omega" => first | k_extra "a" | decide | exact Int.not_le.mp (by k_extra "a") | exact Int.not_lt.mp (by k_extra "a") | exact nUp (by k_extra "a") rfl | exact iDn (by k_extra "a") rfl | exact iUp (by k_extra "a") rfl | exact iUpLt (by k_extra "a") rfl | exact iDn (Int.add_le_add iLit iCast0) rfl | exact iDn iCast0 rfl | exact nUpLt (Nat.add_le_add (by k_extra "a") (Nat.le_refl _)) rfl | exact Nat.ne_of_lt (Nat.lt_succ_self _) | exact Ne.symm (Nat.ne_of_lt (Nat.lt_succ_self _)) | exact Nat.ne_of_lt (by k_extra "a") | exact Ne.symm (Nat.ne_of_lt (by k_extra "a")) | exact Ne.symm (Int.ne_of_lt (by k_extra "a")) | exact Int.not_le.mpr (iUpLt (iCast (by k_extra "a")) rfl) | lia
  k_with "my news" => first | k_asm | (refine cb_drop (by assumption) (by (intro p9 hp9;kst_mem)))
  k_with "ctr K" => first | exact rfl | assumption
  k_with "ctr D" => ((try simp only [depth_under_make,depth_under_kw,depth_in1,depth_deeper,depth_caller]);(try dsimp only [ktrTop]);k_extra "sh")
  k_with "ctr U" => ((try simp only [units_in1,units_deeper,Around.mark_units,units_caller]);(try dsimp only [ktrTop]);k_extra "sh")
  k_with "nmx" => (with_reducible show wpAny _ _ (eval _ (envX _ _ _ _ _ _)) _ _ _)
  k_with "^eval Name" => (k_here;k_extra "nmx";name_kind "globalImplicit";name_is_builtin;k_dflt (refine nameX_B (by k_asm) (by k_asm) (by k_asm) (by k_is) (by boot_fast) (by decide) ?_ (by rfl) (by kernel_rfl!));k_whole)
  k_with "^eval Name" => (k_here;k_extra "nmx";name_kind "globalImplicit";k_dflt (refine nameX_K (by k_asm) (by k_asm) (by k_asm) (by k_is) ?_ (by rfl) (by kernel_rfl!));k_whole)
  k_with "^eval Name" => (k_here;k_extra "nmx";name_kind "local";k_dflt (refine nmL (by rfl) (by rfl) (by k_asm) (by exact rfl) ?_);k_whole)
  k_with "call type:range" => ((rename Fr _ _ _ _=>f9);(rename News _ _ _ _=>n9);k_dflt (first | refine range1_rows f9 n9 ?_ | refine range2_rows f9 n9 ?_);intro _ _ _ _ _ _ _ _ _)
  k_with "call builtin:len" => ((with_reducible show wpAny _ _ (call (Value.builtin "len") [Value.str _ _]) _ _ _);refine SBL.len (by omega) ?_)
  k_with "ws here" => first | k_extra "a" | exact WsIn.mono (by k_extra "a") (by intro p hp;kst_mem)
  k_with "ctr back" => (intro r9 h9 tk9 hr9 F9 N9;obtain ⟨t9,hr9⟩ := hr9;subst hr9;(try dsimp only);(try k_fold))
  trivial
example:True := by
  k_with "omega" => first | with_reducible assumption | lia
  trivial
theorem getD_of {xs:Array Nat} {i:Nat} (h:i < xs.size):xs.getD i 0 = xs[i] := by simp [h]
theorem ris_le {xs:Array Nat} (hs:xs.toList.Pairwise (· < ·)) {i k:Nat} (hik:i ≤ k) (hk:k < xs.size):xs.getD i 0 ≤ xs.getD k 0 := by
  rw [getD_of hk,getD_of (Nat.lt_of_le_of_lt hik hk)]
  rcases Nat.eq_or_lt_of_le hik with rfl | h
  · exact Nat.le_refl _
  · have := List.pairwise_iff_getElem.mp hs i k (by simpa using Nat.lt_of_le_of_lt hik hk) (by simpa using hk) h
    simp only [Array.getElem_toList] at this
    exact (Nat.le_of_lt this)
theorem below_go {xs:Array Nat} {j:Nat} (hs:xs.toList.Pairwise (· < ·)):∀ (fuel lo hi:Nat),hi ≤ xs.size→lo ≤ hi→hi - lo ≤ fuel→(∀ i,i < lo→xs.getD i 0 < j)→(∀ i,hi ≤ i→i < xs.size→j ≤ xs.getD i 0) →
    SetTable.below.go xs j fuel lo hi ≤ xs.size ∧ (∀ i,i < SetTable.below.go xs j fuel lo hi→xs.getD i 0 < j) ∧ (∀ i,SetTable.below.go xs j fuel lo hi ≤ i→i < xs.size→j ≤ xs.getD i 0) := by
  intro fuel
  induction fuel with
  | zero =>
    intro lo hi h1 h2 h3 h4 h5
    have e:lo = hi := by exact Nat.le_antisymm (bC (fk20 (Z6 V0 V1 (Z10 V0 V1 Lf)) rfl h2)) (bC (fk30 (Z6 V0 K0 (Z9 (La V0 V1) V2 (Z10 V2 V1 Lf))) rfl h3 (sC (bC (fk20 (Z6 V0 V1 (Z10 V0 V1 Lf)) rfl h2)))))
    subst e
    unfold SetTable.below.go
    exact ⟨h1,h4,h5⟩
  | succ fuel ih =>
    intro lo hi h1 h2 h3 h4 h5
    unfold SetTable.below.go
    by_cases hlt:lo < hi
    · rw [if_pos hlt]
      dsimp only
      have em:xs.getD ((lo + hi) / 2) j = xs.getD ((lo + hi) / 2) 0 := by
        have:(lo + hi) / 2 < xs.size := by exact bC (fk40 (Z7 V0 V1 (Lh 6 2 V1 V2 (Z6 (Lr V3 2) (La V0 V1) (Lh 11 2 V3 V2 Lf)))) rfl hlt h1 (Nat.div_mul_le_self _ _))
        simp [this]
      rw [em]
      by_cases hm:xs.getD ((lo + hi) / 2) 0 < j
      · rw [if_pos hm]
        refine ih _ _ h1 (bC (fk30 (Z7 V0 V1 (Z6 (Lr V2 2) (La V0 V1) (Lh 10 2 (La V2 K1) V1 Lf))) rfl hlt (Nat.div_mul_le_self _ _))) (Nat.sub_le_of_le_add (bC (fk40 (Z7 V0 V1 (Z7 (La V0 V1) (Lm 2 (La V2 K1)) (Lh 6 2 V1 (La (La V3 K1) V0) (Lh 10 2 V1 (La V3 (La V2 K1)) Lf)))) rfl hlt (Nat.lt_mul_div_succ _ (by decide)) (Nat.le_add_of_sub_le h3)))) (fun i hi'=>?_) h5
        exact Nat.lt_of_le_of_lt (ris_le hs (show i ≤ (lo + hi) / 2 by exact bC (fk20 (Z7 V0 (La V1 K1) (Z10 V0 V1 Lf)) rfl hi')) (bC (fk40 (Z7 V0 V1 (Lh 6 2 V1 V2 (Z6 (Lr V3 2) (La V0 V1) (Lh 11 2 V3 V2 Lf)))) rfl hlt h1 (Nat.div_mul_le_self _ _)))) hm
      · rw [if_neg hm]
        refine ih _ _ (bC (fk40 (Z7 V0 V1 (Lh 6 2 V1 V2 (Z6 (Lr V3 2) (La V0 V1) (Lh 10 2 V3 V2 Lf)))) rfl hlt h1 (Nat.div_mul_le_self _ _))) (bC (fk30 (Z7 V0 V1 (Z7 (La V0 V1) (Lm 2 (La V2 K1)) (Lh 10 2 V0 V2 Lf))) rfl hlt (Nat.lt_mul_div_succ _ (by decide)))) (Nat.sub_le_of_le_add (bC (fk40 (Z7 V0 V1 (Z6 (Lr V2 2) (La V0 V1) (Lh 6 2 V1 (La (La V3 K1) V0) (Lh 10 2 V2 (La V3 V0) Lf)))) rfl hlt (Nat.div_mul_le_self _ _) (Nat.le_add_of_sub_le h3)))) h4 (fun i hi' hx=>?_)
        exact Nat.le_trans (Nat.le_of_not_lt hm) (ris_le hs hi' hx)
    · rw [if_neg hlt]
      have e:lo = hi := by exact (Nat.le_antisymm h2 (Nat.le_of_not_lt hlt))
      subst e
      exact ⟨h1,h4,h5⟩
theorem below_spec {xs:Array Nat} (hs:xs.toList.Pairwise (· < ·)) (j:Nat):SetTable.below xs j ≤ xs.size ∧ (∀ i,i < SetTable.below xs j→xs.getD i 0 < j) ∧ (∀ i,SetTable.below xs j ≤ i→i < xs.size→j ≤ xs.getD i 0) :=
  below_go hs xs.size 0 xs.size (Nat.le_refl _) (Nat.zero_le _) (bC (fk20 (Z8 (La V0 K0) V1 (Z10 V0 V1 Lf)) rfl (sC (bC (fk10 (Z12 V0 (Z10 K0 V0 Lf)) rfl trivial))))) (by intro i h;lia) (by intro i h1 h2;omega)
structure TabOk (t:SetTable) (n:Nat):Prop where
  mask:t.mask + 1 ∈ [8,16,32,64,128,256,512,1024]
  size:t.place.size = n
  dum:t.dummies = #[]
  ris:t.place.toList.Pairwise (· < ·)
  le:∀ p ∈ t.place.toList,p ≤ t.mask
  plain:t.plain = true
theorem has_nil (j:Nat):SetTable.has #[] j = false := by simp [SetTable.has]
theorem slot_empty {t:SetTable} {n:Nat} (h:TabOk t n) {j:Nat} (e:t.slot j = .empty):j ∉ t.place.toList := by
  intro hm
  obtain ⟨i,hi,hij⟩ := List.getElem_of_mem hm
  obtain ⟨b1,b2,b3⟩ := below_spec h.ris j
  have hi':i < t.place.size := by simpa using hi
  have hv:t.place.getD i 0 = j := by rw [getD_of hi'];simpa using hij
  have h1:SetTable.below t.place j ≤ i := by
    rcases Nat.lt_or_ge i (SetTable.below t.place j) with h | h
    · have := b2 i h;lia
    · exact h
  have h2:SetTable.below t.place j < t.place.size := by exact (Nat.lt_of_le_of_lt h1 hi')
  have h3:t.place.getD (SetTable.below t.place j) 0 = j := by
    have a1 := b3 _ (Nat.le_refl _) h2
    have a2 := ris_le h.ris h1 hi'
    exact (Nat.le_antisymm (Nat.le_trans a2 (Nat.le_of_eq hv)) a1)
  unfold SetTable.slot at e
  dsimp only at e
  rw [if_pos (by rw [Array.getElem?_eq_getElem h2,← getD_of h2,h3];simp)] at e
  cases e
theorem slot_not {t:SetTable} {n:Nat} (h:TabOk t n) {j:Nat} (e:t.slot j ≠ .empty):j ∈ t.place.toList ∧ ∃ i,t.slot j = .live i := by
  unfold SetTable.slot at e ⊢
  dsimp only at e ⊢
  by_cases hc:(t.place[SetTable.below t.place j]? == some j) = true
  · rw [if_pos hc]
    have := beq_iff_eq.mp hc
    refine ⟨?_,_,rfl⟩
    have h2 := Array.getElem?_eq_some_iff.mp this
    obtain ⟨h2,h3⟩ := h2
    rw [← h3]
    exact Array.mem_toList_iff.mpr (Array.getElem_mem h2)
  · rw [if_neg hc,h.dum,has_nil] at e
    exact absurd rfl e
noncomputable def nextI (M i:Nat):Nat := (i * 5 + 1) % M
noncomputable def iterI (M:Nat):Nat→Nat→Nat
  | 0,i=>i
  | n + 1,i=>iterI M n (nextI M i)
theorem iterI_add (M a b i:Nat):iterI M (a + b) i = iterI M b (iterI M a i) := by
  induction a generalizing i with
  | zero=>simp [iterI]
  | succ a ih=>rw [Nat.succ_add];exact ih _
noncomputable def orbI (M:Nat):Nat→Nat→Nat→Nat
  | 0,_,acc=>acc
  | n + 1,i,acc=>orbI M n (nextI M i) (acc ||| (1 <<< i))
theorem orbI_bit (M:Nat):∀ (n i acc j:Nat),(orbI M n i acc).testBit j = true→acc.testBit j = true ∨ ∃ t,t < n ∧ iterI M t i = j
  | 0,_,_,_,h=>.inl h
  | n + 1,i,acc,j,h=>by
    rcases orbI_bit M n (nextI M i) _ j h with h | ⟨t,ht,e⟩
    · rw [Nat.testBit_or,Bool.or_eq_true] at h
      rcases h with h | h
      · exact .inl h
      · refine .inr ⟨0,Nat.zero_lt_succ _,?_⟩
        rw [Nat.one_shiftLeft,Nat.testBit_two_pow] at h
        exact of_decide_eq_true h
    · exact .inr ⟨t + 1,Nat.succ_lt_succ ht,e⟩
noncomputable def roundI (M:Nat):Bool := orbI M M 0 0 == 2 ^ M - 1 && iterI M M 0 == 0
set_option maxRecDepth 100000 in
theorem roundI_all:([8,16,32,64,128,256,512,1024].all roundI) = true := by decide +kernel
theorem cover {M:Nat} (hM:M ∈ [8,16,32,64,128,256,512,1024]) {i j:Nat} (hi:i < M) (hj:j < M):∃ t,t < M ∧ iterI M t i = j := by
  have h := List.all_eq_true.mp roundI_all M hM
  unfold roundI at h
  rw [Bool.and_eq_true,beq_iff_eq,beq_iff_eq] at h
  have get:∀ k,k < M→∃ t,t < M ∧ iterI M t 0 = k := fun k hk=>by
    have := orbI_bit M M 0 0 k (by rw [h.1,Nat.testBit_two_pow_sub_one];exact decide_eq_true hk)
    rcases this with h | h
    · simp at h
    · exact h
  obtain ⟨a,ha,ea⟩ := get i hi
  obtain ⟨b,hb,eb⟩ := get j hj
  by_cases hab:a ≤ b
  · exact ⟨b - a,by exact bC (fk40 (Z7 V0 V1 (Z8 (La V2 V3) V0 (Z12 V3 (Z11 V2 V1 Lf)))) rfl hb (sC (bC (fk20 (Z6 V0 V1 (Z10 V0 V1 Lf)) rfl hab))) trivial),by rw [← ea,← iterI_add,show a + (b - a) = b by exact Nat.le_antisymm (bC (fk30 (Z8 (La V0 V1) V2 (Z10 (La V1 V0) V2 Lf)) rfl (sC (bC (fk20 (Z6 V0 V1 (Z10 V0 V1 Lf)) rfl hab))))) (bC (fk30 (Z9 (La V0 V1) V2 (Z10 V2 (La V1 V0) Lf)) rfl (sC (bC (fk20 (Z6 V0 V1 (Z10 V0 V1 Lf)) rfl hab))))),eb]⟩
  · refine ⟨M - a + b,by exact bC (fk40 (Z10 V0 V1 (Z8 (La V2 V0) V3 (Z11 (La V2 V1) V3 Lf))) rfl hab (sC (bC (fk20 (Z7 V0 V1 (Z10 V0 V1 Lf)) rfl ha)))),?_⟩
    rw [← ea,← iterI_add,show a + (M - a + b) = M + b by exact Nat.le_antisymm (bC (fk40 (Z8 (La V0 V1) V2 (Z10 (La V1 (La V0 V3)) (La V2 V3) Lf)) rfl (sC (bC (fk20 (Z7 V0 V1 (Z10 V0 V1 Lf)) rfl ha))))) (bC (fk40 (Z9 (La V0 V1) V2 (Z10 (La V2 V3) (La V1 (La V0 V3)) Lf)) rfl (sC (bC (fk20 (Z7 V0 V1 (Z10 V0 V1 Lf)) rfl ha))))),iterI_add,h.2,eb]
noncomputable def leapI (mask:Nat):Nat→Nat × Nat→Nat × Nat
  | 0,p=>p
  | n + 1,p=>leapI mask n (SetTable.leap mask p.1 p.2)
theorem leap_0 {mask:Nat} (n:Nat):∀ i,leapI mask n (i,0) = (iterI (mask + 1) n i,0) := by
  induction n with
  | zero=>intro i;rfl
  | succ n ih =>
    intro i
    show leapI mask n (SetTable.leap mask i 0) = _
    rw [show SetTable.leap mask i 0 = (nextI (mask + 1) i,0) from by simp [SetTable.leap,nextI],ih]
    rfl
theorem leap_lt {mask i p:Nat}:(SetTable.leap mask i p).1 < mask + 1 := Nat.mod_lt _ (Nat.succ_pos _)
theorem leapI_succ (mask:Nat) (n:Nat) (p:Nat × Nat):leapI mask (n + 1) p = SetTable.leap mask (leapI mask n p).1 (leapI mask n p).2 := by
  induction n generalizing p with
  | zero=>rfl
  | succ n ih=>exact ih _
theorem leap_cover {mask:Nat} (hM:mask + 1 ∈ [8,16,32,64,128,256,512,1024]) {i p j:Nat} (hp:p < 1024) (hj:j < mask + 1):∃ n,1 ≤ n ∧ n ≤ mask + 3 ∧ (leapI mask n (i,p)).1 = j := by
  have e2:(leapI mask 2 (i,p)).2 = 0 := by
    show p / 32 / 32 = 0
    exact Nat.le_antisymm (bC (fk30 (Z7 V0 (Lk 1024) (Lh 6 32 (Lr V1 32) V2 (Z6 (Lr V2 32) V0 (Lh 10 1024 V1 K0 Lf)))) rfl hp (Nat.div_mul_le_self _ _) (Nat.div_mul_le_self _ _))) (bC (fk10 (Z12 V0 (Z10 K0 V0 Lf)) rfl trivial))
  have l2:(leapI mask 2 (i,p)).1 < mask + 1 := leap_lt
  obtain ⟨t,ht,e⟩ := cover hM l2 hj
  refine ⟨2 + t,by exact (nDn (Nat.add_le_add nLit (Nat.zero_le _)) rfl),by exact bC (fk20 (Z7 V0 (La V1 K1) (Z10 (La K2 V0) (La V1 (Lk 3)) Lf)) rfl ht),?_⟩
  have add:∀ a b q,leapI mask (a + b) q = leapI mask b (leapI mask a q) := by
    intro a b
    induction a with
    | zero=>intro q;simp [leapI]
    | succ a ih=>intro q;rw [Nat.succ_add];exact ih _
  rw [add]
  have:leapI mask 2 (i,p) = ((leapI mask 2 (i,p)).1,0) := by rw [← e2]
  rw [this,leap_0]
  exact e
theorem runEnd_le {mask i:Nat} (h:i ≤ mask):i ≤ SetTable.runEnd mask i ∧ SetTable.runEnd mask i ≤ mask ∧ SetTable.runEnd mask i ≤ i + 9 := by
  unfold SetTable.runEnd
  split <;> (first | exact ⟨(Nat.le_add_right _ _),⟨(by assumption),(Nat.le_refl _)⟩⟩ | exact ⟨(Nat.le_refl _),⟨h,(Nat.le_add_right _ _)⟩⟩)
theorem probe_go {t:SetTable} {n:Nat} (h:TabOk t n) {hashAt:Nat→Int} {x:Int} (hx:∀ i,(hashAt i == x) = false):∀ (fuel:Nat) (p:SetTable.Probe) (F:Nat),p.dummy = none→p.j + p.more ≤ t.mask→p.more ≤ 9→10 * F + p.more + 1 ≤ fuel →
    (∃ j,SetTable.probe.go t hashAt x fuel p = some (.empty j none) ∧ j ≤ t.mask ∧ t.slot j = .empty) ∨ ∀ k,1 ≤ k→k ≤ F→t.slot (leapI t.mask k (p.i,p.perturb)).1 ≠ .empty := by
  intro fuel
  induction fuel with
  | zero=>intro p F _ _ _ hf;lia
  | succ fuel ih =>
    intro p F hd hj hm hf
    unfold SetTable.probe.go
    by_cases e:t.slot p.j = .empty
    · rw [e]
      exact .inl ⟨p.j,by rw [hd],by exact bC (fk30 (Z6 (La V0 V1) V2 (Z12 V1 (Z10 V0 V2 Lf))) rfl hj trivial),e⟩
    · obtain ⟨_,i,hi⟩ := slot_not h e
      rw [hi]
      dsimp only
      rw [hx i,if_neg (by decide)]
      by_cases hmore:p.more > 0
      · have ea:t.advance p = { p with j := p.j + 1,more := p.more - 1 } := by unfold SetTable.advance;rw [if_pos hmore]
        rw [ea]
        exact ih _ F hd (by dsimp only;exact bC (fk40 (Z6 (La V0 V1) V2 (Z8 (La V3 K1) V1 (Z10 (La (La V0 K1) V3) V2 Lf))) rfl hj (sC (bC (fk10 (Z7 K0 V0 (Z10 K1 V0 Lf)) rfl hmore))))) (by dsimp only;exact (nUp (Nat.sub_le_sub_right hm _) rfl)) (by dsimp only;exact bC (fk40 (Z6 (La (La (Lm 10 V0) V1) K1) (La V2 K1) (Z8 (La V3 K1) V1 (Z10 (La (La (Lm 10 V0) V3) K1) V2 Lf))) rfl hf (sC (bC (fk10 (Z7 K0 V0 (Z10 K1 V0 Lf)) rfl hmore)))))
      · cases F with
        | zero=>exact .inr fun k h1 h2=>by lia
        | succ F =>
          have ea:t.advance p = { p with j := (SetTable.leap t.mask p.i p.perturb).1,more := SetTable.runEnd t.mask (SetTable.leap t.mask p.i p.perturb).1 - (SetTable.leap t.mask p.i p.perturb).1,i := (SetTable.leap t.mask p.i p.perturb).1,perturb := (SetTable.leap t.mask p.i p.perturb).2 } := by
            unfold SetTable.advance;rw [if_neg hmore]
          have lt := leap_lt (mask := t.mask) (i := p.i) (p := p.perturb)
          obtain ⟨r1,r2,r3⟩ := runEnd_le (mask := t.mask) (i := (SetTable.leap t.mask p.i p.perturb).1) (bC (fk20 (Z7 V0 (La V1 K1) (Z10 V0 V1 Lf)) rfl lt))
          rw [ea]
          have := ih { p with j := (SetTable.leap t.mask p.i p.perturb).1,more := SetTable.runEnd t.mask (SetTable.leap t.mask p.i p.perturb).1 - (SetTable.leap t.mask p.i p.perturb).1,i := (SetTable.leap t.mask p.i p.perturb).1,perturb := (SetTable.leap t.mask p.i p.perturb).2 } F hd (by dsimp only;exact bC (fk40 (Z6 V0 V1 (Z8 (La V2 V3) V0 (Z10 (La V3 V2) V1 Lf))) rfl r2 (sC (bC (fk20 (Z6 V0 V1 (Z10 V0 V1 Lf)) rfl r1))))) (by dsimp only;exact bC (fk30 (Z6 V0 (La V1 (Lk 9)) (Z8 (La V2 V1) V0 (Z10 V2 (Lk 9) Lf))) rfl r3 (sC (bC (fk20 (Z6 V0 V1 (Z10 V0 V1 Lf)) rfl r1))))) (by dsimp only;exact bC (fk60 (Z6 V0 (La V1 (Lk 9)) (Z6 (La (La (Lm 10 (La V2 K1)) V3) K1) (La V4 K1) (Z8 (La V5 V1) V0 (Z12 V3 (Z10 (La (La (Lm 10 V2) V5) K1) V4 Lf))))) rfl r3 hf (sC (bC (fk20 (Z6 V0 V1 (Z10 V0 V1 Lf)) rfl r1))) trivial))
          rcases this with h1 | h1
          · exact .inl h1
          · by_cases e1:t.slot (SetTable.leap t.mask p.i p.perturb).1 = .empty
            · left
              cases fuel with
              | zero=>lia
              | succ fuel =>
                unfold SetTable.probe.go
                dsimp only
                rw [e1]
                exact ⟨_,by rw [hd],by exact (Nat.le_trans r1 r2),e1⟩
            · right
              intro k k1 k2
              cases k with
              | zero=>lia
              | succ k =>
                cases k with
                | zero=>exact e1
                | succ k=>exact h1 (k + 1) (by exact (Nat.le_add_left _ _)) (bC (fk20 (Z6 (La (La V0 K1) K1) (La V1 K1) (Z10 (La V0 K1) V1 Lf)) rfl k2))
theorem bits_small {h:Int} (h0:0 ≤ h) (h1:h < 1024):SetTable.bits h < 1024 := by
  unfold SetTable.bits
  lia
theorem freeSlot_ok {t:SetTable} {n:Nat} (h:TabOk t n) (hn:n ≤ t.mask) {x:Int} (h0:0 ≤ x) (h1:x < 1024):∃ j,t.freeSlot x = some (j,false) ∧ j ≤ t.mask ∧ t.slot j = .empty := by
  have hb := bits_small h0 h1
  have hi:SetTable.bits x % (t.mask + 1) ≤ t.mask := Nat.le_of_lt_succ (Nat.mod_lt _ (Nat.succ_pos _))
  obtain ⟨r1,r2,r3⟩ := runEnd_le hi
  have key := probe_go h (hashAt := fun _=>x + 1) (x := x) (fun _=>by simp;exact (fun e9=>fk01 (Z2 (La V0 K1) V0 Lf) rfl e9)) (10 * SetTable.turns t.mask) (t.probeStart x) (t.mask + 3) rfl (by unfold SetTable.probeStart;dsimp only;exact bC (fk40 (Z6 V0 V1 (Z8 (La V2 V3) V0 (Z10 (La V3 V2) V1 Lf))) rfl r2 (sC (bC (fk20 (Z6 V0 V1 (Z10 V0 V1 Lf)) rfl r1))))) (by unfold SetTable.probeStart;dsimp only;exact bC (fk30 (Z6 V0 (La V1 (Lk 9)) (Z8 (La V2 V1) V0 (Z10 V2 (Lk 9) Lf))) rfl r3 (sC (bC (fk20 (Z6 V0 V1 (Z10 V0 V1 Lf)) rfl r1))))) (by unfold SetTable.probeStart SetTable.turns;dsimp only;exact bC (fk40 (Z6 V0 (La V1 (Lk 9)) (Z8 (La V2 V1) V0 (Z10 (La (La (Lm 10 (La V3 (Lk 3))) V2) K1) (Lm 10 (La V3 (Lk 15))) Lf))) rfl r3 (sC (bC (fk20 (Z6 V0 V1 (Z10 V0 V1 Lf)) rfl r1)))))
  rcases key with ⟨j,e,hj,hs⟩ | key
  · refine ⟨j,?_,hj,hs⟩
    unfold SetTable.freeSlot SetTable.probe
    rw [e];rfl
  · exfalso
    have all:∀ j,j < t.mask + 1→j ∈ t.place.toList := fun j hj=>by
      obtain ⟨k,k1,k2,e⟩ := leap_cover h.mask (i := (t.probeStart x).i) (p := (t.probeStart x).perturb) (j := j) hb hj
      have := (slot_not h (key k k1 k2)).1
      rwa [e] at this
    have := List.Nodup.length_le_of_subset (l₁ := List.range (t.mask + 1)) (l₂ := t.place.toList) List.nodup_range fun j hj=>all j (List.mem_range.mp hj)
    rw [List.length_range,Array.length_toList,h.size] at this
    exact fk20 (Z6 (La V0 K1) V1 (Z6 V1 V0 Lf)) rfl this hn
theorem filterMap_cg {f g:Nat→Option Nat}:∀ {l:List Nat},(∀ i ∈ l,g i = f i)→l.filterMap g = l.filterMap f
  | [],_=>rfl
  | a :: r,h=>by
    have ih := filterMap_cg (l := r) fun i hi=>h i (.tail _ hi)
    cases ha:f a with
    | none=>rw [List.filterMap_cons_none ha,List.filterMap_cons_none (by rw [h a (.head _),ha]),ih]
    | some b=>rw [List.filterMap_cons_some ha,List.filterMap_cons_some (by rw [h a (.head _),ha]),ih]
theorem filterMap_set {f g:Nat→Option Nat} {j v:Nat}:∀ {l:List Nat},l.Nodup→j ∈ l→f j = none→g j = some v→(∀ i,i ≠ j→g i = f i)→(l.filterMap g).Perm (v :: l.filterMap f)
  | [],_,h,_,_,_=>absurd h List.not_mem_nil
  | a :: r,hn,hj,hf,hg,ho=>by
    rw [List.nodup_cons] at hn
    by_cases e:a = j
    · subst e
      rw [List.filterMap_cons_some hg,List.filterMap_cons_none hf]
      have:r.filterMap g = r.filterMap f := filterMap_cg fun i hi=>ho i fun q=>hn.1 (q ▸ hi)
      rw [this]
    · have hj':j ∈ r := by
        rcases List.mem_cons.mp hj with q | q
        · exact absurd q.symm e
        · exact q
      have ih := filterMap_set (l := r) hn.2 hj' hf hg ho
      cases ha:f a with
      | none=>rw [List.filterMap_cons_none (by rw [ho a e,ha]),List.filterMap_cons_none ha];exact ih
      | some b =>
        rw [List.filterMap_cons_some (b := b) (by rw [ho a e,ha]),List.filterMap_cons_some (b := b) ha]
        exact (List.Perm.cons b ih).trans (List.Perm.swap ..)
theorem filterMap_full {f:Nat→Option Nat}:∀ {l:List Nat},(∀ j ∈ l,f j ≠ none)→(l.filterMap f).length = l.length
  | [],_=>rfl
  | a :: r,h=>by
    cases ha:f a with
    | none=>exact absurd ha (h a (.head _))
    | some b=>rw [List.filterMap_cons_some ha,List.length_cons,List.length_cons,filterMap_full fun j hj=>h j (.tail _ hj)]
theorem filterMap_sub {f:Nat→Option Nat} (hf:∀ j v,f j = some v→v = j):∀ (l:List Nat),(l.filterMap f).Sublist l
  | []=>List.Sublist.refl _
  | a :: r=>by
    cases ha:f a with
    | none=>rw [List.filterMap_cons_none ha];exact (filterMap_sub hf r).cons a
    | some b =>
      rw [List.filterMap_cons_some ha,hf a b ha]
      exact (filterMap_sub hf r).cons_cons a
theorem free_free {mask:Nat} {owner:Array (Option Nat)}:∀ (fuel i p j:Nat),SetTable.layClean.free mask owner fuel i p = some j→owner.getD j (some 0) = none
  | 0,_,_,_,h=>by unfold SetTable.layClean.free at h;cases h
  | fuel + 1,i,p,j,h=>by
    unfold SetTable.layClean.free at h
    split at h
    · rename_i k hk
      cases h
      have := List.find?_some hk
      simpa using this
    · exact free_free fuel _ _ j h
theorem free_none {mask:Nat} {owner:Array (Option Nat)}:∀ (fuel i p:Nat),i ≤ mask→SetTable.layClean.free mask owner fuel i p = none→∀ k,k < fuel→owner.getD (leapI mask k (i,p)).1 (some 0) ≠ none
  | 0,_,_,_,_,k,hk=>absurd hk (Nat.not_lt_zero _)
  | fuel + 1,i,p,hi,h,k,hk=>by
    unfold SetTable.layClean.free at h
    split at h
    · cases h
    · rename_i hf
      cases k with
      | zero =>
        intro e
        have := List.find?_eq_none.mp hf 0 (List.mem_range.mpr (by have := (runEnd_le hi).1;exact bC (fk30 (Z6 V0 V1 (Z9 (La V2 V0) (La V1 K1) (Z11 K0 V2 Lf))) rfl this (sC (bC (fk20 (Z6 V0 V1 (Z10 V0 (La V1 K1) Lf)) rfl this))))))
        apply this
        show (owner.getD (i + 0) (some 0)).isNone = true
        rw [show owner.getD (i + 0) (some 0) = none from e];rfl
      | succ k=>exact free_none fuel _ _ (Nat.le_of_lt_succ leap_lt) h k (bC (fk20 (Z7 (La V0 K1) (La V1 K1) (Z11 V0 V1 Lf)) rfl hk))
structure LayInv (mask k:Nat) (owner:Array (Option Nat)):Prop where
  size:owner.size = mask + 1
  perm:((List.range (mask + 1)).filterMap fun j=>owner.getD j none).Perm (List.range k)
theorem lay_step {mask k:Nat} {owner:Array (Option Nat)} (hM:mask + 1 ∈ [8,16,32,64,128,256,512,1024]) (I:LayInv mask k owner) (hk:k ≤ mask) {h:Int} (h0:0 ≤ h) (h1:h < 1024) :
    ∃ j,SetTable.layClean.free mask owner (SetTable.turns mask) (SetTable.bits h % (mask + 1)) (SetTable.bits h) = some j ∧ LayInv mask (k + 1) (owner.setIfInBounds j (some k)) := by
  have hb := bits_small h0 h1
  have hi:SetTable.bits h % (mask + 1) ≤ mask := Nat.le_of_lt_succ (Nat.mod_lt _ (Nat.succ_pos _))
  cases e:SetTable.layClean.free mask owner (SetTable.turns mask) (SetTable.bits h % (mask + 1)) (SetTable.bits h) with
  | none =>
    exfalso
    have hn := free_none _ _ _ hi e
    have all:∀ j ∈ List.range (mask + 1),owner.getD j none ≠ none := fun j hj=>by
      have hj' := List.mem_range.mp hj
      obtain ⟨n,n1,n2,en⟩ := leap_cover hM (i := SetTable.bits h % (mask + 1)) (p := SetTable.bits h) hb hj'
      have := hn n (by unfold SetTable.turns;exact bC (fk20 (Z6 V0 (La V1 (Lk 3)) (Z11 V0 (La V1 (Lk 15)) Lf)) rfl n2))
      rw [en] at this
      have hs:j < owner.size := by rw [I.size];exact hj'
      simpa [hs] using this
    have l1 := filterMap_full all
    rw [I.perm.length_eq,List.length_range,List.length_range] at l1
    exact fk20 (Z9 V0 (La V1 K1) (Z6 V0 V1 Lf)) rfl l1 hk
  | some j =>
    refine ⟨j,rfl,?_⟩
    have hf := free_free _ _ _ _ e
    have hj:j < owner.size := by
      rcases Nat.lt_or_ge j owner.size with q | q
      · exact q
      · rw [Array.getD_eq_getD_getElem?,Array.getElem?_eq_none q] at hf;cases hf
    have hf':owner.getD j none = none := by
      rw [Array.getD_eq_getD_getElem?,Array.getElem?_eq_getElem hj] at hf ⊢
      simpa using hf
    refine ⟨by rw [Array.size_setIfInBounds,I.size],?_⟩
    have := filterMap_set (f := fun j=>owner.getD j none) (g := fun i=>(owner.setIfInBounds j (some k)).getD i none) (j := j) (v := k) (l := List.range (mask + 1)) List.nodup_range
      (List.mem_range.mpr (by rw [← I.size];exact hj)) hf' (by simp [hj]) (fun i hi'=>by simp [Array.getD_eq_getD_getElem?,Ne.symm hi'])
    refine this.trans ?_
    rw [List.range_succ (n := k)]
    exact ((I.perm.cons k)).trans (List.perm_append_singleton k _).symm
noncomputable abbrev Small (h:Int):Prop := 0 ≤ h ∧ h < 1024
theorem lay_all {mask:Nat} (hM:mask + 1 ∈ [8,16,32,64,128,256,512,1024]):∀ (hs:List Int) (k:Nat) (owner:Array (Option Nat)),LayInv mask k owner→k + hs.length ≤ mask + 1→(∀ h ∈ hs,Small h) →
    ∃ owner',hs.foldl (fun acc h=>do
        let (owner,k) ← acc
        let j ← SetTable.layClean.free mask owner (SetTable.turns mask) (SetTable.bits h % (mask + 1)) (SetTable.bits h)
        pure (owner.setIfInBounds j (some k),k + 1)) (some (owner,k)) = some (owner',k + hs.length) ∧ LayInv mask (k + hs.length) owner'
  | [],k,owner,I,_,_=>⟨owner,rfl,I⟩
  | h :: hs,k,owner,I,hl,hh=>by
    rw [List.length_cons] at hl
    obtain ⟨j,e,I'⟩ := lay_step hM I (bC (fk30 (Z6 (La V0 (La V1 K1)) (La V2 K1) (Z12 V1 (Z10 V0 V2 Lf))) rfl hl trivial)) (hh h (.head _)).1 (hh h (.head _)).2
    obtain ⟨o',e',I''⟩ := lay_all hM hs (k + 1) _ I' (bC (fk30 (Z6 (La V0 (La V1 K1)) (La V2 K1) (Z10 (La (La V0 K1) V1) (La V2 K1) Lf)) rfl hl)) fun x hx=>hh x (.tail _ hx)
    refine ⟨o',?_,?_⟩
    · rw [List.foldl_cons]
      show List.foldl _ (do let j ← SetTable.layClean.free mask owner (SetTable.turns mask) (SetTable.bits h % (mask + 1)) (SetTable.bits h);pure (owner.setIfInBounds j (some k),k + 1)) hs = _
      rw [e]
      show List.foldl _ (some (owner.setIfInBounds j (some k),k + 1)) hs = _
      rw [e',List.length_cons,Nat.add_assoc,Nat.add_comm 1]
    · rw [List.length_cons,show k + (hs.length + 1) = k + 1 + hs.length by exact Nat.le_antisymm (bC (fk20 (Z10 (La V0 (La V1 K1)) (La (La V0 K1) V1) Lf) rfl)) (bC (fk20 (Z10 (La (La V0 K1) V1) (La V0 (La V1 K1)) Lf) rfl))]
      exact I''
theorem laid_ok {mask finger moves:Nat} {led:Bool} {hashes:Array Int} (hM:mask + 1 ∈ [8,16,32,64,128,256,512,1024]) (hn:hashes.size ≤ mask) (hh:∀ h ∈ hashes.toList,Small h) :
    ∃ t order,SetTable.laid mask finger moves led true hashes = some (t,order) ∧ order.toList.Perm (List.range hashes.size) ∧ TabOk t hashes.size ∧ t.mask = mask ∧ t.led = led ∧ t.finger = finger ∧ t.moves = moves := by
  have I0:LayInv mask 0 (Array.replicate (mask + 1) none) := ⟨by simp,by
    have:(List.range (mask + 1)).filterMap (fun j=>(Array.replicate (mask + 1) (none:Option Nat)).getD j none) = [] := by
      rw [List.filterMap_eq_nil_iff]
      intro j hj
      rw [Array.getD_eq_getD_getElem?]
      have := List.mem_range.mp hj
      simp [this]
    rw [this];exact .nil⟩
  obtain ⟨owner,e,I⟩ := lay_all hM hashes.toList 0 _ I0 (by rw [Array.length_toList];exact bC (fk20 (Z6 V0 V1 (Z10 (La K0 V0) (La V1 K1) Lf)) rfl hn)) hh
  rw [Nat.zero_add] at e I
  rw [Array.length_toList] at e I
  have ec:SetTable.layClean mask hashes = some owner := by
    unfold SetTable.layClean
    rw [← Array.foldl_toList]
    exact (congrArg (Option.map (·.1)) e).trans rfl
  have e1:((List.range (mask + 1)).filterMap fun j=>(owner.getD j none).map (j,·)).map (·.2) = (List.range (mask + 1)).filterMap fun j=>owner.getD j none := by
    rw [List.map_filterMap]
    exact filterMap_cg fun i _=>by simp [Option.map_map,Function.comp_def]
  have sub:((((List.range (mask + 1)).filterMap fun j=>(owner.getD j none).map (j,·)).map (·.1))).Sublist (List.range (mask + 1)) := by
    rw [List.map_filterMap]
    refine filterMap_sub (fun j v hv=>?_) _
    cases ho:owner.getD j none with
    | none=>rw [ho] at hv;cases hv
    | some b=>rw [ho] at hv;cases hv;rfl
  refine ⟨{ mask,place := (((List.range (mask + 1)).filterMap fun j=>(owner.getD j none).map (j,·)).map (·.1)).toArray,dummies := #[],finger,led,moves,plain := true },(((List.range (mask + 1)).filterMap fun j=>(owner.getD j none).map (j,·)).map (·.2)).toArray,?_,?_,⟨hM,?_,rfl,?_,?_,rfl⟩,rfl,rfl,rfl,rfl⟩
  · unfold SetTable.laid
    rw [ec];rfl
  · show (((List.range (mask + 1)).filterMap fun j=>(owner.getD j none).map (j,·)).map (·.2)).Perm _
    rw [e1];exact I.perm
  · show (List.toArray _).size = _
    rw [List.size_toArray,List.length_map,← List.length_map (f := fun q:Nat × Nat=>q.2),e1,I.perm.length_eq,List.length_range]
  · exact List.Pairwise.sublist sub List.pairwise_lt_range
  · intro p hp
    exact Nat.le_of_lt_succ (List.mem_range.mp (sub.subset hp))
structure EntOk (es:Array (Int × Value)):Prop where
  ent:∀ e ∈ es.toList,∃ (k:Nat) (t:Tok),k < 240 ∧ e = ((k:Int),.int k t)
  nd:(es.toList.map (·.1)).Nodup
theorem EntOk.size {es:Array (Int × Value)} (h:EntOk es):es.size ≤ 240 := by
  have := List.Nodup.length_le_of_subset (l₁ := es.toList.map (·.1)) (l₂ := (List.range 240).map fun k:Nat=>(k:Int)) h.nd (fun x hx=>by
    obtain ⟨e,he,rfl⟩ := List.mem_map.mp hx
    obtain ⟨k,t,hk,rfl⟩ := h.ent e he
    exact List.mem_map.mpr ⟨k,List.mem_range.mpr hk,rfl⟩)
  simpa using this
theorem EntOk.small {es:Array (Int × Value)} (h:EntOk es):∀ x ∈ (es.map (·.1)).toList,Small x := fun x hx=>by
  rw [Array.toList_map] at hx
  obtain ⟨e,he,rfl⟩ := List.mem_map.mp hx
  obtain ⟨k,t,hk,rfl⟩ := h.ent e he
  show (0:Int) ≤ (k:Int) ∧ (k:Int) < 1024
  exact ⟨(iDn iCast0 rfl),(iUpLt (iCast (nLt1 hk)) rfl)⟩
theorem EntOk.perm {es es':Array (Int × Value)} (h:EntOk es) (p:es'.toList.Perm es.toList):EntOk es' :=
  ⟨fun e he=>h.ent e (p.mem_iff.mp he),(p.map _).nodup_iff.mpr h.nd⟩
theorem order_perm {α:Type} {es:Array α} {order:Array Nat} (p:order.toList.Perm (List.range es.size)):(order.filterMap (es[·]?)).toList.Perm es.toList := by
  rw [Array.toList_filterMap]
  exact (p.filterMap _).trans (by rw [filterMap_getElem?_range])
theorem sizeAbove_go:∀ (fuel size n:Nat),n < size * 2 ^ fuel→n < SetTable.sizeAbove.go n fuel size ∧ (∃ k,k ≤ fuel ∧ SetTable.sizeAbove.go n fuel size = size * 2 ^ k ∧ (k = 0 ∨ size * 2 ^ (k - 1) ≤ n))
  | 0,size,n,h=>by unfold SetTable.sizeAbove.go;exact ⟨by simpa using h,0,Nat.le_refl _,by simp,.inl rfl⟩
  | fuel + 1,size,n,h=>by
    unfold SetTable.sizeAbove.go
    by_cases hc:size ≤ n
    · rw [if_pos hc]
      obtain ⟨a,k,k1,k2,k3⟩ := sizeAbove_go fuel (size * 2) n (by rw [Nat.pow_succ] at h;rw [Nat.mul_assoc,Nat.mul_comm 2];exact h)
      refine ⟨a,k + 1,by exact (Nat.succ_le_of_lt (Nat.lt_succ_of_le k1)),by rw [k2,Nat.pow_succ,Nat.mul_assoc,Nat.mul_comm 2],.inr ?_⟩
      rcases k3 with rfl | k3
      · simpa using hc
      · cases k with
        | zero=>simpa using hc
        | succ k=>rw [Nat.add_sub_cancel] at k3 ⊢;rw [Nat.pow_succ];rw [Nat.mul_assoc,Nat.mul_comm 2] at k3;exact k3
    · rw [if_neg hc]
      exact ⟨by exact (Nat.lt_of_not_le hc),0,by exact (nDn (Nat.add_le_add (Nat.zero_le _) nLit) rfl),by simp,.inl rfl⟩
theorem sizeAbove_ok {n:Nat} (h:n < 1024):n < SetTable.sizeAbove n ∧ SetTable.sizeAbove n - 1 + 1 ∈ [8,16,32,64,128,256,512,1024] := by
  obtain ⟨a,k,_,e,hk⟩ := sizeAbove_go 64 8 n (Nat.lt_of_lt_of_le h (by decide))
  refine ⟨a,?_⟩
  have e':SetTable.sizeAbove n = 8 * 2 ^ k := e
  have k8:k ≤ 7 := by
    rcases hk with rfl | hk
    · exact (by decide)
    · rcases Nat.lt_or_ge 7 k with h8 | h8
      · have h9:2 ^ 7 ≤ 2 ^ (k - 1) := Nat.pow_le_pow_right (by decide) (bC (fk20 (Z7 (Lk 7) V0 (Z9 (La V1 K1) V0 (Z10 (Lk 7) V1 Lf))) rfl h8 (sC (bC (fk10 (Z7 (Lk 7) V0 (Z10 K1 V0 Lf)) rfl h8)))))
        lia
      · exact h8
  rw [e']
  have all:∀ k:Fin 8,8 * 2 ^ k.val - 1 + 1 ∈ [8,16,32,64,128,256,512,1024] := by decide
  exact all ⟨k,Nat.lt_succ_of_le k8⟩
noncomputable def TabFit (t:SetTable) (n:Nat):Prop := TabOk t n ∧ n * 5 < t.mask * 3
theorem TabOk.fits {t:SetTable} {n:Nat} (h:TabOk t n) (hn:n ≤ t.mask):t.fits n = true := by
  unfold SetTable.fits SetTable.fill
  rw [h.size,h.dum]
  simp [hn]
theorem put_ok {t:SetTable} {n j:Nat} (h:TabOk t n) (hj:j ≤ t.mask) (e:t.slot j = .empty):TabOk (t.put j).1 (n + 1) ∧ (t.put j).1.mask = t.mask ∧ (t.put j).1.led = t.led := by
  obtain ⟨b1,b2,b3⟩ := below_spec h.ris j
  have hne := slot_empty h e
  unfold SetTable.put
  dsimp only
  rw [h.dum,has_nil]
  refine ⟨⟨h.mask,?_,rfl,?_,?_,h.plain⟩,rfl,rfl⟩
  · show (SetTable.insertAt _ _ _).size = _
    rw [← Array.length_toList,SetTable.toList_insertAt,List.length_append,List.length_cons,List.length_take,List.length_drop,Array.length_toList,h.size]
    have := h.size
    exact Nat.le_antisymm (bC (fk40 (Z8 V0 V1 (Z8 (La V2 V1) V3 (Z10 (La V0 (La V2 K1)) (La V3 K1) Lf))) rfl (Nat.min_eq_left (bC (fk30 (Z8 V0 V1 (Z6 V2 V0 (Z10 V2 V1 Lf))) rfl this b1))) (sC (bC (fk30 (Z8 V0 V1 (Z6 V2 V0 (Z10 V2 V1 Lf))) rfl this b1))))) (bC (fk40 (Z9 V0 V1 (Z9 (La V2 V1) V3 (Z10 (La V3 K1) (La V0 (La V2 K1)) Lf))) rfl (Nat.min_eq_left (bC (fk30 (Z8 V0 V1 (Z6 V2 V0 (Z10 V2 V1 Lf))) rfl this b1))) (sC (bC (fk30 (Z8 V0 V1 (Z6 V2 V0 (Z10 V2 V1 Lf))) rfl this b1)))))
  · show (SetTable.insertAt _ _ _).toList.Pairwise (· < ·)
    rw [SetTable.toList_insertAt,List.pairwise_append,List.pairwise_cons]
    refine ⟨h.ris.sublist (List.take_sublist ..),⟨fun x hx=>?_,h.ris.sublist (List.drop_sublist ..)⟩,fun x hx y hy=>?_⟩
    · obtain ⟨i,hi,rfl⟩ := List.getElem_of_mem hx
      rw [List.length_drop,Array.length_toList] at hi
      have := b3 (SetTable.below t.place j + i) (by exact (Nat.le_add_right _ _)) (bC (fk40 (Z7 V0 V1 (Z8 (La V1 V2) V3 (Z11 (La V2 V0) V3 Lf))) rfl hi (sC (bC (fk20 (Z6 V0 V1 (Z10 V0 V1 Lf)) rfl b1)))))
      rw [getD_of (by exact bC (fk40 (Z7 V0 V1 (Z8 (La V1 V2) V3 (Z11 (La V2 V0) V3 Lf))) rfl hi (sC (bC (fk20 (Z6 V0 V1 (Z10 V0 V1 Lf)) rfl b1)))))] at this
      have hm:t.place[SetTable.below t.place j + i] ∈ t.place.toList := Array.mem_toList_iff.mpr (Array.getElem_mem _)
      rw [List.getElem_drop,Array.getElem_toList]
      rcases Nat.eq_or_lt_of_le this with q | q
      · exact absurd (q ▸ hm) hne
      · exact q
    · obtain ⟨i,hi,rfl⟩ := List.getElem_of_mem hx
      rw [List.length_take,Array.length_toList] at hi
      have hx' := b2 i (bC (fk30 (Z7 V0 V1 (Z8 V1 V2 (Z11 V0 V2 Lf))) rfl hi (Nat.min_eq_left (bC (fk20 (Z6 V0 V1 (Z10 V0 V1 Lf)) rfl b1)))))
      rw [getD_of (by exact bC (fk40 (Z7 V0 V1 (Z6 V2 V3 (Z8 V1 V2 (Z11 V0 V3 Lf)))) rfl hi b1 (Nat.min_eq_left (bC (fk20 (Z6 V0 V1 (Z10 V0 V1 Lf)) rfl b1)))))] at hx'
      rw [List.getElem_take,Array.getElem_toList]
      rcases List.mem_cons.mp hy with rfl | hy
      · exact hx'
      · obtain ⟨k,hk,rfl⟩ := List.getElem_of_mem hy
        rw [List.length_drop,Array.length_toList] at hk
        have := b3 (SetTable.below t.place j + k) (by exact (Nat.le_add_right _ _)) (bC (fk40 (Z7 V0 V1 (Z8 (La V1 V2) V3 (Z11 (La V2 V0) V3 Lf))) rfl hk (sC (bC (fk20 (Z6 V0 V1 (Z10 V0 V1 Lf)) rfl b1)))))
        rw [getD_of (by exact bC (fk40 (Z7 V0 V1 (Z8 (La V1 V2) V3 (Z11 (La V2 V0) V3 Lf))) rfl hk (sC (bC (fk20 (Z6 V0 V1 (Z10 V0 V1 Lf)) rfl b1)))))] at this
        rw [List.getElem_drop,Array.getElem_toList]
        exact (Nat.lt_of_lt_of_le hx' this)
  · intro p hp
    rw [show (SetTable.insertAt t.place (SetTable.below t.place j) j).toList = _ from SetTable.toList_insertAt ..] at hp
    rcases List.mem_append.mp hp with hp | hp
    · exact h.le p (List.mem_of_mem_take hp)
    · rcases List.mem_cons.mp hp with rfl | hp
      · exact hj
      · exact h.le p (List.mem_of_mem_drop hp)
theorem layNew_ok {t:SetTable} {es:Array (Int × Value)} {x:Int} {v:Value} (h:TabFit t es.size) (h0:0 ≤ x) (h1:x < 1024) :
    ∃ es' t',layNew t es x v = (es',t',false,false) ∧ TabOk t' (es.size + 1) ∧ t'.mask = t.mask ∧ t'.led = t.led ∧ es'.toList.Perm (es.push (x,v)).toList := by
  have hf := h.2
  obtain ⟨j,e,hj,hs⟩ := freeSlot_ok h.1 (bC (fk20 (Z7 (Lr V0 5) (Lr V1 3) (Lh 12 2 V1 Lf (Lh 10 5 V0 V1 Lf))) rfl hf trivial)) h0 h1
  obtain ⟨p1,p2,p3⟩ := put_ok h.1 hj hs
  refine ⟨SetTable.insertAt es (t.put j).2 (x,v),(t.put j).1,?_,p1,p2,p3,SetTable.insertAt_perm ..⟩
  unfold layNew
  rw [e]
  dsimp only
  have hsz:(SetTable.insertAt es (t.put j).2 (x,v)).size = es.size + 1 := by
    rw [← Array.length_toList,(SetTable.insertAt_perm es (t.put j).2 (x,v)).length_eq,Array.length_toList,Array.size_push]
  have hfit:(t.put j).1.fits (SetTable.insertAt es (t.put j).2 (x,v)).size = true := by
    rw [hsz];exact p1.fits (by rw [p2];exact bC (fk20 (Z7 (Lr V0 5) (Lr V1 3) (Lh 12 2 V0 Lf (Lh 10 3 (La V0 K1) V1 Lf))) rfl hf trivial))
  show (_,SetTable.orStandIn _ _,false,!SetTable.fits _ _) = _
  unfold SetTable.orStandIn
  rw [hfit]
  rfl
theorem Small.nat {k:Nat} (h:k < 240):Small (k:Int) := by
  show (0:Int) ≤ (k:Int) ∧ (k:Int) < 1024
  exact ⟨(iDn iCast0 rfl),(iUpLt (iCast (nLt1 h)) rfl)⟩
theorem relay_ok {t:SetTable} {es:Array (Int × Value)} {wanted:Nat} (hp:t.plain = true) (he:EntOk es) (hw:wanted < 1024) (hb:es.size * 5 < wanted * 3) :
    ∃ t' order,t.relaid (es.map (·.1)) wanted = some (t',order) ∧ TabFit t' es.size ∧ t'.led = t.led ∧ (order.filterMap (es[·]?)).toList.Perm es.toList ∧ order.toList.Perm (List.range es.size) ∧ wanted ≤ t'.mask := by
  obtain ⟨a1,a2⟩ := sizeAbove_ok hw
  unfold SetTable.relaid
  rw [hp]
  obtain ⟨t',order,e,p,ok,em,el,_,_⟩ := laid_ok (mask := SetTable.sizeAbove wanted - 1) (finger := t.finger) (moves := t.movedTo (SetTable.sizeAbove wanted - 1)) (led := t.led) (hashes := es.map (·.1)) a2 (by rw [Array.size_map];exact bC (fk40 (Lh 7 5 V0 V1 (Z7 (Lr V2 5) (Lr V0 3) (Lh 9 5 (La V3 K1) V1 (Lh 12 2 V0 Lf (Lh 10 5 V2 V3 Lf))))) rfl a1 hb (sC (bC (fk20 (Z7 V0 V1 (Z12 V0 (Z10 K1 V1 Lf))) rfl a1 trivial))) trivial)) he.small
  rw [Array.size_map] at p ok
  exact ⟨t',order,e,⟨ok,by rw [em];exact bC (fk40 (Lh 7 3 V0 V1 (Z7 (Lr V2 5) (Lr V0 3) (Lh 9 3 (La V3 K1) V1 (Z11 (Lr V2 5) (Lr V3 3) Lf)))) rfl a1 hb (sC (bC (fk20 (Z7 V0 V1 (Z12 V0 (Z10 K1 V1 Lf))) rfl a1 trivial))))⟩,el,order_perm p,p,by rw [em];exact bC (fk30 (Z7 V0 V1 (Z9 (La V2 K1) V1 (Z10 V0 V2 Lf))) rfl a1 (sC (bC (fk20 (Z7 V0 V1 (Z12 V0 (Z10 K1 V1 Lf))) rfl a1 trivial))))⟩
theorem relayAll_ok {t:SetTable} {es:Array (Int × Value)} {wanted:Nat} (hp:t.plain = true) (he:EntOk es) (hw:wanted < 1024) (hb:es.size * 5 < wanted * 3) :
    ∃ es' t',relayAll t es wanted = (es',t',false) ∧ TabFit t' es.size ∧ t'.led = t.led ∧ es'.toList.Perm es.toList := by
  obtain ⟨t',order,e,ok,el,p,pr,_⟩ := relay_ok hp he hw hb
  have hsz:(order.filterMap (es[·]?)).size = es.size := by rw [← Array.length_toList,p.length_eq,Array.length_toList]
  refine ⟨order.filterMap (es[·]?),t',?_,ok,el,p⟩
  unfold relayAll
  rw [e]
  dsimp only
  have hc:coversAll order es.size = true := by
    unfold coversAll
    exact List.isPerm_iff.mpr pr
  have hfit:t'.fits (order.filterMap (es[·]?)).size = true := by
    rw [hsz]
    exact ok.1.fits (by have := ok.2;exact bC (fk20 (Z7 (Lr V0 5) (Lr V1 3) (Lh 12 2 V1 Lf (Lh 10 5 V0 V1 Lf))) rfl this trivial))
  rw [hc,hfit]
  rfl
theorem EntOk.push {es es':Array (Int × Value)} {k:Nat} {tk:Tok} (h:EntOk es) (hk:k < 240) (hn:(k:Int) ∉ es.toList.map (·.1)) (p:es'.toList.Perm (es.push ((k:Int),.int k tk)).toList):EntOk es' := by
  rw [Array.toList_push] at p
  refine ⟨fun e he=>?_,?_⟩
  · rcases List.mem_append.mp (p.mem_iff.mp he) with he | he
    · exact h.ent e he
    · exact ⟨k,tk,hk,List.mem_singleton.mp he⟩
  · refine (p.map _).nodup_iff.mpr ?_
    rw [List.map_append,List.nodup_append]
    exact ⟨h.nd,by simp,fun a ha b hb=>by
      simp only [List.map_cons,List.map_nil,List.mem_singleton] at hb
      rw [hb]
      exact fun q=>hn (q ▸ ha)⟩
theorem hash_small {k:Nat} (h:k < 240):hashInt (k:Int) = (k:Int) := by
  have:∀ k,k < 240→hashInt ((k:Nat):Int) = (k:Int) := by decide +kernel
  exact this k h
noncomputable abbrev byText (w:World):Bool := w.params.followText "set-order"
inductive SetIs (w:World) (o:Obj) (S:Nat→Prop):Prop
  | con
      (q1:o.ExactSet) (es:_) (ep:_) (t:_)
      (q2:o.data = .set es ep t)
      (q3:EntOk es)
      (q4:TabFit t es.size)
      (q5:t.led = !(byText w))
      (q6:∀ k:Nat,S k ↔ (k:Int) ∈ es.toList.map (·.1)):SetIs w o S
theorem SetIs.congr {w:World} {o:Obj} {S S':Nat→Prop} (h:SetIs w o S) (e:∀ k,S' k ↔ S k):SetIs w o S' :=
  let ⟨a,es,ep,t,b,c,d,f,g⟩ := h;⟨a,es,ep,t,b,c,d,f,fun k=>(e k).trans (g k)⟩
theorem EntOk.elems {prog:Program} {w:World} {es:Array (Int × Value)} (h:EntOk es):ElemsOf (intKind prog w) es.toList := fun e he=>by
  obtain ⟨k,t,hk,rfl⟩ := h.ent e he
  exact ⟨⟨(k:Int),by simp [intKind,Value.isInt],(hash_small hk).symm⟩,rfl⟩
theorem TabFit.fits {t:SetTable} {n:Nat} (h:TabFit t n):t.fits n = true := h.1.fits (by have := h.2;exact bC (fk20 (Z7 (Lr V0 5) (Lr V1 3) (Lh 12 2 V1 Lf (Lh 10 5 V0 V1 Lf))) rfl this trivial))
theorem fresh_fit (f m:Nat) (led:Bool):TabFit (.fresh f m led) 0 := ⟨⟨by show (7:Nat) + 1 ∈ _;decide,rfl,rfl,by simp [SetTable.fresh],by simp [SetTable.fresh],rfl⟩,by show 0 * 5 < 7 * 3;decide⟩
theorem setIs_fresh (w:World) (f m:Nat):SetIs w { cls := .type "set",dict := none,data := .set #[] 0 (.fresh f m (!(byText w))) } (fun _=>False) :=
  ⟨⟨rfl,rfl,rfl⟩,#[],0,_,rfl,⟨fun e he=>by simp at he,by simp⟩,fresh_fit ..,rfl,fun k=>by simp⟩
section
variable {prog:Program} {w:World} {A:Around} {E:Value→Shared→Prop} {s:Shared} {a:Addr}
theorem newSet_is {Q:Value→Shared→Prop}
    (h:Q (.ref s.heap.objs.size) { s with heap := s.heap.push { cls := .type "set",dict := none,data := .set #[] 0 (.fresh 0 0 (!(byText w))) } }):wpAny (model prog w) A (newSet (.type "set")) Q E s := by
  unfold newSet setsByText
  refine wpAny_bind (wpAny_bind (wpAny_askSetting (wpAny_pure ?_)))
  dsimp only
  simp only [newObj]
  exact wpAny_bind (wpAny_alloc (wpAny_pure h))
theorem setIs_store {h:Heap} {o:Obj} {es:Array (Int × Value)} {ep:Nat} {t:SetTable} (ho:h.get? a = some o) (hex:o.ExactSet) (hd:o.data = .set es ep t) {es':Array (Int × Value)} {t':SetTable} {S:Nat→Prop}
    (he:EntOk es') (hf:TabFit t' es'.size) (hl:t'.led = !(byText w)) (hS:∀ k:Nat,S k ↔ (k:Int) ∈ es'.toList.map (·.1)) :
    ∃ o',(h.update a (Obj.putSet es' t')).get? a = some o' ∧ o'.ExactSet ∧ o'.data = .set es' (ep + 1) t' ∧ SetIs w o' S := by
  have hg:(h.update a (Obj.putSet es' t')).get? a = some { o with data := .set es' (ep + 1) t' } := by
    have := Heap.get?_update_self (Obj.putSet es' t') ho (by rw [putSet_of es' t' hd];rfl)
    rw [putSet_of es' t' hd] at this;exact this
  exact ⟨_,hg,hex,rfl,hex,es',ep + 1,t',rfl,he,hf,hl,hS⟩
theorem lt_scan {es:Array (Int × Value)} (h:EntOk es):es.size < scanBound := by
  have := h.size
  have e:scanBound = 4096 := rfl
  exact (nUpLt this rfl)
theorem le_line {n:Nat} (h:n ≤ 300):n ≤ sizeLine := by rw [sizeLine_eq];exact (nUp h rfl)
theorem add_is {o:Obj} {S:Nat→Prop} {k:Nat} {tk:Tok} {Q:Bool→Shared→Prop} (ho:s.heap.get? a = some o) (hS:SetIs w o S) (hk:k < 240)
    (h:∀ b h' o',Heap.SameBut a s.heap h'→h'.get? a = some o'→SetIs w o' (fun x=>S x ∨ x = k)→Q b { s with heap := h' }) :
    wpAny (model prog w) A (setAddHashed a (.int (k:Int) tk) (k:Int)) Q E s := by
  intros prog w A E s a o S k tk Q _ ho hS hk h
  obtain ⟨hex,es,ep,t,hd,he,hf,hl,hm⟩ := hS
  have hel:ElemsOf (intKind prog w) es.toList := he.elems
  have hkey:(intKind prog w).is (k:Int) (.int (k:Int) tk) = true := by simp [intKind,Value.isInt]
  unfold setAddHashed setAddHashedIn
  refine wpAny_holding (wpAny_bind (wpAny_setState_of ho hd hf.fits ?_))
  dsimp only
  rw [byScan_of (knd := intKind prog w) rfl (lt_scan he) hel]
  simp only [↓reduceIte]
  unfold setAddByScan
  refine wpAny_bind ?_
  refine wpAny_bind (wpAny_rule ?_)
  have hscan := wpAny_setScan_of (knd := intKind prog w) (A := A) (E := E) (adding := true) hkey ho hd hf.fits hel (Q := fun met s'=>s' = s ∧ met = (match es.toList.findIdx? (fun e=>(intKind prog w).is (k:Int) e.2) with | some j=>.found (0 + j) | none=>.absent)) ⟨rfl,rfl⟩
  rw [show (intKind prog w).hash (k:Int) = (k:Int) from hash_small hk] at hscan
  refine wpAny_bind (wpAny_mono hscan (fun met s' hmet=>?_) fun _ _ e=>e)
  obtain ⟨rfl,rfl⟩ := hmet
  cases hr:List.findIdx? (fun e=>(intKind prog w).is (k:Int) e.2) es.toList with
  | some j =>
    dsimp only
    obtain ⟨hj,hpj,_⟩ := List.findIdx?_eq_some_iff_getElem.mp hr
    have hmem:(k:Int) ∈ es.toList.map (·.1) := by
      obtain ⟨k',t',hk',e'⟩ := he.ent _ (List.getElem_mem hj)
      rw [e'] at hpj
      have:(k:Int) = (k':Int) := (beq_iff_eq.mp hpj).symm
      exact List.mem_map.mpr ⟨_,List.getElem_mem hj,by rw [e',this]⟩
    refine wpAny_pure (wpAny_pure ?_)
    have e:s' = { s' with heap := s'.heap } := by cases s';rfl
    rw [e]
    refine h false s'.heap o (Heap.SameBut.refl a s'.heap) ho ⟨hex,es,ep,t,hd,he,hf,hl,fun x=>?_⟩
    rw [← hm x]
    exact ⟨fun q=>q.elim id fun q=>by rw [q];exact (hm k).mpr hmem,.inl⟩
  | none =>
    dsimp only
    have hno:(k:Int) ∉ es.toList.map (·.1) := fun q=>by
      obtain ⟨e,hem,e1⟩ := List.mem_map.mp q
      obtain ⟨k',t',hk',e'⟩ := he.ent e hem
      have := List.findIdx?_eq_none_iff.mp hr e hem
      rw [e'] at this e1
      have e2:(k':Int) = (k:Int) := e1
      rw [e2] at this
      simp [intKind,Value.isInt] at this
    obtain ⟨es1,t1,eL,ok1,em1,el1,p1⟩ := layNew_ok (v := .int (k:Int) tk) hf (Small.nat hk).1 (Small.nat hk).2
    rw [eL]
    dsimp only
    have he1:EntOk es1 := he.push hk hno p1
    have sz1:es1.size = es.size + 1 := by rw [← Array.length_toList,p1.length_eq,Array.length_toList,Array.size_push]
    have hmem1:∀ x:Nat,(S x ∨ x = k) ↔ (x:Int) ∈ es1.toList.map (·.1) := fun x=>by
      rw [(p1.map (·.1)).mem_iff,Array.toList_push,List.map_append,List.mem_append,← hm x]
      show (S x ∨ x = k) ↔ (S x ∨ (x:Int) ∈ [(k:Int)])
      rw [List.mem_singleton]
      exact or_congr Iff.rfl (by lia)
    refine wpAny_bind ?_
    show wpAny _ _ (pure ()) _ _ _
    refine wpAny_pure ?_
    have hplain:t1.plain = true := ok1.plain
    rw [hplain]
    simp only [↓reduceIte]
    refine wpAny_bind ?_
    rw [hashByValue_scannable 8 (show (Value.int (k:Int) tk).scannable = true from rfl)]
    refine wpAny_pure ?_
    simp only [plainKind,↓reduceIte]
    refine wpAny_bind (wpAny_storeSet_of ho hd ?_ (le_line (by have := he1.size;exact (nUp this rfl))))
    have hsb1 := Heap.SameBut.update s'.heap a (Obj.putSet es1 t1)
    by_cases hfull:(es.size + 1) * 5 < t1.mask * 3
    · have ntf:t1.tooFull = false := by
        unfold SetTable.tooFull SetTable.fill
        rw [ok1.size,ok1.dum]
        simpa using hfull
      rw [ntf]
      simp only [Bool.not_false,Bool.and_false,Bool.false_eq_true,↓reduceIte]
      refine wpAny_pure ?_
      refine wpAny_pure ?_
      obtain ⟨o',g1,_,_,g4⟩ := setIs_store (w := w) ho hex hd he1 ⟨by rw [sz1];exact ok1,by rw [sz1];exact hfull⟩ (el1.trans hl) hmem1
      exact h true _ o' hsb1 g1 g4
    · have tf:t1.tooFull = true := by
        unfold SetTable.tooFull SetTable.fill
        rw [ok1.size,ok1.dum]
        simpa using Nat.not_lt.mp hfull
      rw [tf]
      simp only [Bool.not_false,Bool.and_self,↓reduceIte]
      have hw:SetTable.grown es1.size = es1.size * 4 := by
        unfold SetTable.grown
        rw [if_neg (by have := he1.size;exact (Nat.not_lt_of_le (nUp this rfl)))]
      obtain ⟨es2,t2,e2,ok2,el2,p2⟩ := relayAll_ok (t := t1) (wanted := SetTable.grown es1.size) ok1.plain he1 (by rw [hw];have := he1.size;exact (nUpLt (Nat.mul_le_mul this nLit) rfl)) (by rw [hw];exact bC (fk20 (Lh 9 7 V0 (La V1 K1) (Lh 12 7 V1 Lf (Z11 (Lr V0 5) (Lr (Lr V0 4) 3) Lf))) rfl sz1 trivial))
      rw [e2]
      dsimp only
      have ho1:(s'.heap.update a (Obj.putSet es1 t1)).get? a = some { o with data := .set es1 (ep + 1) t1 } := by
        have := Heap.get?_update_self (Obj.putSet es1 t1) ho (by rw [putSet_of es1 t1 hd];rfl)
        rw [putSet_of es1 t1 hd] at this;exact this
      refine wpAny_bind ?_
      show wpAny _ _ (pure ()) _ _ _
      refine wpAny_pure ?_
      refine wpAny_bind (wpAny_storeSet_of ho1 rfl ?_ (le_line (by have := (he1.perm p2).size;exact (nUp this rfl))))
      refine wpAny_pure ?_
      refine wpAny_pure ?_
      have sz2:es2.size = es1.size := by rw [← Array.length_toList,p2.length_eq,Array.length_toList]
      obtain ⟨o',g1,_,_,g4⟩ := setIs_store (w := w) (S := fun x=>S x ∨ x = k) ho1 hex rfl (he1.perm p2) (by rw [sz2];exact ok2) (el2.trans (el1.trans hl)) (fun x=>(hmem1 x).trans ((p2.map (·.1)).mem_iff).symm)
      exact h true _ o' (hsb1.trans (Heap.SameBut.update _ a _)) g1 g4
end
section
variable {prog:Program} {w:World} {A:Around} {E:Value→Shared→Prop} {s:Shared} {a:Addr}
theorem SetIs.typeIs {o:Obj} {S:Nat→Prop} (ho:s.heap.get? a = some o) (hS:SetIs w o S):s.TypeIs (.ref a) "set" := ⟨o,ho,hS.1.1⟩
theorem call_add_is {o:Obj} {S:Nat→Prop} {k:Nat} {tk:Tok} {Q:Value→Shared→Prop} (ho:s.heap.get? a = some o) (hS:SetIs w o S) (hk:k < 240)
    (h:∀ h' o',Heap.SameBut a s.heap h'→h'.get? a = some o'→SetIs w o' (fun x=>S x ∨ x = k)→Q .none { s with heap := h',toks := s.toks + 1 }) :
    wpAny (model prog w) A (call (.builtin "set.add") [.ref a,.int (k:Int) tk]) Q E s := by
  refine wpAny_call_entry F.slot_set_add (hS.typeIs ho) F.entry_set_add ?_ (F.args_set_add_2 _ _)
  unfold Builtin.«set.add» Builtin.Frozenset.oneOther
  simp only [List.isEmpty_nil,bind_assoc]
  unfold Builtin.Frozenset.addrOf setAdd
  refine wpAny_bind (wpAny_pure ?_)
  try dsimp only
  refine wpAny_bind (wpAny_pure ?_)
  try dsimp only
  refine wpAny_bind ?_
  refine wpAny_holding ?_
  refine wpAny_bind (wpAny_pyHash_int ?_)
  rw [hash_small hk]
  refine add_is (s := { s with toks := s.toks + 1 }) ho hS hk fun b h' o' hsb ho' hS'=>?_
  show wpAny _ _ (ret Value.none) _ _ _
  exact wpAny_pure ⟨_,rfl,h h' o' hsb ho' hS'⟩
theorem room_is {o:Obj} {es:Array (Int × Value)} {ep:Nat} {t:SetTable} {more:Nat} {S:Nat→Prop} {Q:Unit→Shared→Prop} (ho:s.heap.get? a = some o) (hex:o.ExactSet) (hd:o.data = .set es ep t) (he:EntOk es) (hf:TabFit t es.size) (hl:t.led = !(byText w))
    (hS:∀ k:Nat,S k ↔ (k:Int) ∈ es.toList.map (·.1)) (hm:more ≤ 240) (h0:0 < more)
    (h:∀ h' o' es' ep' t',Heap.SameBut a s.heap h'→h'.get? a = some o'→o'.ExactSet→o'.data = .set es' ep' t'→EntOk es'→TabFit t' es'.size→t'.led = !(byText w)→(∀ k:Nat,S k ↔ (k:Int) ∈ es'.toList.map (·.1))→es'.size = es.size→(es.size + more) * 5 < t'.mask * 3→Q () { s with heap := h' }) :
    wpAny (model prog w) A (setRoomFor a more) Q E s := by
  unfold setRoomFor
  refine wpAny_bind (wpAny_setState_of ho hd hf.fits ?_)
  dsimp only
  have hfill:t.fill = es.size := by unfold SetTable.fill;rw [hf.1.size,hf.1.dum];rfl
  unfold SetTable.roomFor
  rw [hfill,hf.1.size]
  by_cases hr:(es.size + more) * 5 ≥ t.mask * 3
  · rw [if_pos hr]
    dsimp only
    unfold setRelay
    refine wpAny_bind (wpAny_setState_of ho hd hf.fits ?_)
    dsimp only
    have hsz := he.size
    obtain ⟨t',order,e,ok,el,p,pr,hw⟩ := relay_ok (t := t) (wanted := (es.size + more) * 2) hf.1.plain he (by exact (nUpLt (Nat.mul_le_mul (Nat.add_le_add hsz hm) nLit) rfl)) (bC (fk20 (Lh 7 6 K0 V0 (Z12 V1 (Z11 (Lr V1 5) (Lr (Lr (La V1 V0) 2) 3) Lf))) rfl h0 trivial))
    have hline:¬ (SetTable.sizeAbove ((es.size + more) * 2) > sizeLine) := by
      have := (sizeAbove_ok (n := (es.size + more) * 2) (by exact (nUpLt (Nat.mul_le_mul (Nat.add_le_add hsz hm) nLit) rfl))).2
      rw [sizeLine_eq]
      exact Nat.not_lt.mpr (Nat.le_trans nSubA (of_decide_eq_true ((List.all_eq_true (p := fun x=>decide (x ≤ _))).mp (by decide) _ this)))
    rw [if_neg hline]
    refine wpAny_bind ?_
    rw [e]
    have sz:(order.filterMap (es[·]?)).size = es.size := by rw [← Array.length_toList,p.length_eq,Array.length_toList]
    show wpAny _ _ (if ((order.filterMap (es[·]?)).size != es.size) = true then _ else _) _ _ _
    rw [sz,if_neg (by simp)]
    refine wpAny_pure ?_
    refine wpAny_storeSet_of ho hd ?_ (le_line (by show (order.filterMap (es[·]?)).size ≤ 300;exact (nUp (Nat.le_trans (Nat.le_of_eq sz) (Nat.le_trans (Nat.le_of_eq (Eq.symm sz)) (Nat.le_trans (Nat.le_of_eq sz) hsz))) rfl)))
    obtain ⟨o',g1,g2,g3,g4⟩ := setIs_store (w := w) (S := S) (h := s.heap) ho hex hd (he.perm p) (by rw [sz];exact ok) (el.trans hl) (fun x=>(hS x).trans ((p.map (·.1)).mem_iff).symm)
    exact h _ o' _ _ t' (Heap.SameBut.update ..) g1 g2 g3 (he.perm p) (by rw [sz];exact ok) (el.trans hl) (fun x=>(hS x).trans ((p.map (·.1)).mem_iff).symm) sz (bC (fk30 (Lh 6 3 (Lr (La V0 V1) 2) V2 (Z7 K0 V1 (Z12 V0 (Z11 (Lr (La V0 V1) 5) (Lr V2 3) Lf)))) rfl hw h0 trivial))
  · rw [if_neg hr]
    dsimp only
    refine wpAny_pure ?_
    have e:s = { s with heap := s.heap } := by cases s;rfl
    rw [e]
    exact h s.heap o es ep t (Heap.SameBut.refl ..) ho hex hd he hf hl hS rfl (by exact (Nat.lt_of_not_le hr))
theorem pick_go {α:Type} (next:Nat→Nat):∀ (fuel k:Nat) (left:List α) (out:Array α),left.length = fuel→(pickOrder.go next fuel k left out).toList.Perm (out.toList ++ left)
  | 0,_,left,out,h=>by
    unfold pickOrder.go
    rw [List.eq_nil_of_length_eq_zero h,List.append_nil]
  | fuel + 1,k,left,out,h=>by
    unfold pickOrder.go
    have hlt:next k % left.length < left.length := Nat.mod_lt _ (by exact (nDnLt (Nat.le_trans (Nat.add_le_add (Nat.zero_le _) nLit) (Nat.le_of_eq (Eq.symm h))) rfl))
    rw [List.getElem?_eq_getElem hlt]
    dsimp only
    refine (pick_go next fuel (k + 1) _ _ (by rw [List.length_eraseIdx_of_lt hlt];exact Nat.le_antisymm (bC (fk30 (Z8 V0 (La V1 K1) (Z8 (La V2 K1) V0 (Z10 V2 V1 Lf))) rfl h (sC (bC (fk20 (Z7 V0 V1 (Z12 V0 (Z10 K1 V1 Lf))) rfl hlt trivial))))) (bC (fk30 (Z9 V0 (La V1 K1) (Z9 (La V2 K1) V0 (Z10 V1 V2 Lf))) rfl h (sC (bC (fk20 (Z7 V0 V1 (Z12 V0 (Z10 K1 V1 Lf))) rfl hlt trivial))))))).trans ?_
    rw [Array.toList_push,List.append_assoc]
    exact List.Perm.append_left _ (by
      show (left[next k % left.length] :: left.eraseIdx (next k % left.length)).Perm left
      rw [List.eraseIdx_eq_take_drop_succ]
      refine List.perm_middle.symm.trans ?_
      rw [← List.drop_eq_getElem_cons hlt,List.take_append_drop])
theorem pick_perm {α:Type} (next:Nat→Nat) (xs:Array α):(pickOrder next xs).toList.Perm xs.toList := by
  have := pick_go next xs.size 0 xs.toList #[] (by simp)
  unfold pickOrder
  simpa using this
theorem walk_is {o:Obj} {es:Array (Int × Value)} {ep:Nat} {t:SetTable} {Q:Array (Int × Value)→Shared→Prop} (ho:s.heap.get? a = some o) (hd:o.data = .set es ep t) (hf:TabFit t es.size) (hl:t.led = !(byText w))
    (h:∀ es',es'.toList.Perm es.toList→Q es' s):wpAny (model prog w) A (setWalk a) Q E s := by
  unfold setWalk
  refine wpAny_bind (wpAny_setState_of ho hd hf.fits ?_)
  dsimp only
  unfold setsByText
  refine wpAny_bind (wpAny_bind (wpAny_askSetting (wpAny_pure ?_)))
  show wpAny _ _ (if byText w = true then _ else _) _ _ _
  cases hb:byText w with
  | true =>
    rw [if_pos rfl]
    refine wpAny_bind (wpAny_askSetting ?_)
    exact wpAny_pure (h _ (pick_perm ..))
  | false =>
    rw [if_neg (by decide)]
    show wpAny _ _ (if (!t.plain && decide (es.size > 1)) = true then _ else _) _ _ _
    rw [hf.1.plain,if_neg (by simp)]
    rw [hb] at hl
    refine wpAny_bind ?_
    show wpAny _ _ (if (!t.led && decide (es.size > 1)) = true then _ else _) _ _ _
    rw [hl,if_neg (by simp)]
    exact wpAny_pure (wpAny_pure (h es (.refl _)))
theorem walkUnseen_is {o:Obj} {es:Array (Int × Value)} {ep:Nat} {t:SetTable} {others:List Addr} {filled:Option Addr} {Q:Array (Int × Value)→Shared→Prop} (ho:s.heap.get? a = some o) (hd:o.data = .set es ep t) (hf:TabFit t es.size) (hl:t.led = !(byText w))
    (h:∀ es',es'.toList.Perm es.toList→Q es' s):wpAny (model prog w) A (setWalkUnseen a others filled) Q E s := by
  unfold setWalkUnseen
  refine wpAny_bind (wpAny_setState_of ho hd hf.fits ?_)
  dsimp only
  unfold setsByText
  refine wpAny_bind (wpAny_bind (wpAny_askSetting (wpAny_pure ?_)))
  show wpAny _ _ (if (byText w || (t.led && t.plain) || decide (es.size ≤ 1)) = true then _ else _) _ _ _
  rw [hl,hf.1.plain,if_pos (by cases byText w <;> rfl)]
  exact walk_is ho hd hf hl h
theorem storeSet_is {o:Obj} {es:Array (Int × Value)} {ep:Nat} {t:SetTable} {es':Array (Int × Value)} {t':SetTable} {S:Nat→Prop} {Q:Unit→Shared→Prop} (ho:s.heap.get? a = some o) (hex:o.ExactSet) (hd:o.data = .set es ep t)
    (he:EntOk es') (hf:TabFit t' es'.size) (hl:t'.led = !(byText w)) (hS:∀ k:Nat,S k ↔ (k:Int) ∈ es'.toList.map (·.1))
    (h:∀ h' o',Heap.SameBut a s.heap h'→h'.get? a = some o'→SetIs w o' S→Q () { s with heap := h' }):wpAny (model prog w) A (storeSet a es' t') Q E s := by
  refine wpAny_storeSet_of ho hd ?_ (le_line (by have := he.size;exact (nUp this rfl)))
  obtain ⟨o',g1,_,_,g4⟩ := setIs_store (w := w) (S := S) (h := s.heap) ho hex hd he hf hl hS
  exact h _ o' (Heap.SameBut.update ..) g1 g4
end
section
variable {prog:Program} {w:World} {A:Around} {E:Value→Shared→Prop} {s:Shared} {a b:Addr}
theorem for_list {M:Model} {β:Type} {f:β→PUnit→Sem (ForInStep PUnit)} (I:List β→Shared→Prop) (step:∀ x r s,I (x :: r) s→wpAny M A (f x ⟨⟩) (fun st s'=>st = .yield ⟨⟩ ∧ I r s') E s) :
    ∀ (l:List β) (s:Shared),I l s→wpAny M A (forIn l PUnit.unit f) (fun _ s'=>I [] s') E s
  | [],s,h=>by
    rw [List.forIn_nil]
    exact wpAny_pure h
  | x :: r,s,h=>by
    rw [List.forIn_cons]
    refine wpAny_bind (wpAny_mono (step x r s h) (fun st s' q=>?_) fun _ _ e=>e)
    obtain ⟨rfl,q⟩ := q
    exact for_list I step r s' q
theorem merge_is {oa ob:Obj} {Sa Sb:Nat→Prop} {each:Sem Unit} {Q:Unit→Shared→Prop} (hne:a ≠ b) (ha:s.heap.get? a = some oa) (hSa:SetIs w oa Sa) (hb:s.heap.get? b = some ob) (hSb:SetIs w ob Sb)
    (heach:∀ (s':Shared) (Q':Unit→Shared→Prop),s'.heap.get? b = some ob→Q' () s'→wpAny (model prog w) A each Q' E s')
    (h:∀ h' o' tk,Heap.SameBut a s.heap h'→h'.get? a = some o'→SetIs w o' (fun x=>Sa x ∨ Sb x)→Q () { s with heap := h',toks := tk }) :
    wpAny (model prog w) A (setMerge a b each) Q E s := by
  intros prog w A E s a b oa ob Sa Sb Q _ each hne ha hSa hb hSb heach h
  obtain ⟨exb,eb,epb,tb,db,heb,hfb,hlb,hmb⟩ := hSb
  have same:s = { s with heap := s.heap,toks := s.toks } := by cases s;rfl
  unfold setMerge
  rw [if_neg (by simpa using hne)]
  refine wpAny_bind (wpAny_setState_of hb db hfb.fits ?_)
  dsimp only
  by_cases he0:eb.isEmpty = true
  · rw [if_pos he0]
    refine wpAny_pure ?_
    have:eb = #[] := by simpa using he0
    rw [same]
    refine h s.heap oa s.toks (Heap.SameBut.refl ..) ha (hSa.congr fun k=>?_)
    rw [hmb k,this]
    simp
  · rw [if_neg he0]
    have hpos:0 < eb.size := by
      rcases Nat.eq_zero_or_pos eb.size with q | q
      · exact absurd (by simpa using q) he0
      · exact q
    obtain ⟨exa,ea,epa,ta,da,hea,hfa,hla,hma⟩ := hSa
    refine wpAny_bind (room_is (S := Sa) ha exa da hea hfa hla hma heb.size hpos fun h1 o1 e1 ep1 t1 sb1 ho1 ex1 d1 he1 hf1 hl1 hm1 hsz1 hroom=>?_)
    refine wpAny_bind (wpAny_setState_of ho1 d1 hf1.fits ?_)
    dsimp only
    have hb1:h1.get? b = some ob := (sb1.2 b (Ne.symm hne)).trans hb
    have hfill:t1.fill = e1.size := by unfold SetTable.fill;rw [hf1.1.size,hf1.1.dum];rfl
    unfold SetTable.road
    rw [hfill]
    by_cases hz:(e1.size != 0) = true
    · rw [if_pos hz]
      dsimp only
      refine wpAny_bind (walkUnseen_is (s := { s with heap := h1 }) hb1 db hfb hlb fun es' p=>?_)
      rw [← Array.forIn_toList]
      refine wpAny_bind (wpAny_mono (for_list
        (fun l s'=>∃ h' o' tk,s' = { s with heap := h',toks := tk } ∧ Heap.SameBut a s.heap h' ∧ h'.get? a = some o' ∧ ∃ T,SetIs w o' T ∧ (∀ k,(T k ∨ (k:Int) ∈ l.map (·.1)) ↔ (Sa k ∨ Sb k)) ∧ ∀ e ∈ l,∃ (k:Nat) (t:Tok),k < 240 ∧ e = ((k:Int),.int k t))
        (fun x r s' q=>?_) es'.toList { s with heap := h1 } ⟨h1,o1,s.toks,by cases s;rfl,sb1,ho1,Sa,⟨ex1,e1,ep1,t1,d1,he1,hf1,hl1,hm1⟩,fun k=>by rw [(p.map (·.1)).mem_iff,← hmb k],fun e he=>heb.ent e (p.mem_iff.mp he)⟩) (fun _ s' q=>?_) fun _ _ e=>e)
      rotate_left
      · refine wpAny_pure ?_
        obtain ⟨h',o',tk,rfl,sb',ho',T,hT,hk,_⟩ := q
        exact h h' o' tk sb' ho' (hT.congr fun k=>by rw [← hk k];simp)
      · obtain ⟨h',o',tk,rfl,sb',ho',T,hT,hk,hent⟩ := q
        obtain ⟨k,t,hk240,rfl⟩ := hent x (.head _)
        dsimp only
        refine wpAny_bind (wpAny_holding (add_is (s := { s with heap := h',toks := tk }) ho' hT hk240 fun bb h2 o2 sb2 ho2 hT2=>?_))
        have hb2:h2.get? b = some ob := (sb2.2 b (Ne.symm hne)).trans ((sb'.2 b (Ne.symm hne)).trans hb)
        refine wpAny_bind (heach _ _ hb2 ?_)
        refine wpAny_bind (wpAny_setState_of (s := { s with heap := h2,toks := tk }) hb2 db hfb.fits ?_)
        dsimp only
        rw [if_neg (by simp)]
        refine wpAny_pure ⟨rfl,h2,o2,tk,rfl,sb'.trans sb2,ho2,_,hT2,fun x=>?_,fun e he=>hent e (.tail _ he)⟩
        rw [← hk x]
        simp only [List.map_cons,List.mem_cons]
        constructor
        · rintro ((q | q) | q)
          · exact .inl q
          · exact .inr (.inl (by exact (Int.le_antisymm (iCast (Nat.le_of_eq q)) (iCast (Nat.le_of_eq (Eq.symm q))))))
          · exact .inr (.inr q)
        · rintro (q | q | q)
          · exact .inl (.inl q)
          · exact .inl (.inr (Nat.le_antisymm (bC (fk20 (Z2 V0 V1 (Z10 V0 V1 Lf)) rfl q)) (bC (fk20 (Z3 V0 V1 (Z10 V1 V0 Lf)) rfl q))))
          · exact .inr q
    · rw [if_neg hz]
      have hz0:e1.size = 0 := by simpa using hz
      have hnone:∀ k,¬ Sa k := fun k q=>by
        have := (hm1 k).mp q
        have e:e1 = #[] := by simpa using hz0
        rw [e] at this
        simp at this
      have hfin:∀ k,(Sa k ∨ Sb k) ↔ (k:Int) ∈ eb.toList.map (·.1) := fun k=>by
        rw [← hmb k]
        exact ⟨fun q=>q.elim (fun q=>absurd q (hnone k)) id,.inr⟩
      by_cases hm:(t1.mask == tb.mask && tb.dummies.isEmpty) = true
      · rw [if_pos hm]
        dsimp only
        refine storeSet_is (S := fun x=>Sa x ∨ Sb x) (s := { s with heap := h1 }) ho1 ex1 d1 heb ⟨⟨hfb.1.mask,hfb.1.size,hfb.1.dum,hfb.1.ris,hfb.1.le,?_⟩,hfb.2⟩ ?_ hfin fun h2 o2 sb2 ho2 hS2=>?_
        · show (t1.plain && tb.plain) = true
          rw [hf1.1.plain,hfb.1.plain];rfl
        · show (t1.led && tb.led) = _
          rw [hl1,hlb,Bool.and_self]
        · exact h h2 o2 s.toks (sb1.trans sb2) ho2 hS2
      · rw [if_neg hm]
        dsimp only
        have hpl:(t1.plain && tb.plain) = true := by rw [hf1.1.plain,hfb.1.plain];rfl
        have hld:(t1.led && tb.led) = !(byText w) := by rw [hl1,hlb,Bool.and_self]
        rw [hpl,hld]
        obtain ⟨t2,order,e2,pr,ok2,em2,el2,_,_⟩ := laid_ok (mask := t1.mask) (finger := t1.finger) (moves := t1.moves) (led := !(byText w)) (hashes := eb.map (·.1)) hf1.1.mask (by rw [Array.size_map];exact bC (fk30 (Z7 (Lr (La V0 V1) 5) (Lr V2 3) (Lh 12 2 V2 Lf (Lh 12 5 V0 Lf (Lh 10 5 V1 V2 Lf)))) rfl hroom trivial trivial)) heb.small
        rw [Array.size_map] at pr ok2
        refine wpAny_bind ?_
        rw [e2]
        have p := order_perm (es := eb) pr
        have sz:(order.filterMap (eb[·]?)).size = eb.size := by rw [← Array.length_toList,p.length_eq,Array.length_toList]
        show wpAny _ _ (if ((order.filterMap (eb[·]?)).size != eb.size) = true then _ else _) _ _ _
        rw [sz,if_neg (by simp)]
        refine wpAny_pure ?_
        refine storeSet_is (S := fun x=>Sa x ∨ Sb x) (s := { s with heap := h1 }) ho1 ex1 d1 (heb.perm p) ⟨by rw [sz];exact ok2,by rw [sz,em2];exact bC (fk30 (Z7 (Lr (La V0 V1) 5) (Lr V2 3) (Lh 12 5 V0 Lf (Z11 (Lr V1 5) (Lr V2 3) Lf))) rfl hroom trivial)⟩ el2 (fun k=>(hfin k).trans ((p.map (·.1)).mem_iff).symm) fun h3 o3 sb3 ho3 hS3=>?_
        exact h h3 o3 s.toks (sb1.trans sb3) ho3 hS3
end
theorem entry_set_or:entryFor table "set.__or__" = some Builtin.«frozenset.__or__» :=
  entryFor_alias (id' := "frozenset.__or__") (by rw [fastTable_eq_tree];kernel_rfl) (by kernel_rfl) (by decide +kernel) (by rw [fastTable_eq_tree];kernel_rfl)
section
variable {prog:Program} {w:World} {A:Around} {E:Value→Shared→Prop} {s:Shared} {a b:Addr}
theorem anySet_is {v:Value} {Q:Bool→Shared→Prop} (hT:s.TypeIs v "set") (h:Q true s):wpAny (model prog w) A (Builtin.Frozenset.isAnySet v) Q E s := by
  unfold Builtin.Frozenset.isAnySet
  unfold orM
  refine wpAny_bind (wpAny_isInstance hT sub_set_self ?_)
  exact wpAny_pure h
theorem copy_is {oa:Obj} {Sa:Nat→Prop} {Q:Value→Shared→Prop} (ha:s.heap.get? a = some oa) (hSa:SetIs w oa Sa)
    (h:∀ h' o' tk,(∀ x o,s.heap.get? x = some o→h'.get? x = some o)→h'.get? s.heap.objs.size = some o'→SetIs w o' Sa→Q (.ref s.heap.objs.size) { s with heap := h',toks := tk }) :
    wpAny (model prog w) A (Builtin.Frozenset.copyOf a) Q E s := by
  have hT:s.TypeIs (.ref a) "set" := hSa.typeIs ha
  unfold Builtin.Frozenset.copyOf
  refine wpAny_bind ?_
  unfold Builtin.Frozenset.baseOf
  refine wpAny_bind (wpAny_isInstance hT sub_set_self ?_)
  refine wpAny_pure ?_
  rw [if_pos rfl]
  refine wpAny_bind (newSet_is ?_)
  refine wpAny_bind (m := Builtin.Frozenset.addrOf _) (wpAny_pure ?_)
  have hne:s.heap.objs.size ≠ a := fun e=>Nat.lt_irrefl _ (e ▸ Heap.lt_size ha)
  refine wpAny_bind (merge_is hne (Heap.get?_push_size _ rfl) (setIs_fresh w 0 0) (Heap.get?_push_of_some _ ha) hSa (fun s' Q' _ q=>wpAny_pure q) fun h' o' tk sb ho' hS'=>?_)
  refine wpAny_pure (h h' o' tk (fun x o e=>(sb.2 x (Nat.ne_of_lt (Heap.lt_size e))).trans (Heap.get?_push_of_some _ e)) ho' (hS'.congr fun k=>?_))
  simp
theorem or_is {oa ob:Obj} {Sa Sb:Nat→Prop} {Q:Value→Shared→Prop} (hne:a ≠ b) (ha:s.heap.get? a = some oa) (hSa:SetIs w oa Sa) (hb:s.heap.get? b = some ob) (hSb:SetIs w ob Sb)
    (h:∀ h' o' tk,(∀ x o,s.heap.get? x = some o→h'.get? x = some o)→h'.get? s.heap.objs.size = some o'→SetIs w o' (fun x=>Sa x ∨ Sb x)→Q (.ref s.heap.objs.size) { s with heap := h',toks := tk }) :
    wpAny (model prog w) A (binaryOp .BitOr (.ref a) (.ref b)) Q E s := by
  have hTa:s.TypeIs (.ref a) "set" := hSa.typeIs ha
  have hTb:s.TypeIs (.ref b) "set" := hSb.typeIs hb
  refine wpAny_binaryOp_same (op := .BitOr) hTa hTb F.fills_set_or F.slot_set_or (wpAny_call_entry F.slot_set_or hTa entry_set_or ?_ (F.args_set_or_2 _ _))
  unfold Builtin.«frozenset.__or__»
  show wpAny _ _ (Builtin.Frozenset.slot1 "__or__" ⟨[.ref a,.ref b],[]⟩ >>= _) _ _ _
  unfold Builtin.Frozenset.slot1 slotArgs
  simp only [List.isEmpty_nil,Bool.not_true,Bool.false_eq_true,↓reduceIte,bind_assoc,List.length_cons,List.length_nil,bne_self_eq_false]
  refine wpAny_bind (wpAny_pure ?_)
  refine wpAny_bind (wpAny_pure ?_)
  dsimp only
  refine wpAny_bind ?_
  unfold andM
  refine wpAny_bind (anySet_is hTa ?_)
  show wpAny _ _ (Builtin.Frozenset.isAnySet (.ref b)) _ _ _
  refine anySet_is hTb ?_
  simp only [Bool.not_true,Bool.false_eq_true,↓reduceIte]
  refine wpAny_bind (m := Builtin.Frozenset.addrOf _) (wpAny_pure ?_)
  refine wpAny_bind ?_
  show wpAny _ _ (Builtin.Frozenset.copyOf a >>= _) _ _ _
  refine wpAny_bind (copy_is ha hSa fun h1 o1 tk1 k1 ho1 hS1=>?_)
  have hb1:h1.get? b = some ob := k1 _ _ hb
  have hneD:s.heap.objs.size ≠ b := fun e=>Nat.lt_irrefl _ (e ▸ Heap.lt_size hb)
  have hbne:((Value.ref b != Value.ref a):Bool) = true := by
    simp only [bne_iff_ne,ne_eq]
    intro e
    injection e with e
    exact hne e.symm
  show wpAny _ _ (if (Value.ref b != Value.ref a) = true then _ else _) _ _ _
  rw [if_pos hbne]
  refine wpAny_bind ?_
  show wpAny _ _ (pure _) _ _ _
  refine wpAny_pure ?_
  refine wpAny_bind ?_
  refine wpAny_holding ?_
  unfold Builtin.Frozenset.updateFrom
  refine wpAny_bind (anySet_is (hSb.typeIs (s := { s with heap := h1,toks := tk1 }) hb1) ?_)
  rw [if_pos rfl]
  refine wpAny_bind ?_
  show wpAny _ _ (pure b) _ _ _
  refine wpAny_pure ?_
  obtain ⟨exb,eb,epb,tb,db,heb,hfb,hlb,hmb⟩ := id hSb
  refine wpAny_bind (m := setEpoch b) (wpAny_setEpoch_of hb1 db hfb.fits ?_)
  refine merge_is hneD ho1 hS1 hb1 hSb (fun s' Q' hb' q=>?_) fun h2 o2 tk2 sb2 ho2 hS2=>?_
  · unfold Builtin.Frozenset.unchanged
    refine wpAny_bind (wpAny_setEpoch_of hb' db hfb.fits ?_)
    rw [if_neg (by simp)]
    exact wpAny_pure q
  · refine wpAny_pure ?_
    refine wpAny_pure ⟨_,rfl,?_⟩
    refine ⟨(fun e=>by cases e),h h2 o2 tk2 (fun x o e=>(sb2.2 x (Nat.ne_of_lt (Heap.lt_size e))).trans (k1 x o e)) ho2 hS2⟩
end
theorem slot_set_iterator_next:Slot "set_iterator" "__next__" "set_iterator.__next__" :=
  .of (owner := "set_iterator") (n := "__next__") (by rw [typeLookup_type,builtinLookup_eq_fast];kernel_rfl) (by decide +kernel) (by decide +kernel) (by decide +kernel)
    (by first | exact .inl (by decide +kernel) | exact .inr (by decide +kernel)) (by rw [isSubtype_type];kernel_rfl)
theorem slot_set_iterator_iter:Slot "set_iterator" "__iter__" "set_iterator.__iter__" :=
  .of (owner := "set_iterator") (n := "__iter__") (by rw [typeLookup_type,builtinLookup_eq_fast];kernel_rfl) (by decide +kernel) (by decide +kernel) (by decide +kernel)
    (by first | exact .inl (by decide +kernel) | exact .inr (by decide +kernel)) (by rw [isSubtype_type];kernel_rfl)
theorem entry_set_iterator_next:entryFor table "set_iterator.__next__" = some Builtin.«set_iterator.__next__» := entryFor_of_tree (by kernel_rfl)
theorem entry_set_iterator_iter:entryFor table "set_iterator.__iter__" = some Builtin.«dict_keyiterator.__iter__» :=
  entryFor_alias (id' := "dict_keyiterator.__iter__") (by rw [fastTable_eq_tree];kernel_rfl) (by kernel_rfl) (by decide +kernel) (by rw [fastTable_eq_tree];kernel_rfl)
theorem entry_set_iter:entryFor table "set.__iter__" = some Builtin.«frozenset.__iter__» :=
  entryFor_alias (id' := "frozenset.__iter__") (by rw [fastTable_eq_tree];kernel_rfl) (by kernel_rfl) (by decide +kernel) (by rw [fastTable_eq_tree];kernel_rfl)
theorem args_set_iterator_next (a:Value):argsOk "set_iterator.__next__" ⟨[a],[]⟩ := by unfold argsOk;kernel_rfl
theorem args_set_iterator_iter (a:Value):argsOk "set_iterator.__iter__" ⟨[a],[]⟩ := by unfold argsOk;kernel_rfl
noncomputable abbrev setIt (slot i:Int) (a:Addr) (n ep:Int):Obj := { cls := .type "set_iterator",dict := none,data := .fields #[rawInt slot,rawInt i,.ref a,rawInt n,rawInt ep],slots := #[] }
noncomputable def SetSt (w:World) (I a:Addr) (o:Obj) (es:Array (Int × Value)) (ep:Nat) (t:SetTable) (i:Nat) (h:Heap):Prop :=
  h.get? a = some o ∧ ∃ slot:Nat,h.get? I = some (setIt slot i a es.size ep) ∧ (byText w = false→slot = if i = 0 then 0 else t.place.getD (i - 1) 0 + 1)
noncomputable def ordOf (w:World) (a:Addr) (es:Array (Int × Value)) (ep:Nat):Array (Int × Value) := if byText w = true then pickOrder (w.params.setOrder a ep) es else es
theorem ord_perm {w:World} {a:Addr} {es:Array (Int × Value)} {ep:Nat}:(ordOf w a es ep).toList.Perm es.toList := by
  unfold ordOf
  split
  · exact pick_perm ..
  · exact .refl _
theorem ord_size {w:World} {a:Addr} {es:Array (Int × Value)} {ep:Nat}:(ordOf w a es ep).size = es.size := by
  rw [← Array.length_toList,ord_perm.length_eq,Array.length_toList]
theorem below_at {t:SetTable} {n i:Nat} (h:TabOk t n) (hi:i ≤ n):SetTable.below t.place (if i = 0 then 0 else t.place.getD (i - 1) 0 + 1) = i := by
  obtain ⟨b1,b2,b3⟩ := below_spec h.ris (if i = 0 then 0 else t.place.getD (i - 1) 0 + 1)
  generalize SetTable.below t.place (if i = 0 then 0 else t.place.getD (i - 1) 0 + 1) = b at *
  have hs := h.size
  rcases Nat.lt_trichotomy b i with hlt | he | hgt
  · exfalso
    rw [if_neg (by exact (Ne.symm (Nat.ne_of_lt (nDnLt (Nat.le_trans (Nat.add_le_add_right (Nat.zero_le _) 1) hlt) rfl))))] at b3
    have h1 := b3 b (Nat.le_refl _) (by exact (Nat.lt_of_lt_of_le hlt (Nat.le_trans hi (Nat.le_of_eq (Eq.symm hs)))))
    have h2 := ris_le h.ris (show b ≤ i - 1 by exact bC (fk30 (Z7 V0 V1 (Z9 (La V2 K1) V1 (Z10 V0 V2 Lf))) rfl hlt (sC (bC (fk20 (Z7 V0 V1 (Z12 V0 (Z10 K1 V1 Lf))) rfl hlt trivial))))) (bC (fk40 (Z9 V0 V1 (Z6 V2 V1 (Z8 (La V3 K1) V2 (Z11 V3 V0 Lf)))) rfl hs hi (sC (bC (fk20 (Z7 V0 V1 (Z12 V0 (Z10 K1 V1 Lf))) rfl hlt trivial)))))
    exact fk20 (Z6 V0 V1 (Z6 (La V1 K1) V0 Lf)) rfl h2 h1
  · exact he
  · exfalso
    have h1 := b2 i hgt
    by_cases hz:i = 0
    · rw [if_pos hz] at h1;exact fk10 (Z7 V0 K0 (Z12 V0 Lf)) rfl h1 trivial
    · rw [if_neg hz] at h1
      have h3 := List.pairwise_iff_getElem.mp h.ris (i - 1) i (by simp;exact bC (fk40 (Z7 V0 V1 (Z6 V1 V2 (Z6 V3 V0 (Z11 V3 V2 Lf)))) rfl hgt b1 (Nat.sub_le _ _))) (by simp;exact (Nat.lt_of_lt_of_le hgt b1)) (by lia)
      simp only [Array.getElem_toList] at h3
      rw [getD_of (by exact (Nat.lt_of_lt_of_le hgt b1)),getD_of (by exact bC (fk40 (Z7 V0 V1 (Z6 V1 V2 (Z6 V3 V0 (Z11 V3 V2 Lf)))) rfl hgt b1 (Nat.sub_le _ _)))] at h1
      omega
section
variable {prog:Program} {w:World} {A:Around} {E:Value→Shared→Prop} {s:Shared} {a I:Addr} {o:Obj} {es:Array (Int × Value)} {ep:Nat} {t:SetTable}
theorem setNext_at {i slot:Nat} {Q:Option (Value × Nat)→Shared→Prop} (ho:s.heap.get? a = some o) (hd:o.data = .set es ep t) (hf:TabFit t es.size) (hl:t.led = !(byText w)) (hi:i ≤ es.size) (hs:byText w = false→slot = if i = 0 then 0 else t.place.getD (i - 1) 0 + 1)
    (h1:∀ e slot',(ordOf w a es ep)[i]? = some e→(byText w = false→slot' = t.place.getD i 0 + 1)→Q (some (e.2,slot')) s) (h2:i = es.size→Q none s) :
    wpAny (model prog w) A (setNext a slot i ep) Q E s := by
  unfold setNext
  refine wpAny_bind (wpAny_setState_of ho hd hf.fits ?_)
  dsimp only
  unfold setsByText
  refine wpAny_bind (wpAny_bind (wpAny_askSetting (wpAny_pure ?_)))
  show wpAny _ _ (if byText w = true then _ else _) _ _ _
  cases hb:byText w with
  | true =>
    rw [if_pos rfl,if_neg (by simp)]
    have hord:ordOf w a es ep = pickOrder (w.params.setOrder a ep) es := by unfold ordOf;rw [hb,if_pos rfl]
    refine wpAny_bind ?_
    unfold setWalk
    refine wpAny_bind (wpAny_setState_of ho hd hf.fits ?_)
    dsimp only
    unfold setsByText
    refine wpAny_bind (wpAny_bind (wpAny_askSetting (wpAny_pure ?_)))
    show wpAny _ _ (if byText w = true then _ else _) _ _ _
    rw [hb,if_pos rfl]
    refine wpAny_bind (wpAny_askSetting ?_)
    refine wpAny_pure ?_
    refine wpAny_pure ?_
    show Q (Option.map _ (pickOrder (w.params.setOrder a ep) es)[i]?) s
    rw [← hord]
    cases he:(ordOf w a es ep)[i]? with
    | none=>exact h2 (by have := Array.getElem?_eq_none_iff.mp he;rw [ord_size] at this;exact (Nat.le_antisymm hi this))
    | some e=>exact h1 e slot he (fun q=>by rw [hb] at q;cases q)
  | false =>
    rw [if_neg (by decide)]
    have hord:ordOf w a es ep = es := by unfold ordOf;rw [hb,if_neg (by decide)]
    show wpAny _ _ (if (!t.plain && decide (es.size > 1)) = true then _ else _) _ _ _
    rw [hf.1.plain,if_neg (by simp)]
    rw [hb] at hl
    refine wpAny_bind ?_
    show wpAny _ _ (if (!t.led && !es.isEmpty) = true then _ else _) _ _ _
    rw [hl,if_neg (by simp)]
    refine wpAny_pure ?_
    refine wpAny_pure ?_
    rw [hs hb,below_at hf.1 hi]
    rw [hord] at h1
    rcases Nat.lt_or_ge i es.size with q | q
    · have q2:i < t.place.size := by rw [hf.1.size];exact q
      rw [Array.getElem?_eq_getElem q,Array.getElem?_eq_getElem q2]
      exact h1 _ _ (Array.getElem?_eq_getElem q) (fun _=>by rw [getD_of q2])
    · rw [Array.getElem?_eq_none q]
      exact h2 (by exact (Nat.le_antisymm hi q))
theorem pyIter_set {Q:Value→Shared→Prop} (ho:s.heap.get? a = some o) (hex:o.ExactSet) (hd:o.data = .set es ep t) (hf:TabFit t es.size)
    (hQ:Q (.ref s.heap.objs.size) { s with heap := s.heap.push (setIt 0 0 a es.size ep) }) :
    wpAny (model prog w) A (pyIter (.ref a)) Q E s := by
  have hT:s.TypeIs (.ref a) "set" := ⟨o,ho,hex.1⟩
  refine wpAny_pyIter_slot hT F.slot_set_iter (wpAny_call_entry F.slot_set_iter hT entry_set_iter ?_ (F.args_set_iter_1 _))
  unfold Builtin.«frozenset.__iter__» Builtin.Frozenset.slot0 slotArgs
  simp only [List.isEmpty_nil,Bool.not_true,Bool.false_eq_true,↓reduceIte,bind_assoc,List.length_nil,bne_self_eq_false]
  refine wpAny_bind (wpAny_pure ?_)
  unfold Builtin.Frozenset.addrOf Builtin.Frozenset.sizeOf
  refine wpAny_bind (wpAny_pure ?_)
  refine wpAny_bind (wpAny_bind (wpAny_setEntries_of ho hd hf.fits (wpAny_pure ?_)))
  refine wpAny_bind ?_
  unfold setDrawn
  refine wpAny_bind (wpAny_setState_of ho hd hf.fits ?_)
  dsimp only
  unfold setsByText
  refine wpAny_bind (wpAny_bind (wpAny_askSetting (wpAny_pure ?_)))
  refine wpAny_pure ?_
  show wpAny _ _ (if (!(byText w) && (!t.plain && decide (es.size > 1))) = true then _ else _) _ _ _
  rw [hf.1.plain,if_neg (by simp)]
  refine wpAny_bind (wpAny_pure ?_)
  refine wpAny_bind (wpAny_setEpoch_of ho hd hf.fits ?_)
  refine wpAny_bind (wpAny_newObj_type (wpAny_pure ⟨_,rfl, "set_iterator",_,⟨_,Heap.get?_push_size _ rfl,rfl⟩,slot_set_iterator_next.lookup,?_⟩))
  exact hQ
end
section
variable {prog:Program} {w:World} {A:Around} {E:Value→Shared→Prop} {s:Shared} {a I:Addr} {o:Obj} {es:Array (Int × Value)} {ep:Nat} {t:SetTable}
theorem setField2 {vs:Array Value} (x:Value) (j:Nat) {h:Heap} {c:Value} {d:Option Addr} {sl:Array (Option Value)} (ho:h.get? I = some { cls := c,dict := d,data := .fields vs,slots := sl }) :
    (h.update I (Obj.mapFields (·.setIfInBounds j x))).get? I = some { cls := c,dict := d,data := .fields (vs.setIfInBounds j x),slots := sl } :=
  Heap.get?_update_self (Obj.mapFields (·.setIfInBounds j x)) ho rfl
theorem next_item {i:Nat} {Q:Option Value→Shared→Prop} (hne:a ≠ I) (hex:o.ExactSet) (hd:o.data = .set es ep t) (hf:TabFit t es.size) (hl:t.led = !(byText w)) (hi:i < es.size) (st:SetSt w I a o es ep t i s.heap)
    (hQ:∀ e h',(ordOf w a es ep)[i]? = some e→SetSt w I a o es ep t (i + 1) h'→Heap.SameBut I s.heap h'→Q (some e.2) { s with heap := h' }) :
    wpAny (model prog w) A (pyNext (.ref I)) Q E s := by
  obtain ⟨ho,slot,hI,hs⟩ := st
  have hT:s.TypeIs (.ref I) "set_iterator" := ⟨_,hI,rfl⟩
  unfold pyNext
  refine wpAny_bind (wpAny_attempt (wpAny_callSpecial?_slot (name := Str.ofString "__next__") hT slot_set_iterator_next
    (wpAny_call_entry slot_set_iterator_next hT entry_set_iterator_next ?_ (args_set_iterator_next _))))
  unfold Builtin.«set_iterator.__next__»
  refine wpAny_bind (m := slotArgs "__next__" 0 _) (wpAny_pure ?_)
  refine wpAny_bind (wpAny_fieldsOf hI rfl ?_)
  show wpAny _ _ (setEntries a >>= _) _ _ _
  refine wpAny_bind (wpAny_setEntries_of ho hd hf.fits ?_)
  rw [if_neg (by simp)]
  show wpAny _ _ (setNext a ((slot:Int)).toNat ((i:Int)).toNat ((ep:Int)).toNat >>= _) _ _ _
  simp only [Int.toNat_natCast]
  refine wpAny_bind (setNext_at ho hd hf hl (Nat.le_of_lt hi) hs (fun e slot' he hs'=>?_) (fun q=>by lia))
  dsimp only
  refine wpAny_bind (wpAny_setField hI rfl (by simp) ?_)
  have hI1 := setField2 (I := I) (rawInt slot') 0 hI
  refine wpAny_bind (wpAny_setField hI1 rfl (by simp) ?_)
  have hI2 := setField2 (I := I) (rawInt ((i:Int) + 1)) 1 hI1
  have sb := (Heap.SameBut.update s.heap I (Obj.mapFields (·.setIfInBounds 0 (rawInt slot')))).trans (Heap.SameBut.update _ I (Obj.mapFields (·.setIfInBounds 1 (rawInt ((i:Int) + 1)))))
  refine wpAny_pure ⟨_,rfl,?_⟩
  refine wpAny_pure (hQ e _ he ⟨(sb.2 a hne).trans ho,slot',?_,fun q=>?_⟩ sb)
  · rw [hI2]
    have:((i:Int) + 1) = ((i + 1:Nat):Int) := by exact rfl
    rw [this]
    rfl
  · rw [hs' q,if_neg (by exact (Ne.symm (Nat.ne_of_lt (nDnLt (Nat.add_le_add (Nat.zero_le _) nLit) rfl)))),Nat.add_sub_cancel]
theorem next_end {Q:Option Value→Shared→Prop} (hh:A.handled = none) (hd:o.data = .set es ep t) (hf:TabFit t es.size) (hl:t.led = !(byText w)) (st:SetSt w I a o es ep t es.size s.heap)
    (hQ:∀ h',Heap.ExtBut I s.heap h'→Q none { s with heap := h' }) :
    wpAny (model prog w) A (pyNext (.ref I)) Q E s := by
  obtain ⟨ho,slot,hI,hs⟩ := st
  have hT:s.TypeIs (.ref I) "set_iterator" := ⟨_,hI,rfl⟩
  unfold pyNext
  refine wpAny_bind (wpAny_attempt (wpAny_callSpecial?_slot (name := Str.ofString "__next__") hT slot_set_iterator_next
    (wpAny_call_entry slot_set_iterator_next hT entry_set_iterator_next ?_ (args_set_iterator_next _))))
  unfold Builtin.«set_iterator.__next__»
  refine wpAny_bind (m := slotArgs "__next__" 0 _) (wpAny_pure ?_)
  refine wpAny_bind (wpAny_fieldsOf hI rfl ?_)
  show wpAny _ _ (setEntries a >>= _) _ _ _
  refine wpAny_bind (wpAny_setEntries_of ho hd hf.fits ?_)
  rw [if_neg (by simp)]
  show wpAny _ _ (setNext a ((slot:Int)).toNat ((es.size:Int)).toNat ((ep:Int)).toNat >>= _) _ _ _
  simp only [Int.toNat_natCast]
  refine wpAny_bind (setNext_at ho hd hf hl (Nat.le_refl _) hs (fun e slot' he hs'=>?_) (fun _=>?_))
  · exfalso
    have := (Array.getElem?_eq_some_iff.mp he).1
    rw [ord_size] at this
    exact Nat.lt_irrefl _ this
  · dsimp only
    refine wpAny_bind (wpAny_setField hI rfl (by simp) ?_)
    show wpAny _ _ (newExc (.type "StopIteration") [] >>= _) _ _ _
    refine wpAny_bind ?_
    simp only [newExc,newTuple]
    refine wpAny_bind (wpAny_newObj_type ?_ (by size_fits))
    refine wpAny_bind (m := firstArgMember _ _) (wpAny_of_eq (a := Value.none) (by first | rfl | (simp only [firstArgMember];rfl)) ?_)
    refine wpAny_newObj_type ?_ (by size_fits)
    simp only [raiseNew]
    refine wpAny_bind (wpAny_handled ?_)
    first | rw [show A.in1.handled = none from hh] | rw [hh]
    refine wpAny_throw ?_
    refine wpAny_bind (wpAny_isInstance (T := "StopIteration") (b := true) ⟨_,Heap.get?_push_size _ rfl,rfl⟩ isSubtype_stop ?_)
    exact wpAny_pure (hQ _ ((((Heap.SameBut.update s.heap I (Obj.mapFields (·.setIfInBounds 2 Value.none))).extBut).push _).push _))
theorem iter_iter {i:Nat} {Q:Value→Shared→Prop} (st:SetSt w I a o es ep t i s.heap) (h:Q (.ref I) s):wpAny (model prog w) A (pyIter (.ref I)) Q E s := by
  obtain ⟨ho,slot,hI,hs⟩ := st
  have hT:s.TypeIs (.ref I) "set_iterator" := ⟨_,hI,rfl⟩
  refine wpAny_pyIter_slot hT slot_set_iterator_iter (wpAny_call_entry slot_set_iterator_iter hT entry_set_iterator_iter ?_ (args_set_iterator_iter _))
  show wpAny _ _ (ret (.ref I)) _ _ s
  exact wpAny_pure ⟨_,rfl, "set_iterator",_,hT,slot_set_iterator_next.lookup,h⟩
theorem walks_set (hh:A.handled = none) (hne:a ≠ I) (hex:o.ExactSet) (hd:o.data = .set es ep t) (hf:TabFit t es.size) (hl:t.led = !(byText w)) :
    Walks prog w A I [I,a] [I] es.size (fun i v=>∃ e,(ordOf w a es ep)[i]? = some e ∧ v = e.2) (fun i h=>SetSt w I a o es ep t i h) where
  sub := fun b hb=>by simp at hb;simp [hb]
  frame := fun i h h' st hk=>⟨hk a (by simp) _ st.1,let ⟨slot,hI,hs⟩ := st.2;⟨slot,hk I (by simp) _ hI,hs⟩⟩
  item := fun i s Q E hi st hQ=>next_item hne hex hd hf hl hi st fun e h' he st' sb=>by
    have := hQ e.2 h' s.toks ⟨e,he,rfl⟩ st' fun b o hb e'=>sb.extBut b o (fun q=>hb (by simp [q])) e'
    exact this
  done := fun s Q E st hQ=>next_end hh hd hf hl st fun h' he=>hQ h' s.toks fun b o hb e=>he b o (fun q=>hb (by simp [q])) e
  self := fun i s Q E st hQ=>iter_iter st hQ
end
theorem compTurn_set (elt target iter:Expr) (ifs:List Expr) (scope:Scope) (pos:Pos) (it acc:Value) (env:Env) :
    compTurn (.SetComp elt [⟨target,iter,ifs,0⟩] scope pos) 0 it acc env = (do
      standAt iter.pos
      match ← pyNext it with
      | none=>pure (.done .next)
      | some v =>
        letOwnedTupleGo target it v
        assign target env v
        let mut ok := true
        for c in ifs do
          if ok then ok ← isTrue c env (eval c env)
        if ok then
          (do let v ← eval elt env;standAt elt.pos;let _ ← call (.builtin "set.add") [acc,v])
        again (.compLoop (.SetComp elt [⟨target,iter,ifs,0⟩] scope pos) 0 it acc env)) := by rfl
theorem compTurn_set2 (elt t1 i1 t2 i2:Expr) (scope:Scope) (pos:Pos) (it acc:Value) (env:Env) :
    compTurn (.SetComp elt [⟨t1,i1,[],0⟩,⟨t2,i2,[],0⟩] scope pos) 0 it acc env = (do
      standAt i1.pos
      match ← pyNext it with
      | none=>pure (.done .next)
      | some v =>
        letOwnedTupleGo t1 it v
        assign t1 env v
        let x ← eval i2 env
        standAt i2.pos
        let x ← foldedSetIterable i2 env x
        let it' ← holding [x] (pyIter x)
        let _ ← runOwn (.compStart (.SetComp elt [⟨t1,i1,[],0⟩,⟨t2,i2,[],0⟩] scope pos) 1 it' acc env) env
        again (.compLoop (.SetComp elt [⟨t1,i1,[],0⟩,⟨t2,i2,[],0⟩] scope pos) 0 it acc env)) := by rfl
theorem compTurn_set2in (elt t1 i1 t2 i2:Expr) (scope:Scope) (pos:Pos) (it acc:Value) (env:Env) :
    compTurn (.SetComp elt [⟨t1,i1,[],0⟩,⟨t2,i2,[],0⟩] scope pos) 1 it acc env = (do
      standAt i2.pos
      match ← pyNext it with
      | none=>pure (.done .next)
      | some v =>
        letOwnedTupleGo t2 it v
        assign t2 env v
        (do let v ← eval elt env;standAt elt.pos;let _ ← call (.builtin "set.add") [acc,v])
        again (.compLoop (.SetComp elt [⟨t1,i1,[],0⟩,⟨t2,i2,[],0⟩] scope pos) 1 it acc env)) := by rfl
section
variable {prog:Program} {w:World} {A:Around} {E:Value→Shared→Prop} {R:Result→Shared→Prop} {s:Shared}
theorem loop_set {elt target iter:Expr} {ifs:List Expr} {scope:Scope} {pos:Pos} {it acc:Value} {env:Env} (I:Nat→Shared→Prop)
    (turn:∀ n s,I n s→wpAny (model prog w) A (pyNext it) (fun r s₁=>match r with
      | none=>R (.ok .next) s₁
      | some v=>wpAny (model prog w) A (assign target env v) (fun _ s₂ =>
          wpAny (model prog w) A (forIn ifs true fun c r=>if r = true then do let ok ← isTrue c env (eval c env);pure (ForInStep.yield ok) else pure (ForInStep.yield r)) (fun ok s₃ =>
            if ok = true then wpAny (model prog w) A (eval elt env) (fun x s₄ =>
              wpAny (model prog w) A (call (.builtin "set.add") [acc,x]) (fun _ s₅=>∃ m,m < n ∧ I m s₅) (notedBy (model prog w) A env fun e s'=>R (.error e) s') s₄) (notedBy (model prog w) A env fun e s'=>R (.error e) s') s₃
            else ∃ m,m < n ∧ I m s₃) (notedBy (model prog w) A env fun e s'=>R (.error e) s') s₂) (notedBy (model prog w) A env fun e s'=>R (.error e) s') s₁) (notedBy (model prog w) A env fun e s'=>R (.error e) s') s)
    (n:Nat) (h:I n s) (ht:∀ v,letOwnedTupleGo target it v = pure () := by intro _;rfl) :
    codeAny (model prog w) A (.compLoop (.SetComp elt [⟨target,iter,ifs,0⟩] scope pos) 0 it acc env) R s := by
  refine codeAny_loop rfl I (fun n s hI=>?_) n h
  show wpAny _ A ((compTurn (.SetComp elt [⟨target,iter,ifs,0⟩] scope pos) 0 it acc env).onRaise (fun x=>do noteFrame x env;theTreesLotGoes x)) _ _ s
  refine wpAny_noted ?_
  rw [compTurn_set]
  refine wpAny_bind (wpAny_standAt (wpAny_bind (wpAny_mono (turn n s hI) (fun r s₁ h₁=>?_) fun _ _ h'=>h')))
  cases r with
  | none=>exact wpAny_pure h₁
  | some v =>
    refine wpAny_bind (wpAny_of_eq (ht v) ?_)
    refine wpAny_bind (wpAny_mono h₁ (fun _ s₂ h₂=>wpAny_bind (wpAny_mono h₂ (fun ok s₃ h₃=>?_) fun _ _ h'=>h')) fun _ _ h'=>h')
    cases ok with
    | false=>exact wpAny_pure ⟨rfl,h₃⟩
    | true =>
      exact wpAny_bind (wpAny_bind (wpAny_mono h₃ (fun x s₄ h₄=>wpAny_bind (wpAny_standAt (wpAny_bind (wpAny_mono h₄ (fun _ s₅ h₅=>wpAny_pure (wpAny_pure ⟨rfl,h₅⟩)) fun _ _ h'=>h')))) fun _ _ h'=>h'))
theorem loop_set2in {elt t1 i1 t2 i2:Expr} {scope:Scope} {pos:Pos} {it acc:Value} {env:Env} (I:Nat→Shared→Prop)
    (turn:∀ n s,I n s→wpAny (model prog w) A (pyNext it) (fun r s₁=>match r with
      | none=>R (.ok .next) s₁
      | some v=>wpAny (model prog w) A (assign t2 env v) (fun _ s₂=>wpAny (model prog w) A (eval elt env) (fun x s₄ =>
              wpAny (model prog w) A (call (.builtin "set.add") [acc,x]) (fun _ s₅=>∃ m,m < n ∧ I m s₅) (notedBy (model prog w) A env fun e s'=>R (.error e) s') s₄) (notedBy (model prog w) A env fun e s'=>R (.error e) s') s₂) (notedBy (model prog w) A env fun e s'=>R (.error e) s') s₁) (notedBy (model prog w) A env fun e s'=>R (.error e) s') s)
    (n:Nat) (h:I n s) (ht:∀ v,letOwnedTupleGo t2 it v = pure () := by intro _;rfl) :
    codeAny (model prog w) A (.compLoop (.SetComp elt [⟨t1,i1,[],0⟩,⟨t2,i2,[],0⟩] scope pos) 1 it acc env) R s := by
  refine codeAny_loop rfl I (fun n s hI=>?_) n h
  show wpAny _ A ((compTurn (.SetComp elt [⟨t1,i1,[],0⟩,⟨t2,i2,[],0⟩] scope pos) 1 it acc env).onRaise (fun x=>do noteFrame x env;theTreesLotGoes x)) _ _ s
  refine wpAny_noted ?_
  rw [compTurn_set2in]
  refine wpAny_bind (wpAny_standAt (wpAny_bind (wpAny_mono (turn n s hI) (fun r s₁ h₁=>?_) fun _ _ h'=>h')))
  cases r with
  | none=>exact wpAny_pure h₁
  | some v =>
    refine wpAny_bind (wpAny_of_eq (ht v) ?_)
    exact wpAny_bind (wpAny_mono h₁ (fun _ s₂ h₂=>wpAny_bind (wpAny_bind (wpAny_mono h₂ (fun x s₄ h₄=>wpAny_bind (wpAny_standAt (wpAny_bind (wpAny_mono h₄ (fun _ s₅ h₅=>wpAny_pure (wpAny_pure ⟨rfl,h₅⟩)) fun _ _ h'=>h')))) fun _ _ h'=>h'))) fun _ _ h'=>h')
theorem mark_none (A:Around):A.mark none = A := by cases A;rfl
theorem loop_set2 {elt t1 i1 t2 i2:Expr} {scope:Scope} {pos:Pos} {it acc:Value} {env:Env} (I:Nat→Shared→Prop)
    (turn:∀ n s,I n s→wpAny (model prog w) A (pyNext it) (fun r s₁=>match r with
      | none=>R (.ok .next) s₁
      | some v=>wpAny (model prog w) A (assign t1 env v) (fun _ s₂=>wpAny (model prog w) A (eval i2 env) (fun x s₃=>wpAny (model prog w) A (pyIter x) (fun it' s₄ =>
          codeAny (model prog w) A (.compStart (.SetComp elt [⟨t1,i1,[],0⟩,⟨t2,i2,[],0⟩] scope pos) 1 it' acc env) (fun r s₅=>match r with
            | .ok _=>∃ m,m < n ∧ I m s₅
            | .error e=>cameBackBy (model prog w) A env (notedBy (model prog w) A env fun e s'=>R (.error e) s') e s₅) s₄) (notedBy (model prog w) A env fun e s'=>R (.error e) s') s₃) (notedBy (model prog w) A env fun e s'=>R (.error e) s') s₂) (notedBy (model prog w) A env fun e s'=>R (.error e) s') s₁) (notedBy (model prog w) A env fun e s'=>R (.error e) s') s)
    (n:Nat) (h:I n s) (ht:∀ v,letOwnedTupleGo t1 it v = pure () := by intro _;rfl) (hs:∀ x,foldedSetIterable i2 env x = pure x := by intro _;rfl) :
    codeAny (model prog w) A (.compLoop (.SetComp elt [⟨t1,i1,[],0⟩,⟨t2,i2,[],0⟩] scope pos) 0 it acc env) R s := by
  refine codeAny_loop rfl I (fun n s hI=>?_) n h
  show wpAny _ A ((compTurn (.SetComp elt [⟨t1,i1,[],0⟩,⟨t2,i2,[],0⟩] scope pos) 0 it acc env).onRaise (fun x=>do noteFrame x env;theTreesLotGoes x)) _ _ s
  refine wpAny_noted ?_
  rw [compTurn_set2]
  refine wpAny_bind (wpAny_standAt (wpAny_bind (wpAny_mono (turn n s hI) (fun r s₁ h₁=>?_) fun _ _ h'=>h')))
  cases r with
  | none=>exact wpAny_pure h₁
  | some v =>
    refine wpAny_bind (wpAny_of_eq (ht v) ?_)
    refine wpAny_bind (wpAny_mono h₁ (fun _ s₂ h₂=>wpAny_bind (wpAny_mono h₂ (fun x s₃ h₃=>wpAny_bind (wpAny_standAt (wpAny_bind (wpAny_of_eq (hs x) (wpAny_bind (wpAny_holding (wpAny_mono h₃ (fun it' s₄ h₄=>?_) fun _ _ h'=>h'))))))) fun _ _ h'=>h')) fun _ _ h'=>h')
    refine wpAny_bind (wpAny_runOwn (codeAny_mono (by rw [mark_none];exact h₄) fun r s₅ h₅=>?_))
    cases r with
    | ok f=>exact wpAny_pure ⟨rfl,h₅⟩
    | error e=>exact h₅
theorem start_set {elt:Expr} {gens:List Comprehension} {scope:Scope} {pos:Pos} {d:Nat} {it acc:Value} {env:Env} {g:Comprehension} (hg:gens[d]? = some g) (ha:g.is_async = 0)
    (h0:codeAny (model prog w) A (.compLoop (.SetComp elt gens scope pos) d it acc env) R s)
    (h:wpAny (model prog w) A (pyIter it) (fun it' s'=>codeAny (model prog w) A (.compLoop (.SetComp elt gens scope pos) d it' acc env) R s')
      (notedBy (model prog w) A env fun x s'=>R (.error x) s') s) :
    codeAny (model prog w) A (.compStart (.SetComp elt gens scope pos) d it acc env) R s := by
  refine codeAny_of_tree ?_
  show wpAny _ _ ((compStart (.SetComp elt gens scope pos) d it acc env).onRaise (fun x=>do noteFrame x env;standAt theWindowsPlace)) _ _ s
  refine wpAny_notedAt ?_
  unfold compStart
  have e:(clausesOf (.SetComp elt gens scope pos))[d]? = some g := hg
  rw [e]
  have ea:(Option.elim (some g) false fun x=>x.is_async != 0) = false := by show (g.is_async != 0) = false;rw [ha];rfl
  rw [ea]
  show wpAny _ _ (ask >>= _) _ _ s
  refine wpAny_bind (wpAny_askSetting (wpAny_ite ?_))
  split
  · first
      | exact wpAny_bind (wpAny_pure (wpAny_pure (And.intro rfl h0)))
      | exact wpAny_pure (And.intro rfl h0)
  · refine wpAny_bind (wpAny_rule ?_)
    show wpAny _ _ (standAt g.iter.pos >>= _) _ _ s
    exact wpAny_bind (wpAny_standAt (wpAny_bind (wpAny_mono h (fun it' s' h'=>wpAny_pure (And.intro rfl h')) fun _ _ x=>x)))
end
inductive TestE (h₀:Heap) (L:Addr) (m:Str→Option Value) (s:Shared) (all:List (Addr × Obj)) (T:Prop) (b:Bool) (s₂:Shared):Prop
  | con (h':_) (tk':_)
      (q1:s₂ = { s with heap := h',toks := tk' })
      (q2:Fr h₀ L h' m)
      (q3:News h₀ L h' all)
      (q4:(b = true ↔ T)):TestE h₀ L m s all T b s₂
theorem TestE.intro {h₀:Heap} {L:Addr} {m:Str→Option Value} {s:Shared} {all:List (Addr × Obj)} {T:Prop} {b:Bool} {h':Heap} {tk':Nat} (F:Fr h₀ L h' m) (N:News h₀ L h' all) (hb:b = true ↔ T):TestE h₀ L m s all T b { s with heap := h',toks := tk' } := ⟨h',tk',rfl,F,N,hb⟩
section
variable {prog:Program} {w:World} {A:Around} {E:Value→Shared→Prop} {s:Shared} {h₀:Heap} {L:Addr} {m:Str→Option Value} {env:Env}
theorem news3 {h h':Heap} {I C D:Addr} {oI oC oD:Obj} {news:List (Addr × Obj)} (eI:h.get? I = some oI) (hI:I ≠ L ∧ h₀.get? I = none) (eC:h.get? C = some oC) (hC:C ≠ L ∧ h₀.get? C = none) (eD:h.get? D = some oD) (hD:D ≠ L ∧ h₀.get? D = none) (N:News h₀ L h news) :
    News h₀ L h ((I,oI) :: (C,oC) :: (D,oD) :: news) := fun p hp=>by
  rcases List.mem_cons.mp hp with rfl | hp
  · exact ⟨eI,hI⟩
  · rcases List.mem_cons.mp hp with rfl | hp
    · exact ⟨eC,hC⟩
    · rcases List.mem_cons.mp hp with rfl | hp
      · exact ⟨eD,hD⟩
      · exact N p hp
inductive SCI (w:World) (h₀:Heap) (L:Addr) (m:Str→Option Value) (s₂:Shared) (n:Nat) (St:Nat→Heap→Prop) (C D:Addr) (news:List (Addr × Obj)) (S:Nat→Nat→Prop) (k:Nat) (s':Shared):Prop
  | con (h':Heap) (tk i:Nat) (oD:Obj) (m':Str→Option Value) (q1:s' = { s₂ with heap := h',toks := tk }) (q2:i ≤ n) (q3:k = n + 1 - i) (q4:St i h') (q5:Fr h₀ L h' m) (q6:h'.Ns C m') (q7:News h₀ L h' ((D,oD) :: news)) (q8:SetIs w oD (S i)):SCI w h₀ L m s₂ n St C D news S k s'
theorem block_S {elt iter:Expr} {ifs:List Expr} {x:Str} {px:Pos} {scope:Scope} {cl:List (Str × Addr)} {pos:Pos} {s₂:Shared} {I:Addr} {fp:List Addr} {n:Nat} {P:Nat→Value→Prop} {St:Nat→Heap→Prop} {news:List (Addr × Obj)}
    {T:Nat→Prop} {f:Nat→Nat} {RR:Value→Addr→Result→Shared→Prop}
    (W:Walks prog w A I fp [I] n P St) (hIo:∀ i h,St i h→∃ o,h.get? I = some o)
    (hSt:∀ i h h' o,St i h→h.get? I = some o→h'.get? I = some o→(∀ b o,h₀.get? b = some o→h'.get? b = some o)→News h₀ L h' news→St i h')
    (hcell:∀ y ∈ scope.names,y.2 ≠ .cell) (hkind:scope.kind = .function) (hx:scope.names.lookup x = some .local) (hst:St 0 s₂.heap) (hfp:∀ b ∈ fp,b < s₂.heap.objs.size)
    (F:Fr h₀ L s₂.heap m) (N:News h₀ L s₂.heap news) (hIL:L ≠ I) (hI₀:h₀.get? I = none) (off:∀ p ∈ news,p.1 ≠ I)
    (turnT:∀ i v oI C oC D oD m₂ h tk (E':Value→Shared→Prop),i < n→P i v→LCg.NsObj oC m₂→m₂ x = some v→Fr h₀ L h m→News h₀ L h ((I,oI) :: (C,oC) :: (D,oD) :: news)→LCg.Off3 I C D news→((@Ne Nat I C) ∧ (@Ne Nat I D) ∧ (@Ne Nat C D)) →
      wpAny (model prog w) A (forIn ifs true fun c r=>if r = true then do let ok ← isTrue c (compEnvC scope cl C env) (eval c (compEnvC scope cl C env));pure (ForInStep.yield ok) else pure (ForInStep.yield r))
        (TestE h₀ L m { s₂ with heap := h,toks := tk } ((I,oI) :: (C,oC) :: (D,oD) :: news) (T i)) E' { s₂ with heap := h,toks := tk })
    (turnE:∀ i v oI C oC D oD m₂ h tk (E':Value→Shared→Prop),i < n→P i v→T i→LCg.NsObj oC m₂→m₂ x = some v→Fr h₀ L h m→News h₀ L h ((I,oI) :: (C,oC) :: (D,oD) :: news)→LCg.Off3 I C D news→((@Ne Nat I C) ∧ (@Ne Nat I D) ∧ (@Ne Nat C D)) →
      wpAny (model prog w) A (eval elt (compEnvC scope cl C env)) (TEnd h₀ L m { s₂ with heap := h,toks := tk } ((I,oI) :: (C,oC) :: (D,oD) :: news) (fun y=>∃ t,y = .int (f i:Nat) t ∧ f i < 240)) E' { s₂ with heap := h,toks := tk })
    (hRR:∀ D oD C h tk m',Fr h₀ L h m→News h₀ L h ((D,oD) :: news)→SetIs w oD (fun k=>∃ i,i < n ∧ T i ∧ k = f i)→LCg.Off1 D news→h.Ns C m'→h₀.get? C = none→h₀.get? D = none→C ≠ L→D ≠ L→C ≠ D→(∀ p ∈ news,p.1 ≠ C)→RR (.ref D) C (.ok .next) { s₂ with heap := h,toks := tk }) :
    wpAny (model prog w) A (newSet (.type "set")) (fun acc s₃=>wpAny (model prog w) A (newFunctionEnv scope env.globals cl [] env.qual none .none (some env)) (fun cenv s₄ =>
      codeAny (model prog w) A (.compStart (.SetComp elt [⟨.Name x px,iter,ifs,0⟩] scope pos) 0 (.ref I) acc { cenv with scope := relabel scope env }) (RR acc cenv.locals) s₄) E s₃) E s₂ := by
  intros prog w A E h₀ L m env elt iter ifs x px scope cl pos s₂ I fp n P St news T f RR _ W hIo hSt hcell hkind hx hst hfp F N hIL hI₀ off turnT turnE hRR
  refine newSet_is (wpAny_newFunctionEnv hcell (by intro y hy;simp at hy) (fun h₁ hns₁ hsb₁=>?_) hkind)
  dsimp only at hns₁ hsb₁ ⊢
  generalize hOD:({ cls := .type "set",dict := none,data := .set #[] 0 (.fresh 0 0 (!(byText w))) }:Obj) = oD₀ at hns₁ hsb₁ ⊢
  have hset₀:SetIs w oD₀ (fun _=>False) := hOD ▸ setIs_fresh w 0 0
  generalize hH2:s₂.heap.push oD₀ = H2 at hns₁ hsb₁ ⊢
  have hC:H2.objs.size = s₂.heap.objs.size + 1 := by rw [← hH2,Heap.size_push]
  have hDC:s₂.heap.objs.size ≠ H2.objs.size := by rw [hC];exact Nat.ne_of_lt (Nat.lt_succ_self _)
  have below:∀ b,b < s₂.heap.objs.size→b ≠ H2.objs.size ∧ b ≠ s₂.heap.objs.size := fun b hb=>⟨by rw [hC];exact Nat.ne_of_lt (Nat.lt_succ_of_lt hb),Nat.ne_of_lt hb⟩
  have hDf:s₂.heap.objs.size ∉ fp := fun hm=>Nat.lt_irrefl _ (hfp _ hm)
  have hCf:H2.objs.size ∉ fp := fun hm=>by have := hfp _ hm;rw [hC] at this;exact Nat.lt_irrefl _ (Nat.lt_of_succ_lt this)
  have hIf:I ∈ fp := W.sub I (List.mem_singleton.mpr rfl)
  have hIlt:I < s₂.heap.objs.size := hfp I hIf
  have old:∀ b o,s₂.heap.get? b = some o→h₁.get? b = some o := fun b o e=>hsb₁.extBut b o (below b (Heap.lt_size e)).1 (Heap.get?_push_of_some _ (hH2 ▸ Heap.get?_push_of_some _ e))
  have hacc:h₁.get? s₂.heap.objs.size = some oD₀ := hsb₁.extBut _ _ hDC (Heap.get?_push_of_some _ (hH2 ▸ Heap.get?_push_size _ (by rw [← hOD];rfl)))
  have hst₁:St 0 h₁ := W.frame _ _ _ hst fun b _ o e=>old b o e
  have fresh:∀ a,s₂.heap.objs.size ≤ a→s₂.heap.get? a = none := fun a ha=>by
    cases e:s₂.heap.get? a with
    | none=>rfl
    | some o'=>exact absurd (Heap.lt_size e) (Nat.not_lt.mpr ha)
  have fresh₀:∀ a,s₂.heap.objs.size ≤ a→h₀.get? a = none := fun a ha=>by
    cases e:h₀.get? a with
    | none=>rfl
    | some o'=>have := F.keep a o' e;rw [fresh a ha] at this;cases this
  have hD₀:h₀.get? s₂.heap.objs.size = none := fresh₀ _ (Nat.le_refl _)
  have hC₀:h₀.get? H2.objs.size = none := fresh₀ _ (by rw [hC];exact Nat.le_succ _)
  have hLlt:L < s₂.heap.objs.size := F.ns.lt
  have hDL:s₂.heap.objs.size ≠ L := Ne.symm (below L hLlt).2
  have hCL:H2.objs.size ≠ L := Ne.symm (below L hLlt).1
  have hCI:I ≠ H2.objs.size := (below I hIlt).1
  have hDI:I ≠ s₂.heap.objs.size := (below I hIlt).2
  have off₀:LCg.Off3 I H2.objs.size s₂.heap.objs.size news := LCg.Off3.of fun p hp=>⟨off p hp,(below _ (Heap.lt_size (N p hp).1)).1,(below _ (Heap.lt_size (N p hp).1)).2⟩
  have off3 := off₀.mem
  have loop:∀ s₃:Shared,s₃ = { s₂ with heap := h₁,toks := s₂.toks + ([]:List (Str × Value)).length } →
      codeAny (model prog w) A (.compLoop (.SetComp elt [⟨.Name x px,iter,ifs,0⟩] scope pos) 0 (.ref I) (.ref s₂.heap.objs.size) (compEnvC scope cl H2.objs.size env))
        (RR (.ref s₂.heap.objs.size) H2.objs.size) s₃ := by
    rintro s₃ rfl
    refine loop_set
      (SCI w h₀ L m s₂ n St H2.objs.size s₂.heap.objs.size news (fun i k=>∃ j,j < i ∧ T j ∧ k = f j)) ?_ (n + 1)
      ⟨h₁,_,0,oD₀,_,rfl,Nat.zero_le _,rfl,hst₁,F.keeps old,hns₁,fun p hp=>?_,hset₀.congr fun k=>⟨fun ⟨j,hj,_⟩=>absurd hj (Nat.not_lt_zero _),fun q=>q.elim⟩⟩
    · rintro k s' ⟨h',tk,i,oD,m',rfl,hi,rfl,hst',F',hn',N',hset⟩
      by_cases hlt:i < n
      · refine W.item i _ _ _ hlt hst' fun v h₂ tk₂ hPv hst₂ hk₂=>?_
        refine wpAny_assign_Name (wpAny_storeName_local (lookup_relabel_local hx) (hn'.at' fun o e=>hk₂ _ o (by simpa using Ne.symm hCI) e) (fun h₃ hn₃ hs₃=>?_) (by simp [compEnvC,relabel,hkind]))
        have hst₃:St (i + 1) h₃ := W.frame _ _ _ hst₂ fun b hb o e=>hs₃.extBut b o (fun q=>hCf (by have q':b = H2.objs.size := q;rw [← q'];exact hb)) e
        obtain ⟨oI,heI⟩ := hIo _ _ hst₃
        obtain ⟨oC,heC,hoC⟩ := LCg.ns_obj hn₃
        have F₃:Fr h₀ L h₃ m := (LCg.fr_but F' hk₂ hIL hI₀).change hs₃ hCL hC₀
        have N₂:News h₀ L h₂ ((s₂.heap.objs.size,oD) :: news) := LCg.news_but N' hk₂ fun p hp=>by
          rcases List.mem_cons.mp hp with rfl | hp
          · exact Ne.symm hDI
          · exact (off3 p hp).1
        have N₃':News h₀ L h₃ ((s₂.heap.objs.size,oD) :: news) := fun p hp=>by
          have z := N₂ p hp
          refine ⟨hs₃.extBut _ _ ?_ z.1,z.2⟩
          rcases List.mem_cons.mp hp with rfl | hp
          · exact hDC
          · exact (off3 p hp).2.1
        have N₃:News h₀ L h₃ ((I,oI) :: (H2.objs.size,oC) :: (s₂.heap.objs.size,oD) :: news) :=
          news3 (h' := h₃) heI ⟨Ne.symm hIL,hI₀⟩ heC ⟨hCL,hC₀⟩ (N₃' _ List.mem_cons_self).1 ⟨hDL,hD₀⟩ fun p hp=>N₃' p (List.mem_cons_of_mem _ hp)
        refine wpAny_mono (turnT i v oI H2.objs.size oC s₂.heap.objs.size oD _ h₃ _ _ hlt hPv hoC (by simp) F₃ N₃ off₀ ⟨hCI,hDI,Ne.symm hDC⟩) (fun ok s₄ h₄=>?_) fun _ _ e=>e
        obtain ⟨h₄,tk₄,rfl,F₄,N₄,hok⟩ := h₄
        have zI := (N₄ (I,oI) List.mem_cons_self).1
        have zC := (N₄ (H2.objs.size,oC) (List.mem_cons_of_mem _ List.mem_cons_self)).1
        have N₄':News h₀ L h₄ news := fun p hp=>N₄ p (List.mem_cons_of_mem _ (List.mem_cons_of_mem _ (List.mem_cons_of_mem _ hp)))
        have hst₄:St (i + 1) h₄ := hSt _ _ _ _ hst₃ heI zI F₄.keep N₄'
        cases ok with
        | false =>
          rw [if_neg Bool.false_ne_true]
          refine ⟨n + 1 - (i + 1),by exact bC (fk40 (Z8 (La V0 (La V1 K1)) (La V2 K1) (Z9 (La V3 V1) (La V2 K1) (Z11 V0 V3 Lf))) rfl (sC (bC (fk20 (Z7 V0 V1 (Z10 (La V0 K1) (La V1 K1) Lf)) rfl hlt))) (sC (bC (fk20 (Z7 V0 V1 (Z10 V0 (La V1 K1) Lf)) rfl hlt)))),h₄,tk₄,i + 1,oD,_,rfl,hlt,rfl,hst₄,F₄,hoC.ns zC,fun p hp=>N₄ p (List.mem_cons_of_mem _ (List.mem_cons_of_mem _ hp)),hset.congr fun k=>?_⟩
          constructor
          · rintro ⟨j,hj,ht,e⟩
            refine ⟨j,?_,ht,e⟩
            rcases Nat.lt_or_ge j i with q | q
            · exact q
            · have:j = i := by exact Nat.le_antisymm (bC (fk20 (Z7 V0 (La V1 K1) (Z10 V0 V1 Lf)) rfl hj)) (bC (fk20 (Z6 V0 V1 (Z10 V0 V1 Lf)) rfl q))
              subst this
              exact absurd (hok.mpr ht) Bool.false_ne_true
          · rintro ⟨j,hj,ht,e⟩
            exact ⟨j,by exact (Nat.lt_succ_of_le (Nat.le_of_lt hj)),ht,e⟩
        | true =>
          rw [if_pos rfl]
          have hT:T i := hok.mp rfl
          refine wpAny_mono (turnE i v oI H2.objs.size oC s₂.heap.objs.size oD _ h₄ _ _ hlt hPv hT hoC (by simp) F₄ N₄ off₀ ⟨hCI,hDI,Ne.symm hDC⟩) (fun y s₅ h₅=>?_) fun _ _ e=>e
          obtain ⟨h₅,tk₅,rfl,F₅,N₅,t₅,rfl,hf⟩ := h₅
          have zI5 := (N₅ (I,oI) List.mem_cons_self).1
          have zC5 := (N₅ (H2.objs.size,oC) (List.mem_cons_of_mem _ List.mem_cons_self)).1
          have zD5 := (N₅ (s₂.heap.objs.size,oD) (List.mem_cons_of_mem _ (List.mem_cons_of_mem _ List.mem_cons_self))).1
          have N₅':News h₀ L h₅ news := fun p hp=>N₅ p (List.mem_cons_of_mem _ (List.mem_cons_of_mem _ (List.mem_cons_of_mem _ hp)))
          have hst₅:St (i + 1) h₅ := hSt _ _ _ _ hst₄ zI zI5 F₅.keep N₅'
          refine call_add_is zD5 hset hf fun h₆ o₆ sb₆ ho₆ hset₆=>?_
          refine ⟨n + 1 - (i + 1),by exact bC (fk40 (Z8 (La V0 (La V1 K1)) (La V2 K1) (Z9 (La V3 V1) (La V2 K1) (Z11 V0 V3 Lf))) rfl (sC (bC (fk20 (Z7 V0 V1 (Z10 (La V0 K1) (La V1 K1) Lf)) rfl hlt))) (sC (bC (fk20 (Z7 V0 V1 (Z10 V0 (La V1 K1) Lf)) rfl hlt)))),h₆,_,i + 1,o₆,_,rfl,hlt,rfl,W.frame _ _ _ hst₅ fun b hb o e=>sb₆.extBut b o (fun q=>hDf (q ▸ hb)) e,F₅.change sb₆ hDL hD₀,
            (hoC.ns zC5).sameBut sb₆ (Ne.symm hDC),fun p hp=>?_,hset₆.congr fun k=>?_⟩
          · rcases List.mem_cons.mp hp with rfl | hp
            · exact ⟨ho₆,hDL,hD₀⟩
            · exact ⟨sb₆.extBut _ _ (off3 p hp).2.2 (N₅' p hp).1,(N₅' p hp).2⟩
          · constructor
            · rintro ⟨j,hj,ht,e⟩
              rcases Nat.lt_or_ge j i with q | q
              · exact .inl ⟨j,q,ht,e⟩
              · have:j = i := by exact Nat.le_antisymm (bC (fk20 (Z7 V0 (La V1 K1) (Z10 V0 V1 Lf)) rfl hj)) (bC (fk20 (Z6 V0 V1 (Z10 V0 V1 Lf)) rfl q))
                subst this
                exact .inr e
            · rintro (⟨j,hj,ht,e⟩ | e)
              · exact ⟨j,by exact (Nat.lt_succ_of_le (Nat.le_of_lt hj)),ht,e⟩
              · exact ⟨i,by exact (Nat.lt_succ_of_le (Nat.le_refl _)),hT,e⟩
      · obtain rfl:i = n := Nat.le_antisymm hi (Nat.not_lt.mp hlt)
        refine W.done _ _ _ hst' fun h₂ tk₂ hk₂=>?_
        exact hRR _ _ _ h₂ tk₂ _ (LCg.fr_but F' hk₂ hIL hI₀) (LCg.news_but N' hk₂ fun p hp=>by
          rcases List.mem_cons.mp hp with rfl | hp
          · exact Ne.symm hDI
          · exact (off3 p hp).1) hset off₀.one (hn'.at' fun o e=>hk₂ _ o (by simpa using Ne.symm hCI) e) hC₀ hD₀ hCL hDL (Ne.symm hDC) (fun p hp=>(off3 p hp).2.1)
    · rcases List.mem_cons.mp hp with rfl | hp
      · exact ⟨hacc,hDL,hD₀⟩
      · exact ⟨old _ _ (N p hp).1,(N p hp).2⟩
  exact start_set (g := ⟨.Name x px,iter,ifs,0⟩) rfl rfl (loop _ rfl) (W.self 0 _ _ _ hst₁ (loop _ rfl))
end
section
variable {prog:Program} {w:World} {A:Around} {E:Value→Shared→Prop} {s:Shared} {h₀:Heap} {L:Addr} {m:Str→Option Value} {env:Env}
inductive InnI (w:World) (s:Shared) (T D C:Addr) (items:Array Value) (S:Nat→Prop) (f:Nat→Nat) (x:Str) (v:Value) (k:Nat) (s':Shared):Prop
  | con (h':Heap) (tk i:Nat) (oD':Obj) (m':Str→Option Value) (q1:s' = { s with heap := h',toks := tk }) (q2:i ≤ items.size) (q3:k = items.size + 1 - i) (q4:h'.IsTupleIter s.heap.objs.size T i ∧ h'.IsTuple T items) (q5:∀ b o,b ≠ C→b ≠ D→s.heap.get? b = some o→h'.get? b = some o)
      (q6:h'.get? D = some oD') (q7:SetIs w oD' (fun k=>S k ∨ ∃ j,j < i ∧ k = f j)) (q8:h'.Ns C m') (q9:m' x = some v):InnI w s T D C items S f x v k s'
theorem inner_S {elt i1 i2:Expr} {x y:Str} {px py:Pos} {scope:Scope} {pos:Pos} {C D T:Addr} {oD:Obj} {S:Nat→Prop} {items:Array Value} {v:Value} {m₂:Str→Option Value} {f:Nat→Nat} {R:Result→Shared→Prop} {cenv:Env}
    (hh:A.handled = none) (hcl:cenv.locals = C) (hy:cenv.kindOf y = some .local) (hp:(cenv.scope.kind == .class || (cenv.scope.kind == .module && cenv.locals != cenv.globals)) = false) (hxy:x ≠ y)
    (eT:s.heap.IsTuple T items) (eC:s.heap.Ns C m₂) (hx:m₂ x = some v) (eD:s.heap.get? D = some oD) (hS:SetIs w oD S) (hTC:T ≠ C) (hTD:T ≠ D) (hCD:C ≠ D)
    (hitems:∀ j v₂,items[j]? = some v₂→f j < 240)
    (turnE:∀ j v₂ h tk m₃ (E':Value→Shared→Prop),items[j]? = some v₂→h.Ns C m₃→m₃ x = some v→m₃ y = some v₂→(∀ b o,b ≠ C→b ≠ D→s.heap.get? b = some o→h.get? b = some o) →
      wpAny (model prog w) A (eval elt cenv) (fun r s'=>(∃ t,r = .int (f j:Nat) t) ∧ Keeps { s with heap := h,toks := tk } s') E' { s with heap := h,toks := tk })
    (hR:∀ h' tk oD' m',(∀ b o,b ≠ C→b ≠ D→s.heap.get? b = some o→h'.get? b = some o)→h'.get? D = some oD'→SetIs w oD' (fun k=>S k ∨ ∃ j,j < items.size ∧ k = f j)→h'.Ns C m'→R (.ok .next) { s with heap := h',toks := tk }) :
    wpAny (model prog w) A (pyIter (.ref T)) (fun it s₄=>codeAny (model prog w) A (.compStart (.SetComp elt [⟨.Name x px,i1,[],0⟩,⟨.Name y py,i2,[],0⟩] scope pos) 1 it (.ref D) cenv) R s₄) E s := by
  intros prog w A E s elt i1 i2 x y px py scope pos C D T oD S items v m₂ f R cenv _ hh hcl hy hp hxy eT eC hx eD hS hTC hTD hCD hitems turnE hR
  subst hcl
  refine wpAny_pyIter_tuple eT ?_
  have hJT:T ≠ s.heap.objs.size := Nat.ne_of_lt (by obtain ⟨_,e,_⟩ := eT;exact Heap.lt_size e)
  have hJC:cenv.locals ≠ s.heap.objs.size := Nat.ne_of_lt eC.lt
  have hJD:D ≠ s.heap.objs.size := Nat.ne_of_lt (Heap.lt_size eD)
  have W := Walks.tuple (prog := prog) (w := w) (A := A) hh s.heap.objs.size T hJT items
  generalize hH:s.heap.push { cls := .type "tuple_iterator",data := .fields #[.ref T,.int 0 0] } = H
  have up:∀ b o,s.heap.get? b = some o→H.get? b = some o := fun b o e=>hH ▸ Heap.get?_push_of_some _ e
  have st0:H.IsTupleIter s.heap.objs.size T 0 ∧ H.IsTuple T items := ⟨hH ▸ ⟨_,Heap.get?_push_size _ rfl,rfl,rfl⟩,hH ▸ eT.push _⟩
  have loop:codeAny (model prog w) A (.compLoop (.SetComp elt [⟨.Name x px,i1,[],0⟩,⟨.Name y py,i2,[],0⟩] scope pos) 1 (.ref s.heap.objs.size) (.ref D) cenv) R { s with heap := H } := by
    refine loop_set2in (InnI w s T D cenv.locals items S f x v) ?_ (items.size + 1)
      ⟨H,s.toks,0,oD,m₂,by cases s;rfl,Nat.zero_le _,rfl,st0,fun b o _ _ e=>up b o e,up _ _ eD,hS.congr fun k=>⟨fun q=>q.elim id fun ⟨j,hj,_⟩=>absurd hj (Nat.not_lt_zero _),.inl⟩,eC.at' fun o e=>up _ o e,hx⟩
    rintro k s' ⟨h',tk,i,oD',m',rfl,hi,rfl,hst',hk',eD',hS',hn',hx'⟩
    by_cases hlt:i < items.size
    · refine W.item i _ _ _ hlt hst' fun v₂ h₂ tk₂ hP hst₂ hk₂=>?_
      have hmem:∀ b,b ≠ s.heap.objs.size→b ∉ [s.heap.objs.size] := fun b hb=>by simpa using hb
      refine wpAny_assign_Name (wpAny_storeName_local hy (hn'.at' fun o e=>hk₂ _ o (hmem _ hJC) e) (fun h₃ hn₃ hs₃=>?_) hp)
      have k3:∀ b o,b ≠ cenv.locals→b ≠ D→s.heap.get? b = some o→h₃.get? b = some o := fun b o hb hbD e =>
        hs₃.extBut b o hb (hk₂ b o (hmem _ (Nat.ne_of_lt (Heap.lt_size e))) (hk' b o hb hbD e))
      refine wpAny_mono (turnE i v₂ h₃ _ _ _ hP hn₃ (by rw [if_neg hxy];exact hx') (by simp) k3) (fun r s₄ h₄=>?_) fun _ _ e=>e
      obtain ⟨⟨t,rfl⟩,h₄,tk₄,rfl,hk₄⟩ := h₄
      have eD3:h₃.get? D = some oD' := hs₃.extBut D _ (Ne.symm hCD) (hk₂ D _ (hmem _ hJD) eD')
      refine call_add_is (hk₄ _ _ eD3) hS' (hitems i v₂ hP) fun h₅ o₅ sb₅ ho₅ hS₅=>?_
      refine ⟨items.size + 1 - (i + 1),by exact bC (fk40 (Z8 (La V0 (La V1 K1)) (La V2 K1) (Z9 (La V3 V1) (La V2 K1) (Z11 V0 V3 Lf))) rfl (sC (bC (fk20 (Z7 V0 V1 (Z10 (La V0 K1) (La V1 K1) Lf)) rfl hlt))) (sC (bC (fk20 (Z7 V0 V1 (Z10 V0 (La V1 K1) Lf)) rfl hlt)))),h₅,_,i + 1,o₅,_,rfl,hlt,rfl,?_,fun b o hb hbD e=>sb₅.extBut b o hbD (hk₄ b o (k3 b o hb hbD e)),ho₅,hS₅.congr fun k=>?_,(hn₃.keeps hk₄).sameBut sb₅ hCD,by rw [if_neg hxy];exact hx'⟩
      · have st₃ := W.frame _ _ _ hst₂ fun b hb o e=>hs₃.extBut b o (by
          rcases List.mem_cons.mp hb with rfl | hb
          · exact Ne.symm hJC
          · rw [List.mem_singleton.mp hb];exact hTC) e
        have st₄ := W.frame _ _ _ st₃ fun b _ o e=>hk₄ b o e
        exact W.frame _ _ _ st₄ fun b hb o e=>sb₅.extBut b o (by
          rcases List.mem_cons.mp hb with rfl | hb
          · exact Ne.symm hJD
          · rw [List.mem_singleton.mp hb];exact hTD) e
      · constructor
        · rintro (q | ⟨j,hj,e⟩)
          · exact .inl (.inl q)
          · rcases Nat.lt_or_ge j i with q | q
            · exact .inl (.inr ⟨j,q,e⟩)
            · have:j = i := by exact Nat.le_antisymm (bC (fk20 (Z7 V0 (La V1 K1) (Z10 V0 V1 Lf)) rfl hj)) (bC (fk20 (Z6 V0 V1 (Z10 V0 V1 Lf)) rfl q))
              subst this
              exact .inr e
        · rintro ((q | ⟨j,hj,e⟩) | e)
          · exact .inl q
          · exact .inr ⟨j,by exact (Nat.lt_succ_of_le (Nat.le_of_lt hj)),e⟩
          · exact .inr ⟨i,by exact (Nat.lt_succ_of_le (Nat.le_refl _)),e⟩
    · obtain rfl:i = items.size := Nat.le_antisymm hi (Nat.not_lt.mp hlt)
      refine W.done _ _ _ hst' fun h₂ tk₂ hk₂=>?_
      have hmem:∀ b,b ≠ s.heap.objs.size→b ∉ [s.heap.objs.size] := fun b hb=>by simpa using hb
      exact hR h₂ tk₂ oD' m' (fun b o hb hbD e=>hk₂ b o (hmem _ (Nat.ne_of_lt (Heap.lt_size e))) (hk' b o hb hbD e)) (hk₂ D _ (hmem _ hJD) eD') hS' (hn'.at' fun o e=>hk₂ _ o (hmem _ hJC) e)
  exact start_set (g := ⟨.Name y py,i2,[],0⟩) rfl rfl loop (W.self 0 _ _ _ st0 loop)
end
inductive TupEnd (h₀:Heap) (L:Addr) (m:Str→Option Value) (s:Shared) (all:List (Addr × Obj)) (mv:Nat→Nat) (xv:Value) (s':Shared):Prop
  | con (h':_) (tk':_) (T:_) (items:_) (n:_)
      (q1:s' = { s with heap := h',toks := tk' })
      (q2:xv = .ref T)
      (q3:Fr h₀ L h' m)
      (q4:News h₀ L h' ((T,({ cls := .type "tuple",data := .seq items n }:Obj)) :: all))
      (q5:items.size = 3)
      (q6:(∀ (j:Nat) v,items[j]? = some v→∃ t,v = .int (mv j:Nat) t))
      (q7:∀ p ∈ all,p.1 ≠ T):TupEnd h₀ L m s all mv xv s'
section
variable {prog:Program} {w:World} {A:Around} {E:Value→Shared→Prop} {s:Shared} {h₀:Heap} {L:Addr} {m:Str→Option Value} {env:Env}
theorem block_S2 {elt i1 i2:Expr} {x y:Str} {px py:Pos} {scope:Scope} {cl:List (Str × Addr)} {pos:Pos} {s₂:Shared} {I:Addr} {fp:List Addr} {n:Nat} {P:Nat→Value→Prop} {St:Nat→Heap→Prop} {news:List (Addr × Obj)}
    {mv:Nat→Nat} {f:Nat→Nat→Nat} {RR:Value→Addr→Result→Shared→Prop}
    (hh:A.handled = none) (W:Walks prog w A I fp [I] n P St) (hIo:∀ i h,St i h→∃ o,h.get? I = some o)
    (hSt:∀ i h h' o,St i h→h.get? I = some o→h'.get? I = some o→(∀ b o,h₀.get? b = some o→h'.get? b = some o)→News h₀ L h' news→St i h')
    (hcell:∀ y ∈ scope.names,y.2 ≠ .cell) (hkind:scope.kind = .function) (hx:scope.names.lookup x = some .local) (hy:scope.names.lookup y = some .local) (hxy:x ≠ y) (hst:St 0 s₂.heap) (hfp:∀ b ∈ fp,b < s₂.heap.objs.size)
    (F:Fr h₀ L s₂.heap m) (N:News h₀ L s₂.heap news) (hIL:L ≠ I) (hI₀:h₀.get? I = none) (off:∀ p ∈ news,p.1 ≠ I) (hf:∀ i j,i < n→j < 3→f i j < 240)
    (turn2:∀ i v oI C oC D oD m₂ h tk (E':Value→Shared→Prop),i < n→P i v→LCg.NsObj oC m₂→m₂ x = some v→Fr h₀ L h m→News h₀ L h ((I,oI) :: (C,oC) :: (D,oD) :: news)→LCg.Off3 I C D news→((@Ne Nat I C) ∧ (@Ne Nat I D) ∧ (@Ne Nat C D)) →
      wpAny (model prog w) A (eval i2 (compEnvC scope cl C env)) (TupEnd h₀ L m { s₂ with heap := h,toks := tk } ((I,oI) :: (C,oC) :: (D,oD) :: news) mv) E' { s₂ with heap := h,toks := tk })
    (turnE:∀ i v j t₂ C oC m₂ h tk (E':Value→Shared→Prop),i < n→P i v→j < 3→LCg.NsObj oC m₂→m₂ x = some v→m₂ y = some (.int (mv j:Nat) t₂)→Fr h₀ L h m→News h₀ L h [(C,oC)] →
      wpAny (model prog w) A (eval elt (compEnvC scope cl C env)) (fun r s'=>(∃ t,r = .int (f i j:Nat) t) ∧ Keeps { s₂ with heap := h,toks := tk } s') E' { s₂ with heap := h,toks := tk })
    (hs2:∀ C x,foldedSetIterable i2 (compEnvC scope cl C env) x = pure x)
    (hRR:∀ D oD C h tk m',Fr h₀ L h m→News h₀ L h ((D,oD) :: news)→SetIs w oD (fun k=>∃ i,i < n ∧ ∃ j,j < 3 ∧ k = f i j)→LCg.Off1 D news→h.Ns C m'→h₀.get? C = none→h₀.get? D = none→C ≠ L→D ≠ L→C ≠ D→(∀ p ∈ news,p.1 ≠ C)→RR (.ref D) C (.ok .next) { s₂ with heap := h,toks := tk }) :
    wpAny (model prog w) A (newSet (.type "set")) (fun acc s₃=>wpAny (model prog w) A (newFunctionEnv scope env.globals cl [] env.qual none .none (some env)) (fun cenv s₄ =>
      codeAny (model prog w) A (.compStart (.SetComp elt [⟨.Name x px,i1,[],0⟩,⟨.Name y py,i2,[],0⟩] scope pos) 0 (.ref I) acc { cenv with scope := relabel scope env }) (RR acc cenv.locals) s₄) E s₃) E s₂ := by
  intros prog w A E h₀ L m env elt i1 i2 x y px py scope cl pos s₂ I fp n P St news mv f RR _ hh W hIo hSt hcell hkind hx hy hxy hst hfp F N hIL hI₀ off hf turn2 turnE hs2 hRR
  refine newSet_is (wpAny_newFunctionEnv hcell (by intro y hy;simp at hy) (fun h₁ hns₁ hsb₁=>?_) hkind)
  dsimp only at hns₁ hsb₁ ⊢
  generalize hOD:({ cls := .type "set",dict := none,data := .set #[] 0 (.fresh 0 0 (!(byText w))) }:Obj) = oD₀ at hns₁ hsb₁ ⊢
  have hset₀:SetIs w oD₀ (fun _=>False) := hOD ▸ setIs_fresh w 0 0
  generalize hH2:s₂.heap.push oD₀ = H2 at hns₁ hsb₁ ⊢
  have hC:H2.objs.size = s₂.heap.objs.size + 1 := by rw [← hH2,Heap.size_push]
  have hDC:s₂.heap.objs.size ≠ H2.objs.size := by rw [hC];exact Nat.ne_of_lt (Nat.lt_succ_self _)
  have below:∀ b,b < s₂.heap.objs.size→b ≠ H2.objs.size ∧ b ≠ s₂.heap.objs.size := fun b hb=>⟨by rw [hC];exact Nat.ne_of_lt (Nat.lt_succ_of_lt hb),Nat.ne_of_lt hb⟩
  have hDf:s₂.heap.objs.size ∉ fp := fun hm=>Nat.lt_irrefl _ (hfp _ hm)
  have hCf:H2.objs.size ∉ fp := fun hm=>by have := hfp _ hm;rw [hC] at this;exact Nat.lt_irrefl _ (Nat.lt_of_succ_lt this)
  have hIf:I ∈ fp := W.sub I (List.mem_singleton.mpr rfl)
  have hIlt:I < s₂.heap.objs.size := hfp I hIf
  have old:∀ b o,s₂.heap.get? b = some o→h₁.get? b = some o := fun b o e=>hsb₁.extBut b o (below b (Heap.lt_size e)).1 (Heap.get?_push_of_some _ (hH2 ▸ Heap.get?_push_of_some _ e))
  have hacc:h₁.get? s₂.heap.objs.size = some oD₀ := hsb₁.extBut _ _ hDC (Heap.get?_push_of_some _ (hH2 ▸ Heap.get?_push_size _ (by rw [← hOD];rfl)))
  have hst₁:St 0 h₁ := W.frame _ _ _ hst fun b _ o e=>old b o e
  have fresh:∀ a,s₂.heap.objs.size ≤ a→s₂.heap.get? a = none := fun a ha=>by
    cases e:s₂.heap.get? a with
    | none=>rfl
    | some o'=>exact absurd (Heap.lt_size e) (Nat.not_lt.mpr ha)
  have fresh₀:∀ a,s₂.heap.objs.size ≤ a→h₀.get? a = none := fun a ha=>by
    cases e:h₀.get? a with
    | none=>rfl
    | some o'=>have := F.keep a o' e;rw [fresh a ha] at this;cases this
  have hD₀:h₀.get? s₂.heap.objs.size = none := fresh₀ _ (Nat.le_refl _)
  have hC₀:h₀.get? H2.objs.size = none := fresh₀ _ (by rw [hC];exact Nat.le_succ _)
  have hLlt:L < s₂.heap.objs.size := F.ns.lt
  have hDL:s₂.heap.objs.size ≠ L := Ne.symm (below L hLlt).2
  have hCL:H2.objs.size ≠ L := Ne.symm (below L hLlt).1
  have hCI:I ≠ H2.objs.size := (below I hIlt).1
  have hDI:I ≠ s₂.heap.objs.size := (below I hIlt).2
  have off₀:LCg.Off3 I H2.objs.size s₂.heap.objs.size news := LCg.Off3.of fun p hp=>⟨off p hp,(below _ (Heap.lt_size (N p hp).1)).1,(below _ (Heap.lt_size (N p hp).1)).2⟩
  have off3 := off₀.mem
  have loop:∀ s₃:Shared,s₃ = { s₂ with heap := h₁,toks := s₂.toks + ([]:List (Str × Value)).length } →
      codeAny (model prog w) A (.compLoop (.SetComp elt [⟨.Name x px,i1,[],0⟩,⟨.Name y py,i2,[],0⟩] scope pos) 0 (.ref I) (.ref s₂.heap.objs.size) (compEnvC scope cl H2.objs.size env))
        (RR (.ref s₂.heap.objs.size) H2.objs.size) s₃ := by
    rintro s₃ rfl
    refine loop_set2
      (SCI w h₀ L m s₂ n St H2.objs.size s₂.heap.objs.size news (fun i k=>∃ a,a < i ∧ ∃ j,j < 3 ∧ k = f a j)) ?_ (n + 1)
      ⟨h₁,_,0,oD₀,_,rfl,Nat.zero_le _,rfl,hst₁,F.keeps old,hns₁,fun p hp=>?_,hset₀.congr fun k=>⟨fun ⟨j,hj,_⟩=>absurd hj (Nat.not_lt_zero _),fun q=>q.elim⟩⟩ (fun _=>rfl) (hs2 _)
    · rintro k s' ⟨h',tk,i,oD,m',rfl,hi,rfl,hst',F',hn',N',hset⟩
      by_cases hlt:i < n
      · refine W.item i _ _ _ hlt hst' fun v h₂ tk₂ hPv hst₂ hk₂=>?_
        refine wpAny_assign_Name (wpAny_storeName_local (lookup_relabel_local hx) (hn'.at' fun o e=>hk₂ _ o (by simpa using Ne.symm hCI) e) (fun h₃ hn₃ hs₃=>?_) (by simp [compEnvC,relabel,hkind]))
        have hst₃:St (i + 1) h₃ := W.frame _ _ _ hst₂ fun b hb o e=>hs₃.extBut b o (fun q=>hCf (by have q':b = H2.objs.size := q;rw [← q'];exact hb)) e
        obtain ⟨oI,heI⟩ := hIo _ _ hst₃
        obtain ⟨oC,heC,hoC⟩ := LCg.ns_obj hn₃
        have F₃:Fr h₀ L h₃ m := (LCg.fr_but F' hk₂ hIL hI₀).change hs₃ hCL hC₀
        have N₂:News h₀ L h₂ ((s₂.heap.objs.size,oD) :: news) := LCg.news_but N' hk₂ fun p hp=>by
          rcases List.mem_cons.mp hp with rfl | hp
          · exact Ne.symm hDI
          · exact (off3 p hp).1
        have N₃':News h₀ L h₃ ((s₂.heap.objs.size,oD) :: news) := fun p hp=>by
          have z := N₂ p hp
          refine ⟨hs₃.extBut _ _ ?_ z.1,z.2⟩
          rcases List.mem_cons.mp hp with rfl | hp
          · exact hDC
          · exact (off3 p hp).2.1
        have N₃:News h₀ L h₃ ((I,oI) :: (H2.objs.size,oC) :: (s₂.heap.objs.size,oD) :: news) :=
          news3 (h' := h₃) heI ⟨Ne.symm hIL,hI₀⟩ heC ⟨hCL,hC₀⟩ (N₃' _ List.mem_cons_self).1 ⟨hDL,hD₀⟩ fun p hp=>N₃' p (List.mem_cons_of_mem _ hp)
        refine wpAny_mono (turn2 i v oI H2.objs.size oC s₂.heap.objs.size oD _ h₃ _ _ hlt hPv hoC (by simp) F₃ N₃ off₀ ⟨hCI,hDI,Ne.symm hDC⟩) (fun xv s₄ h₄=>?_) fun _ _ e=>e
        obtain ⟨h₄,tk₄,T,items,nT,rfl,rfl,F₄,N₄,hsz,hits,hTn⟩ := h₄
        have zT := (N₄ _ List.mem_cons_self)
        have N₄':News h₀ L h₄ ((I,oI) :: (H2.objs.size,oC) :: (s₂.heap.objs.size,oD) :: news) := fun p hp=>N₄ p (List.mem_cons_of_mem _ hp)
        have zI := (N₄' (I,oI) List.mem_cons_self).1
        have zC := (N₄' (H2.objs.size,oC) (List.mem_cons_of_mem _ List.mem_cons_self)).1
        have zD := (N₄' (s₂.heap.objs.size,oD) (List.mem_cons_of_mem _ (List.mem_cons_of_mem _ List.mem_cons_self))).1
        have hTC:T ≠ H2.objs.size := fun q=>hTn _ (List.mem_cons_of_mem _ List.mem_cons_self) q.symm
        have hTD:T ≠ s₂.heap.objs.size := fun q=>hTn _ (List.mem_cons_of_mem _ (List.mem_cons_of_mem _ List.mem_cons_self)) q.symm
        have itlt:∀ (j:Nat) v₂,items[j]? = some v₂→j < 3 := fun j v₂ e=>by rw [← hsz];exact (Array.getElem?_eq_some_iff.mp e).1
        have kF:∀ {hh:Heap},(∀ b o,b ≠ H2.objs.size→b ≠ s₂.heap.objs.size→h₄.get? b = some o→hh.get? b = some o)→Fr h₀ L hh m := fun k=>⟨F₄.ns.at' fun o e=>k L o (Ne.symm hCL) (Ne.symm hDL) e,
          fun b o e=>k b o (fun q=>by rw [q,hC₀] at e;cases e) (fun q=>by rw [q,hD₀] at e;cases e) (F₄.keep b o e),F₄.above⟩
        refine inner_S (f := f i) (v := v) (x := x) (y := y) (items := items) (cenv := compEnvC scope cl H2.objs.size env) (R := fun r s₅=>match r with
          | .ok _=>∃ m_1,m_1 < n + 1 - i ∧ _
          | .error e=>_) hh rfl (lookup_relabel_local hy) (by simp [compEnvC,relabel,hkind]) hxy ⟨_,zT.1,rfl,_,rfl⟩ (hoC.ns zC) (by simp) zD hset hTC hTD (Ne.symm hDC) (fun j v₂ e=>hf i j hlt (itlt j v₂ e)) ?_ ?_
        · intro j v₂ hX tkX mX E' hj hnX hxX hyX hkX
          obtain ⟨t₂,rfl⟩ := hits j v₂ hj
          obtain ⟨oX,heX,hoX⟩ := LCg.ns_obj hnX
          exact turnE i v j t₂ H2.objs.size oX mX hX tkX E' hlt hPv (itlt j _ hj) hoX hxX hyX (kF hkX) fun p hp=>by
            rw [List.mem_singleton.mp hp]
            exact ⟨heX,hCL,hC₀⟩
        · intro h₅ tk₅ oD₅ m₅ hk₅ eD₅ hS₅ hn₅
          have F₅ := kF hk₅
          have N₅:News h₀ L h₅ news := fun p hp=>⟨hk₅ _ _ (off3 p hp).2.1 (off3 p hp).2.2 (N₄' p (List.mem_cons_of_mem _ (List.mem_cons_of_mem _ (List.mem_cons_of_mem _ hp)))).1,(N p hp).2⟩
          refine ⟨n + 1 - (i + 1),by exact bC (fk40 (Z8 (La V0 (La V1 K1)) (La V2 K1) (Z9 (La V3 V1) (La V2 K1) (Z11 V0 V3 Lf))) rfl (sC (bC (fk20 (Z7 V0 V1 (Z10 (La V0 K1) (La V1 K1) Lf)) rfl hlt))) (sC (bC (fk20 (Z7 V0 V1 (Z10 V0 (La V1 K1) Lf)) rfl hlt)))),h₅,tk₅,i + 1,oD₅,m₅,rfl,hlt,rfl,?_,F₅,hn₅,fun p hp=>?_,hS₅.congr fun k=>?_⟩
          · exact hSt _ _ _ _ hst₃ heI (hk₅ _ _ hCI hDI zI) F₅.keep N₅
          · rcases List.mem_cons.mp hp with rfl | hp
            · exact ⟨eD₅,hDL,hD₀⟩
            · exact N₅ p hp
          · constructor
            · rintro ⟨a,ha,j,hj,e⟩
              rcases Nat.lt_or_ge a i with q | q
              · exact .inl ⟨a,q,j,hj,e⟩
              · have:a = i := by exact Nat.le_antisymm (bC (fk20 (Z7 V0 (La V1 K1) (Z10 V0 V1 Lf)) rfl ha)) (bC (fk20 (Z6 V0 V1 (Z10 V0 V1 Lf)) rfl q))
                subst this
                exact .inr ⟨j,by rw [hsz];exact hj,e⟩
            · rintro (⟨a,ha,j,hj,e⟩ | ⟨j,hj,e⟩)
              · exact ⟨a,by exact (Nat.lt_succ_of_le (Nat.le_of_lt ha)),j,hj,e⟩
              · exact ⟨i,by exact (Nat.lt_succ_of_le (Nat.le_refl _)),j,by rw [← hsz];exact hj,e⟩
      · obtain rfl:i = n := Nat.le_antisymm hi (Nat.not_lt.mp hlt)
        refine W.done _ _ _ hst' fun h₂ tk₂ hk₂=>?_
        exact hRR _ _ _ h₂ tk₂ _ (LCg.fr_but F' hk₂ hIL hI₀) (LCg.news_but N' hk₂ fun p hp=>by
          rcases List.mem_cons.mp hp with rfl | hp
          · exact Ne.symm hDI
          · exact (off3 p hp).1) hset off₀.one (hn'.at' fun o e=>hk₂ _ o (by simpa using Ne.symm hCI) e) hC₀ hD₀ hCL hDL (Ne.symm hDC) (fun p hp=>(off3 p hp).2.1)
    · rcases List.mem_cons.mp hp with rfl | hp
      · exact ⟨hacc,hDL,hD₀⟩
      · exact ⟨old _ _ (N p hp).1,(N p hp).2⟩
  exact start_set (g := ⟨.Name x px,i1,[],0⟩) rfl rfl (loop _ rfl) (W.self 0 _ _ _ hst₁ (loop _ rfl))
end
section
variable {prog:Program} {w:World} {A:Around} {E:Value→Shared→Prop} {s:Shared} {h₀:Heap} {L a b:Addr} {m:Str→Option Value} {env:Env} {news:List (Addr × Obj)}
theorem eval_SetComp (elt:Expr) (gens:List Comprehension) (scope:Scope) (pos:Pos) (env:Env):eval (.SetComp elt gens scope pos) env = comprehension (.SetComp elt gens scope pos) scope env (firstIterPos gens pos) (newSet (.type "set")) (firstAsync gens) (firstIter gens env) := by
  rw [arm_eval_SetComp]
inductive SetSrcR (prog:Program) (w:World) (A:Around) (h₀:Heap) (L:Addr) (m:Str→Option Value) (env:Env) (elt:Expr) (ifs:List Expr) (x:Str) (scope:Scope) (cl:List (Str × Addr)) (Q:Value→Shared→Prop) (xv:Value) (s₁:Shared):Prop
  | con (r:Addr) (b:Int) (t u v:Tok) (n:Nat) (news:List (Addr × Obj)) (T:Nat→Prop) (f:Nat→Nat)
      (q1:xv = .ref r)
      (q2:A.handled = none)
      (q3:Fr h₀ L s₁.heap m)
      (q4:News h₀ L s₁.heap news)
      (q5:IsRange s₁.heap r 0 b 1 t u v)
      (q6:Builtin.Range.small 0 b 1 = true)
      (q7:Builtin.Range.rangeSize 0 b 1 = ((n:Nat):Int))
      (q8:(∀ i t₁ I oI C oC D oD m₂ h tk (E':Value→Shared→Prop),i < n→LCg.NsObj oC m₂→m₂ x = some (.int (i:Nat) t₁)→Fr h₀ L h m→News h₀ L h ((I,oI) :: (C,oC) :: (D,oD) :: news)→LCg.Off3 I C D news→((@Ne Nat I C) ∧ (@Ne Nat I D) ∧ (@Ne Nat C D))→wpAny (model prog w) A (forIn ifs true fun c r=>if r = true then do let ok ← isTrue c (compEnvC scope cl C env) (eval c (compEnvC scope cl C env));pure (ForInStep.yield ok) else pure (ForInStep.yield r)) (TestE h₀ L m { s₁ with heap := h,toks := tk } ((I,oI) :: (C,oC) :: (D,oD) :: news) (T i)) E' { s₁ with heap := h,toks := tk }))
      (q9:(∀ i t₁ I oI C oC D oD m₂ h tk (E':Value→Shared→Prop),i < n→T i→LCg.NsObj oC m₂→m₂ x = some (.int (i:Nat) t₁)→Fr h₀ L h m→News h₀ L h ((I,oI) :: (C,oC) :: (D,oD) :: news)→LCg.Off3 I C D news→((@Ne Nat I C) ∧ (@Ne Nat I D) ∧ (@Ne Nat C D))→wpAny (model prog w) A (eval elt (compEnvC scope cl C env)) (TEnd h₀ L m { s₁ with heap := h,toks := tk } ((I,oI) :: (C,oC) :: (D,oD) :: news) (fun y=>∃ t,y = .int (f i:Nat) t ∧ f i < 240)) E' { s₁ with heap := h,toks := tk }))
      (q10:∀ D oD h tk,Fr h₀ L h m→News h₀ L h ((D,oD) :: news)→SetIs w oD (fun k=>∃ i,i < n ∧ T i ∧ k = f i)→(∀ p ∈ news,p.1 ≠ D)→Q (.ref D) { s₁ with heap := h,toks := tk }):SetSrcR prog w A h₀ L m env elt ifs x scope cl Q xv s₁
theorem SetComp_R {elt iter:Expr} {ifs:List Expr} {x:Str} {px:Pos} {scope:Scope} {cl:List (Str × Addr)} {pos:Pos} {Q:Value→Shared→Prop} (_F₀:Fr h₀ L s.heap m)
    (hclos:closureFor scope env = pure cl) (hcell:∀ y ∈ scope.names,y.2 ≠ .cell) (hkind:scope.kind = .function)
    (hnames:∀ y ∈ scope.names,y.2 = .local→scope.names.lookup y.1 = some .local) (hx:scope.names.lookup x = some .local)
    (h:wpAny (model prog w) A (eval iter env) (SetSrcR prog w A h₀ L m env elt ifs x scope cl Q) E s)
    (hs:∀ x,foldedSetIterable iter env x = pure x := by intro _;rfl) :
    wpAny (model prog w) A (eval (.SetComp elt [⟨.Name x px,iter,ifs,0⟩] scope pos) env) Q E s := by
  intros prog w A E s h₀ L m env elt iter ifs x px scope cl pos Q _ _F₀ hclos hcell hkind hnames hx h hs
  rw [eval_SetComp]
  refine wpAny_comprehension_free (use := none) rfl hs hclos hkind hnames (wpAny_mono h (fun xv s₁ h₁=>?_) fun _ _ e=>e)
  obtain ⟨r,b,t,u,v,n,news,T,f,rfl,hh,F,N,hr,hsm,hn,hT,hE,fin⟩ := h₁
  refine wpAny_pyIter_range hr hsm ?_
  refine block_S (T := T) (f := f) (LCg.range_walks hh 0 n) (fun i h st=>⟨_,st⟩) (fun i h h' o st e e' k N'=>LCg.range_st (h₀ := h₀) i h h' o _ st e e' k N' trivial) hcell hkind hx (by show IsRangeIter _ _ _ _ _;rw [hn];simpa using Heap.get?_push_size _ rfl) (fun b hb=>?_)
    (F.keeps fun _ _ e=>Heap.get?_push_of_some _ e) (N.grown fun _ _ e=>Heap.get?_push_of_some _ e) (Nat.ne_of_lt F.ns.lt) (next_is_new F) (fun p hp=>Nat.ne_of_lt (Heap.lt_size (N p hp).1)) ?_ ?_ ?_
  · rw [List.mem_singleton.mp hb]
    show s₁.heap.objs.size < (s₁.heap.push _).objs.size
    rw [Heap.size_push];exact Nat.lt_succ_self _
  · rintro i v oI C oC D oD m₂ h tk E' hi ⟨t₁,rfl⟩ hC hx' F' N' off ne
    rw [show (0:Int) + (i:Int) = (i:Nat) by exact Int.le_antisymm (bC (fk10 (Z4 (La K0 V0) V0 Lf) rfl)) (bC (fk10 (Z4 V0 (La K0 V0) Lf) rfl))] at hx'
    exact hT i t₁ _ oI C oC D oD m₂ h tk E' hi hC hx' F' N' off ne
  · rintro i v oI C oC D oD m₂ h tk E' hi ⟨t₁,rfl⟩ hTi hC hx' F' N' off ne
    rw [show (0:Int) + (i:Int) = (i:Nat) by exact Int.le_antisymm (bC (fk10 (Z4 (La K0 V0) V0 Lf) rfl)) (bC (fk10 (Z4 V0 (La K0 V0) Lf) rfl))] at hx'
    exact hE i t₁ _ oI C oC D oD m₂ h tk E' hi hTi hC hx' F' N' off ne
  · intro D oD C h tk m' F' N' hset o1 hn' hC₀ hD₀ hCL hDL hCD offC
    have offD:∀ p ∈ news,p.1 ≠ D := by
      have:∀ {l:List (Addr × Obj)},LCg.Off1 D l→∀ p ∈ l,p.1 ≠ D := by
        intro l
        induction l with
        | nil=>intro _ p hp;cases hp
        | cons q r ih =>
          intro ho p hp
          rcases List.mem_cons.mp hp with rfl | hp
          · exact ho.1
          · exact ih ho.2 p hp
      exact this o1
    refine ⟨m',hn',fun h'' hs''=>fin D oD h'' tk (F'.change hs'' hCL hC₀) (fun p hp=>?_) hset offD⟩
    refine ⟨hs''.extBut _ _ ?_ (N' p hp).1,(N' p hp).2⟩
    rcases List.mem_cons.mp hp with rfl | hp
    · exact Ne.symm hCD
    · exact offC p hp
inductive SetSrcW (prog:Program) (w:World) (A:Around) (h₀:Heap) (L:Addr) (m:Str→Option Value) (env:Env) (elt i2:Expr) (x y:Str) (scope:Scope) (cl:List (Str × Addr)) (Q:Value→Shared→Prop) (xv:Value) (s₁:Shared):Prop
  | con (a:Addr) (oa:Obj) (news:List (Addr × Obj)) (S:Nat→Prop) (mv:Nat→Nat)
      (q1:xv = .ref a)
      (q2:A.handled = none)
      (q3:Fr h₀ L s₁.heap m)
      (q4:News h₀ L s₁.heap news)
      (q5:(a,oa) ∈ news)
      (q6:SetIs w oa S)
      (q7:(∀ k j,S k→j < 3→k + mv j < 240))
      (q8:(∀ I oI C oC D oD m₂ h tk (E':Value→Shared→Prop),LCg.NsObj oC m₂→Fr h₀ L h m→News h₀ L h ((I,oI) :: (C,oC) :: (D,oD) :: news)→LCg.Off3 I C D news→((@Ne Nat I C) ∧ (@Ne Nat I D) ∧ (@Ne Nat C D))→wpAny (model prog w) A (eval i2 (compEnvC scope cl C env)) (TupEnd h₀ L m { s₁ with heap := h,toks := tk } ((I,oI) :: (C,oC) :: (D,oD) :: news) mv) E' { s₁ with heap := h,toks := tk }))
      (q9:(∀ (p:Nat) t₁ j t₂ C oC m₂ h tk (E':Value→Shared→Prop),S p→j < 3→LCg.NsObj oC m₂→m₂ x = some (.int (p:Nat) t₁)→m₂ y = some (.int (mv j:Nat) t₂)→Fr h₀ L h m→News h₀ L h [(C,oC)]→wpAny (model prog w) A (eval elt (compEnvC scope cl C env)) (fun r s'=>(∃ t,r = .int ((p + mv j:Nat)) t) ∧ Keeps { s₁ with heap := h,toks := tk } s') E' { s₁ with heap := h,toks := tk }))
      (q10:∀ D oD h tk,Fr h₀ L h m→News h₀ L h ((D,oD) :: news)→SetIs w oD (fun k=>∃ p,S p ∧ ∃ j,j < 3 ∧ k = p + mv j)→(∀ p ∈ news,p.1 ≠ D)→Q (.ref D) { s₁ with heap := h,toks := tk }):SetSrcW prog w A h₀ L m env elt i2 x y scope cl Q xv s₁
theorem SetComp_W {elt i1 i2:Expr} {x y:Str} {px py:Pos} {scope:Scope} {cl:List (Str × Addr)} {pos:Pos} {Q:Value→Shared→Prop} (_F₀:Fr h₀ L s.heap m)
    (hclos:closureFor scope env = pure cl) (hcell:∀ y ∈ scope.names,y.2 ≠ .cell) (hkind:scope.kind = .function)
    (hnames:∀ y ∈ scope.names,y.2 = .local→scope.names.lookup y.1 = some .local) (hx:scope.names.lookup x = some .local) (hy:scope.names.lookup y = some .local) (hxy:x ≠ y)
    (h:wpAny (model prog w) A (eval i1 env) (SetSrcW prog w A h₀ L m env elt i2 x y scope cl Q) E s)
    (hs:∀ x,foldedSetIterable i1 env x = pure x := by intro _;rfl) (hs2:∀ C x,foldedSetIterable i2 (compEnvC scope cl C env) x = pure x := by intro _ _;rfl) :
    wpAny (model prog w) A (eval (.SetComp elt [⟨.Name x px,i1,[],0⟩,⟨.Name y py,i2,[],0⟩] scope pos) env) Q E s := by
  intros prog w A E s h₀ L m env elt i1 i2 x y px py scope cl pos Q _ _F₀ hclos hcell hkind hnames hx hy hxy h hs hs2
  rw [eval_SetComp]
  refine wpAny_comprehension_free (use := none) rfl hs hclos hkind hnames (wpAny_mono h (fun xv s₁ h₁=>?_) fun _ _ e=>e)
  obtain ⟨a,oa,news,S,mv,rfl,hh,F,N,ma,hS,hb,h2,hE,fin⟩ := h₁
  obtain ⟨hex,es,ep,t,hd,he,hf,hl,hm⟩ := id hS
  have ea := (N _ ma).1
  refine pyIter_set ea hex hd hf ?_
  have hI:@Ne Nat a s₁.heap.objs.size := Nat.ne_of_lt (Heap.lt_size ea)
  have key:∀ i,i < es.size→∃ (k:Nat) (t:Tok),(ordOf w a es ep)[i]? = some ((k:Int),Value.int (k:Int) t) ∧ S k := fun i hi=>by
    have hi':i < (ordOf w a es ep).size := by rw [ord_size];exact hi
    have hmem:(ordOf w a es ep)[i] ∈ es.toList := ord_perm.mem_iff.mp (Array.mem_toList_iff.mpr (Array.getElem_mem hi'))
    obtain ⟨k,t,_,e⟩ := he.ent _ hmem
    refine ⟨k,t,by rw [Array.getElem?_eq_getElem hi',e],(hm k).mpr (List.mem_map.mpr ⟨_,hmem,by rw [e]⟩)⟩
  have g:∃ g:Nat→Nat,∀ i,i < es.size→∃ t:Tok,(ordOf w a es ep)[i]? = some ((g i:Int),Value.int (g i:Int) t) ∧ S (g i) := by
    refine ⟨fun i=>if hi:i < es.size then Classical.choose (key i hi) else 0,fun i hi=>?_⟩
    dsimp only
    rw [dif_pos hi]
    exact Classical.choose_spec (key i hi)
  obtain ⟨g,hg⟩ := g
  have push:∀ b o,s₁.heap.get? b = some o→(s₁.heap.push (setIt 0 0 a es.size ep)).get? b = some o := fun b o e=>Heap.get?_push_of_some _ e
  refine block_S2 (n := es.size) (mv := mv) (f := fun i j=>g i + mv j) hh (walks_set hh hI hex hd hf hl) (fun i h st=>⟨_,st.2.choose_spec.1⟩) ?_ hcell hkind hx hy hxy ⟨push _ _ ea,0,Heap.get?_push_size _ rfl,fun _=>rfl⟩ ?_
    (F.keeps push) (N.grown push) (Nat.ne_of_lt F.ns.lt) (next_is_new F) (fun p hp=>Nat.ne_of_lt (Heap.lt_size (N p hp).1)) ?_ ?_ ?_ hs2 ?_
  · intro i h h' o st e e' k N'
    obtain ⟨e1,slot,e2,hs'⟩ := st
    exact ⟨(N' _ ma).1,slot,by rw [e',← e,e2],hs'⟩
  · intro b hb
    show b < (s₁.heap.push _).objs.size
    rw [Heap.size_push]
    rcases List.mem_cons.mp hb with rfl | hb
    · exact Nat.lt_succ_self _
    · rw [List.mem_singleton.mp hb];exact Nat.lt_succ_of_lt (Heap.lt_size ea)
  · intro i j hi hj
    obtain ⟨t,_,hk⟩ := hg i hi
    exact hb _ j hk hj
  · intro i v oI C oC D oD m₂ h tk E' hi hv hC hx' F' N' off ne
    exact h2 _ oI C oC D oD m₂ h tk E' hC F' N' off ne
  · rintro i v j t₂ C oC m₂ h tk E' hi ⟨e,he',rfl⟩ hj hC hx' hy' F' N'
    obtain ⟨t,e2,hk⟩ := hg i hi
    rw [e2] at he'
    cases he'
    exact hE (g i) t j t₂ C oC m₂ h tk E' hk hj hC hx' hy' F' N'
  · intro D oD C h tk m' F' N' hset o1 hn' hC₀ hD₀ hCL hDL hCD offC
    have offD:∀ p ∈ news,p.1 ≠ D := by
      have:∀ {l:List (Addr × Obj)},LCg.Off1 D l→∀ p ∈ l,p.1 ≠ D := by
        intro l
        induction l with
        | nil=>intro _ p hp;cases hp
        | cons q r ih =>
          intro ho p hp
          rcases List.mem_cons.mp hp with rfl | hp
          · exact ho.1
          · exact ih ho.2 p hp
      exact this o1
    refine ⟨m',hn',fun h'' hs''=>fin D oD h'' tk (F'.change hs'' hCL hC₀) (fun p hp=>?_) (hset.congr fun k=>?_) offD⟩
    · refine ⟨hs''.extBut _ _ ?_ (N' p hp).1,(N' p hp).2⟩
      rcases List.mem_cons.mp hp with rfl | hp
      · exact Ne.symm hCD
      · exact offC p hp
    · constructor
      · rintro ⟨p,hp,j,hj,e⟩
        obtain ⟨e',he',e1⟩ := List.mem_map.mp ((hm p).mp hp)
        have he2:e' ∈ (ordOf w a es ep).toList := ord_perm.mem_iff.mpr he'
        obtain ⟨i,hi,e3⟩ := List.getElem_of_mem he2
        rw [Array.length_toList,ord_size] at hi
        obtain ⟨t,e4,_⟩ := hg i hi
        have hi':i < (ordOf w a es ep).size := by rw [ord_size];exact hi
        rw [Array.getElem?_eq_getElem hi',← Array.getElem_toList,e3] at e4
        have e5 := Option.some.inj e4
        rw [e5] at e1
        have e6:g i = p := by
          have:((g i:Nat):Int) = (p:Int) := e1
          exact Nat.le_antisymm (bC (fk20 (Z2 V0 V1 (Z10 V0 V1 Lf)) rfl this)) (bC (fk20 (Z3 V0 V1 (Z10 V1 V0 Lf)) rfl this))
        exact ⟨i,hi,j,hj,by rw [e6];exact e⟩
      · rintro ⟨i,hi,j,hj,e⟩
        obtain ⟨t,_,hk⟩ := hg i hi
        exact ⟨g i,hk,j,hj,e⟩
end
section
variable {prog:Program} {w:World} {A:Around} {E:Value→Shared→Prop} {s:Shared} {h₀:Heap} {L a b:Addr} {m:Str→Option Value} {env:Env} {news:List (Addr × Obj)}
theorem SetSrcR.mk {elt:Expr} {ifs:List Expr} {x:Str} {scope:Scope} {cl:List (Str × Addr)} {Q:Value→Shared→Prop} {s₁:Shared} {r:Addr} {b:Int} {t u v:Tok} {n:Nat} (T:Nat→Prop) (f:Nat→Nat)
    (hh:A.handled = none) (F:Fr h₀ L s₁.heap m) (N:News h₀ L s₁.heap news) (hr:IsRange s₁.heap r 0 b 1 t u v) (hsm:Builtin.Range.small 0 b 1 = true) (hn:Builtin.Range.rangeSize 0 b 1 = ((n:Nat):Int))
    (hT:∀ i t₁ I oI C oC D oD m₂ h tk (E':Value→Shared→Prop),i < n→LCg.NsObj oC m₂→m₂ x = some (.int (i:Nat) t₁)→Fr h₀ L h m→News h₀ L h ((I,oI) :: (C,oC) :: (D,oD) :: news)→LCg.Off3 I C D news→((@Ne Nat I C) ∧ (@Ne Nat I D) ∧ (@Ne Nat C D)) →
      wpAny (model prog w) A (forIn ifs true fun c r=>if r = true then do let ok ← isTrue c (compEnvC scope cl C env) (eval c (compEnvC scope cl C env));pure (ForInStep.yield ok) else pure (ForInStep.yield r))
        (TestE h₀ L m { s₁ with heap := h,toks := tk } ((I,oI) :: (C,oC) :: (D,oD) :: news) (T i)) E' { s₁ with heap := h,toks := tk })
    (hE:∀ i t₁ I oI C oC D oD m₂ h tk (E':Value→Shared→Prop),i < n→T i→LCg.NsObj oC m₂→m₂ x = some (.int (i:Nat) t₁)→Fr h₀ L h m→News h₀ L h ((I,oI) :: (C,oC) :: (D,oD) :: news)→LCg.Off3 I C D news→((@Ne Nat I C) ∧ (@Ne Nat I D) ∧ (@Ne Nat C D)) →
      wpAny (model prog w) A (eval elt (compEnvC scope cl C env)) (TEnd h₀ L m { s₁ with heap := h,toks := tk } ((I,oI) :: (C,oC) :: (D,oD) :: news) (fun y=>∃ t,y = .int (f i:Nat) t ∧ f i < 240)) E' { s₁ with heap := h,toks := tk })
    (fin:∀ D oD h tk,Fr h₀ L h m→News h₀ L h ((D,oD) :: news)→SetIs w oD (fun k=>∃ i,i < n ∧ T i ∧ k = f i)→(∀ p ∈ news,p.1 ≠ D)→Q (.ref D) { s₁ with heap := h,toks := tk }) :
    SetSrcR prog w A h₀ L m env elt ifs x scope cl Q (.ref r) s₁ := ⟨r,b,t,u,v,n,news,T,f,rfl,hh,F,N,hr,hsm,hn,hT,hE,fin⟩
theorem SetSrcW.mk {elt i2:Expr} {x y:Str} {scope:Scope} {cl:List (Str × Addr)} {Q:Value→Shared→Prop} {s₁:Shared} {a:Addr} {oa:Obj} {S:Nat→Prop} (mv:Nat→Nat)
    (hh:A.handled = none) (F:Fr h₀ L s₁.heap m) (N:News h₀ L s₁.heap news) (ma:(a,oa) ∈ news) (hS:SetIs w oa S) (hb:∀ k j,S k→j < 3→k + mv j < 240)
    (h2:∀ I oI C oC D oD m₂ h tk (E':Value→Shared→Prop),LCg.NsObj oC m₂→Fr h₀ L h m→News h₀ L h ((I,oI) :: (C,oC) :: (D,oD) :: news)→LCg.Off3 I C D news→((@Ne Nat I C) ∧ (@Ne Nat I D) ∧ (@Ne Nat C D)) →
      wpAny (model prog w) A (eval i2 (compEnvC scope cl C env)) (TupEnd h₀ L m { s₁ with heap := h,toks := tk } ((I,oI) :: (C,oC) :: (D,oD) :: news) mv) E' { s₁ with heap := h,toks := tk })
    (hE:∀ (p:Nat) t₁ j t₂ C oC m₂ h tk (E':Value→Shared→Prop),S p→j < 3→LCg.NsObj oC m₂→m₂ x = some (.int (p:Nat) t₁)→m₂ y = some (.int (mv j:Nat) t₂)→Fr h₀ L h m→News h₀ L h [(C,oC)] →
      wpAny (model prog w) A (eval elt (compEnvC scope cl C env)) (fun r s'=>(∃ t,r = .int ((p + mv j:Nat)) t) ∧ Keeps { s₁ with heap := h,toks := tk } s') E' { s₁ with heap := h,toks := tk })
    (fin:∀ D oD h tk,Fr h₀ L h m→News h₀ L h ((D,oD) :: news)→SetIs w oD (fun k=>∃ p,S p ∧ ∃ j,j < 3 ∧ k = p + mv j)→(∀ p ∈ news,p.1 ≠ D)→Q (.ref D) { s₁ with heap := h,toks := tk }) :
    SetSrcW prog w A h₀ L m env elt i2 x y scope cl Q (.ref a) s₁ := ⟨a,oa,news,S,mv,rfl,hh,F,N,ma,hS,hb,h2,hE,fin⟩
theorem or_K {oa ob:Obj} {Sa Sb:Nat→Prop} {Q:Value→Shared→Prop} (F:Fr h₀ L s.heap m) (N:News h₀ L s.heap news) (ma:(a,oa) ∈ news) (mb:(b,ob) ∈ news) (hSa:SetIs w oa Sa) (hSb:SetIs w ob Sb) (hne:@Ne Nat a b)
    (h:∀ D o' h' tk,Fr h₀ L h' m→News h₀ L h' ((D,o') :: news)→SetIs w o' (fun x=>Sa x ∨ Sb x)→(∀ p ∈ news,p.1 < D)→Q (.ref D) { s with heap := h',toks := tk }) :
    wpAny (model prog w) A (binaryOp .BitOr (.ref a) (.ref b)) Q E s :=
  or_is hne (N _ ma).1 hSa (N _ mb).1 hSb fun h' o' tk k ho' hS'=>h _ o' h' tk (F.keeps k) (fun p hp=>by
    rcases List.mem_cons.mp hp with rfl | hp
    · refine ⟨ho',Ne.symm (Nat.ne_of_lt F.ns.lt),?_⟩
      cases e:h₀.get? s.heap.objs.size with
      | none=>rfl
      | some o=>exact absurd (Heap.lt_size (F.keep _ _ e)) (Nat.lt_irrefl _)
    · exact ⟨k _ _ (N p hp).1,(N p hp).2⟩) hS' fun p hp=>Heap.lt_size (N p hp).1
theorem SetIs.setOf {o:Obj} {S:Nat→Prop} {h:Heap} (ho:h.get? a = some o) (hS:SetIs w o S):∃ (S':Int→Bool) (n:Nat),h.SetOf (intKind prog w) a S' n ∧ ∀ k:Nat,S' (k:Int) = true ↔ S k := by
  obtain ⟨hex,es,ep,t,hd,he,hf,hl,hm⟩ := hS
  refine ⟨fun k=>decide (k ∈ es.toList.map (·.1)),es.size,⟨o,es,ep,t,ho,hex,hd,he.elems,fun k=>?_,lt_scan he,hf.fits,rfl⟩,fun k=>by rw [decide_eq_true_iff];exact (hm k).symm⟩
  rw [decide_eq_true_iff,List.mem_map]
  constructor
  · rintro ⟨e,hem,rfl⟩
    obtain ⟨k',t',_,rfl⟩ := he.ent e hem
    exact ⟨_,hem,by simp [intKind,Value.isInt]⟩
  · rintro ⟨e,hem,hp⟩
    obtain ⟨k',t',_,rfl⟩ := he.ent e hem
    exact ⟨_,hem,beq_iff_eq.mp hp⟩
theorem in_K {oa:Obj} {S:Nat→Prop} {k:Nat} {ki:Int} {tk:Tok} {Q:Value→Shared→Prop} (N:News h₀ L s.heap news) (ma:(a,oa) ∈ news) (hS:SetIs w oa S) (hk:ki = (k:Nat))
    (h:∀ b,(b = true ↔ S k)→Q (.bool b) { s with toks := s.toks + 1 }):wpAny (model prog w) A (compareOp .In (.int ki tk) (.ref a)) Q E s := by
  subst hk
  obtain ⟨S',n,hs,e⟩ := hS.setOf (prog := prog) (N _ ma).1
  exact wpAny_inSet_of (k := (k:Int)) (by simp [intKind,Value.isInt]) rfl hs (h _ (e k))
theorem setAdd_K {oa:Obj} {S:Nat→Prop} {k:Nat} {ki:Int} {tk:Tok} {g:Obj→List (Addr × Obj)} {Q:Bool→Shared→Prop} (F:Fr h₀ L s.heap m) (N:News h₀ L s.heap news) (U:UpdF a oa news g) (hS:SetIs w oa S) (hki:ki = (k:Nat)) (hk:k < 240)
    (h:∀ b h' o',Fr h₀ L h' m→News h₀ L h' (g o')→SetIs w o' (fun x=>S x ∨ x = k)→Q b { s with heap := h',toks := s.toks + 1 }):wpAny (model prog w) A (setAdd a (.int ki tk)) Q E s := by
  subst hki
  obtain ⟨pre,post,rfl,hg,x1,x2⟩ := U.split
  have hm := N (a,oa) (List.mem_append_right _ (.head _))
  unfold setAdd
  refine wpAny_holding (wpAny_bind (wpAny_pyHash_int ?_))
  rw [hash_small hk]
  exact add_is (s := { s with toks := s.toks + 1 }) hm.1 hS hk fun b h' o' hsb ho' hS'=>h b h' o' (F.change hsb hm.2.1 hm.2.2) (hg o' ▸ N.setIn x1 x2 hsb ho') hS'
theorem kset_core {road:DisplayRoad} {b:Bool} {elts:List (Bool × Sem Value)} {ts:List (Sem Value)} {Q:Value→Shared→Prop} (hroad:road = .oneByOne) (hs:elts.findIdx? (·.1) = none) (hlen:elts.length ≤ 30) (hm:elts.map (·.2) = ts)
    (h:wpAny (model prog w) A (evalAll ts) (fun vs s'=>KdsFill (model prog w) A E false s.heap.objs.size Q vs s') E { s with heap := s.heap.push { cls := .type "set",dict := none,data := .set #[] 0 (.fresh 0 0 (!(byText w))) } }) :
    wpAny (model prog w) A (setDisplay road b elts) Q E s := by
  subst hroad
  have hn:(if elts.length > 30 then 0 else (elts.findIdx? (·.1)).getD elts.length) = elts.length := by rw [if_neg (by exact (Nat.not_lt_of_le hlen)),hs];rfl
  unfold setDisplay
  rw [if_neg (by decide)]
  refine wpAny_bind (newSet_is ?_)
  dsimp only
  rw [hn,List.take_length,List.drop_length,hm]
  refine wpAny_bind (wpAny_holding ?_)
  refine wpAny_bind (wpAny_mono h (fun vs s' h'=>?_) fun _ _ x=>x)
  refine wpAny_bind (wpAny_holding ?_)
  refine wpAny_bind (wpAny_mono (kds_for (fun x P s hx=>?_) vs s' h') (fun _ s1 h1=>?_) fun _ _ x=>x)
  · refine wpAny_bind (wpAny_mono hx (fun _ s2 h2=>?_) fun _ _ x=>x)
    first | exact wpAny_pure ⟨rfl,h2⟩ | exact wpAny_bind (wpAny_pure (wpAny_pure ⟨rfl,h2⟩))
  · have h2:Q (.ref s.heap.objs.size) s1 := by simpa [KdsFill] using h1
    rw [if_neg (by decide)]
    refine wpAny_pure ?_
    rw [List.forIn_nil]
    exact wpAny_pure (wpAny_pure h2)
theorem kset_eval {K:Frag} {e:Expr} {pos:Pos} {env:Env} {Q:Value→Shared→Prop} (F:Fr h₀ L s.heap m) (N:News h₀ L s.heap news) (X:K.In h₀) (hc:kdsCode K env.code = true) (hp:[e].all kdsPlain = true)
    (h:∀ D o h',Fr h₀ L h' m→News h₀ L h' ((D,o) :: news)→(∀ p ∈ news,p.1 < D)→SetIs w o (fun _=>False) →
      KdsAll (model prog w) A E env [e] (fun vs s'=>KdsFill (model prog w) A E false D Q vs s') { s with heap := h' }) :
    wpAny (model prog w) A (eval (.Set [e] 0 pos) env) Q E s := by
  rw [arm_eval_Set]
  refine wpAny_bind (wpAny_standAt ?_)
  refine wpAny_bind (kds_main (X.keeps F.keep) hc fun b=>?_)
  rw [kds_star [e] hp,List.map_map]
  refine kset_core (ts := (evalEach [e] env).map fun t=>do let v ← t;standAt pos;pure v) rfl ?_ ?_ ?_ ?_
  · refine List.findIdx?_eq_none_iff.mpr fun x hx=>?_
    obtain ⟨t,_,rfl⟩ := List.mem_map.mp hx
    rfl
  · rw [List.length_map,kds_len];exact (by decide:1 ≤ 30)
  · rw [List.map_map];try rfl
  · exact kds_all pos [e] _ _ (h _ _ _ (F.push _) (News.push F N _ rfl) (fun p hp=>Heap.lt_size (N p hp).1) (setIs_fresh w 0 0))
inductive CellEnd (h₀:Heap) (L:Addr) (m:Str→Option Value) (c:Addr) (own:List (Addr × Obj)) (Inv:List (Addr × Obj)→Prop) (s s':Shared):Prop
  | con (h':_) (tk':_) (nx:_) (oc:_) (v:_)
      (q1:s' = { s with heap := h',toks := tk' })
      (q2:Fr h₀ L h' m)
      (q3:News h₀ L h' ((c,oc) :: (nx ++ own)))
      (q4:oc.data = .cell v)
      (q5:Inv nx)
      (q6:OwnOff own (nx.map (·.1)))
      (q7:∀ p ∈ nx,p.1 ≠ c):CellEnd h₀ L m c own Inv s s'
noncomputable def CellPost (h₀:Heap) (L:Addr) (m:Str→Option Value) (c:Addr) (own:List (Addr × Obj)) (Inv:List (Addr × Obj)→Prop) (s:Shared) (f:Flow) (s':Shared):Prop :=
  match f with
  | .next=>CellEnd h₀ L m c own Inv s s'
  | _=>False
inductive CellSrc (prog:Program) (w:World) (A:Around) (h₀:Heap) (L:Addr) (m:Str→Option Value) (env:Env) (c:Addr) (body:List Stmt) (Q:Flow→Shared→Prop) (E:Value→Shared→Prop) (xv:Value) (s₁:Shared):Prop
  | con (r:Addr) (b:Int) (t u v:Tok) (n:Nat) (nx₀:List (Addr × Obj)) (oc₀:Obj) (v₀:Option Value) (Inv:Nat→List (Addr × Obj)→Prop)
      (q1:xv = .ref r)
      (q2:A.handled = none)
      (q3:IsRange s₁.heap r 0 b 1 t u v)
      (q4:Builtin.Range.small 0 b 1 = true)
      (q5:Builtin.Range.rangeSize 0 b 1 = ((n:Nat):Int))
      (q6:Fr h₀ L s₁.heap m)
      (q7:News h₀ L s₁.heap ((c,oc₀) :: nx₀))
      (q8:oc₀.data = .cell v₀)
      (q9:(∀ p ∈ nx₀,p.1 ≠ c))
      (q10:Inv 0 nx₀)
      (q11:(∀ (i:Nat) t₁ oc h tk own nx,i < n→oc.data = .cell (some (.int (i:Nat) t₁))→Inv i nx→OwnOff own (nx.map (·.1))→(∀ p ∈ own,p.1 ≠ c)→(∀ p ∈ nx,p.1 ≠ c)→Fr h₀ L h m→News h₀ L h ((c,oc) :: (nx ++ own))→wpAny (model prog w) A (execs body env) (CellPost h₀ L m c own (Inv (i + 1)) { s₁ with heap := h,toks := tk }) E { s₁ with heap := h,toks := tk }))
      (q12:(∀ oc v' nx h tk,oc.data = .cell v'→Inv n nx→(∀ p ∈ nx,p.1 ≠ c)→Fr h₀ L h m→News h₀ L h ((c,oc) :: nx)→Q .next { s₁ with heap := h,toks := tk })):CellSrc prog w A h₀ L m env c body Q E xv s₁
theorem CellSrc.mk {c:Addr} {body:List Stmt} {Q:Flow→Shared→Prop} {s₁:Shared} {r:Addr} {b:Int} {t u v:Tok} {n:Nat} {nx₀:List (Addr × Obj)} {oc₀:Obj} {v₀:Option Value} (Inv:Nat→List (Addr × Obj)→Prop) (hh:A.handled = none) (hr:IsRange s₁.heap r 0 b 1 t u v) (hsm:Builtin.Range.small 0 b 1 = true) (hn:Builtin.Range.rangeSize 0 b 1 = ((n:Nat):Int))
    (F:Fr h₀ L s₁.heap m) (N:News h₀ L s₁.heap ((c,oc₀) :: nx₀)) (hd:oc₀.data = .cell v₀) (hc:∀ p ∈ nx₀,p.1 ≠ c) (h0:Inv 0 nx₀)
    (turn:∀ (i:Nat) t₁ oc h tk own nx,i < n→oc.data = .cell (some (.int (i:Nat) t₁))→Inv i nx→OwnOff own (nx.map (·.1))→(∀ p ∈ own,p.1 ≠ c)→(∀ p ∈ nx,p.1 ≠ c)→Fr h₀ L h m→News h₀ L h ((c,oc) :: (nx ++ own)) →
      wpAny (model prog w) A (execs body env) (CellPost h₀ L m c own (Inv (i + 1)) { s₁ with heap := h,toks := tk }) E { s₁ with heap := h,toks := tk })
    (done:∀ oc v' nx h tk,oc.data = .cell v'→Inv n nx→(∀ p ∈ nx,p.1 ≠ c)→Fr h₀ L h m→News h₀ L h ((c,oc) :: nx)→Q .next { s₁ with heap := h,toks := tk }):CellSrc prog w A h₀ L m env c body Q E (.ref r) s₁ :=
  ⟨r,b,t,u,v,n,nx₀,oc₀,v₀,Inv,rfl,hh,hr,hsm,hn,F,N,hd,hc,h0,turn,done⟩
inductive CellI (h₀:Heap) (L I c:Addr) (m:Str→Option Value) (s₁:Shared) (n:Nat) (Inv:Nat→List (Addr × Obj)→Prop) (k:Nat) (s':Shared):Prop
  | con (h':Heap) (tk i:Nat) (nx:List (Addr × Obj)) (oc:Obj) (v':Option Value) (q1:s' = { s₁ with heap := h',toks := tk }) (q2:i ≤ n) (q3:k = n + 1 - i) (q4:IsRangeIter h' I ((0:Int) + (i:Nat) * 1) ((n:Int) - (i:Nat)) 1) (q5:Fr h₀ L h' m) (q6:News h₀ L h' ((c,oc) :: nx)) (q7:oc.data = .cell v') (q8:Inv i nx) (q9:∀ p ∈ nx,p.1 ≠ c) (q10:∀ p ∈ nx,p.1 ≠ I):CellI h₀ L I c m s₁ n Inv k s'
theorem for_cell {cn:Str} {cs:Scope} {fa:Addr} {ccd:Value} {cl:List (Str × Addr)} {x:Str} {px pos:Pos} {iter:Expr} {body:List Stmt} {c:Addr} {Q:Flow→Shared→Prop} (_F:Fr h₀ L s.heap m) (hcl:cl.lookup x = some c) (hk:cs.kind = .function) (hx:(envX cn cs L fa ccd cl).kindOf x = some .cell)
    (h:wpAny (model prog w) A (eval iter (envX cn cs L fa ccd cl)) (CellSrc prog w A h₀ L m (envX cn cs L fa ccd cl) c body Q E) E s)
    (hs:∀ x,foldedSetIterable iter (envX cn cs L fa ccd cl) x = pure x := by intro _;rfl) (hE:PassesOwn (model prog w) A (envX cn cs L fa ccd cl) E := by passes_own) :
    wpAny (model prog w) A (exec (.For (.Name x px) iter body [] pos) (envX cn cs L fa ccd cl)) Q E s := by
  intros prog w A E s h₀ L m cn cs fa ccd cl x px pos iter body c Q _ _F hcl hk hx h hs hE
  refine wpAny_For (wpAny_mono h (fun xv s₁ h₁=>?_) fun _ _ e=>e) hs
  obtain ⟨r,b,t,u,v,n,nx₀,oc₀,v₀,Inv,rfl,hh,hr,hsm,hn,F,N,hd,hc,h0,turn,done⟩ := h₁
  refine wpAny_pyIter_range hr hsm ?_
  rw [hn]
  have W:Walks prog w A s₁.heap.objs.size [s₁.heap.objs.size] [s₁.heap.objs.size] n (fun i v=>∃ t,v = .int ((0:Int) + (i:Int)) t) (fun i h=>IsRangeIter h s₁.heap.objs.size ((0:Int) + (i:Nat) * 1) ((n:Int) - (i:Nat)) 1) := LCg.range_walks hh 0 n
  generalize hI:s₁.heap.objs.size = I at W
  have hpush:IsRangeIter (s₁.heap.push { cls := .type "range_iterator",data := .fields #[rawInt 0,rawInt (n:Int),rawInt 1] }) I ((0:Int) + ((0:Nat):Int) * 1) ((n:Int) - ((0:Nat):Int)) 1 := by
    subst hI
    show Heap.get? _ _ = _
    rw [Heap.get?_push_size _ rfl]
    simp
  have hold:∀ b o,s₁.heap.get? b = some o→(s₁.heap.push { cls := .type "range_iterator",data := .fields #[rawInt 0,rawInt (n:Int),rawInt 1] }).get? b = some o := fun b o e=>Heap.get?_push_of_some _ e
  have hL:L ≠ I := by subst hI;exact Nat.ne_of_lt F.ns.lt
  have hI0:h₀.get? I = none := by subst hI;exact next_is_new F
  have hcI:c ≠ I := by subst hI;exact Nat.ne_of_lt (Heap.lt_size (N _ (.head _)).1)
  have hnI:∀ p ∈ nx₀,p.1 ≠ I := fun p hp=>by subst hI;exact Nat.ne_of_lt (Heap.lt_size (N p (.tail _ hp)).1)
  refine codeAny_forLoop (CellI h₀ L I c m s₁ n Inv) ?_ (n + 1)
    ⟨_,s₁.toks,0,nx₀,oc₀,v₀,by cases s₁;rfl,Nat.zero_le _,rfl,hpush,F.keeps hold,N.grown hold,hd,h0,hc,hnI⟩
  rintro k s' ⟨h',tk,i,nx,oc,v',rfl,hi,rfl,hst,F',N',hd',hInv,hc',hnI'⟩
  by_cases hlt:i < n
  · refine W.item i _ _ _ hlt hst fun v₁ h₂ tk₂ hP hst₂ hk₂=>?_
    obtain ⟨t₁,rfl⟩ := hP
    have F₂:Fr h₀ L h₂ m := LCg.fr_but F' hk₂ hL hI0
    have N₂:News h₀ L h₂ ((c,oc) :: nx) := LCg.news_but N' hk₂ fun p hp=>by
      rcases List.mem_cons.mp hp with rfl | hp
      · exact hcI
      · exact hnI' p hp
    have hcm := N₂ (c,oc) (.head _)
    refine wpAny_assign_Name (wpAny_storeName_cell (c := c) hk hx hcl ⟨oc,hcm.1,hd'⟩ fun h₃ hv hs₃=>?_)
    obtain ⟨o₃,ho₃,hd₃⟩ := hv
    have F₃:Fr h₀ L h₃ m := F₂.change hs₃ hcm.2.1 hcm.2.2
    have st₃:IsRangeIter h₃ I ((0:Int) + ((i + 1:Nat):Int) * 1) ((n:Int) - ((i + 1:Nat):Int)) 1 := (hs₃.2 I (Ne.symm hcI)).trans hst₂
    have N₃:News h₀ L h₃ ((c,o₃) :: (nx ++ [(I,({ cls := .type "range_iterator",dict := none,data := .fields #[rawInt ((0:Int) + ((i + 1:Nat):Int) * 1),rawInt ((n:Int) - ((i + 1:Nat):Int)),rawInt 1],slots := #[] }:Obj))])) := fun p hp=>by
      rcases List.mem_cons.mp hp with rfl | hp
      · exact ⟨ho₃,hcm.2⟩
      · rcases List.mem_append.mp hp with hp | hp
        · exact ⟨hs₃.extBut _ _ (hc' p hp) (N₂ p (.tail _ hp)).1,(N₂ p (.tail _ hp)).2⟩
        · rw [List.mem_singleton.mp hp]
          exact ⟨st₃,Ne.symm hL,hI0⟩
    rw [show (0:Int) + (i:Int) = (i:Nat) by exact Int.le_antisymm (bC (fk10 (Z4 (La K0 V0) V0 Lf) rfl)) (bC (fk10 (Z4 V0 (La K0 V0) Lf) rfl))] at hd₃
    refine wpAny_passesOwn hE (wpAny_mono (turn i t₁ o₃ h₃ _ [(I,_)] nx hlt hd₃ hInv (fun p hp b hb=>?_) (fun p hp=>?_) hc' F₃ N₃) (fun f s₄ h₄=>?_) fun _ _ e=>e)
    · rw [List.mem_singleton.mp hp]
      obtain ⟨q,hq,rfl⟩ := List.mem_map.mp hb
      exact Ne.symm (hnI' q hq)
    · rw [List.mem_singleton.mp hp];exact Ne.symm hcI
    · cases f with
      | next =>
        obtain ⟨h₅,tk₅,nx₅,oc₅,v₅,rfl,F₅,N₅,hd₅,hInv₅,ho₅,hc₅⟩ := h₄
        exact ⟨n + 1 - (i + 1),by exact bC (fk40 (Z8 (La V0 (La V1 K1)) (La V2 K1) (Z9 (La V3 V1) (La V2 K1) (Z11 V0 V3 Lf))) rfl (sC (bC (fk20 (Z7 V0 V1 (Z10 (La V0 K1) (La V1 K1) Lf)) rfl hlt))) (sC (bC (fk20 (Z7 V0 V1 (Z10 V0 (La V1 K1) Lf)) rfl hlt)))),h₅,tk₅,i + 1,nx₅,oc₅,v₅,rfl,hlt,rfl,(N₅ (I,_) (.tail _ (List.mem_append_right _ (.head _)))).1,F₅,fun p hp=>N₅ p (by
          rcases List.mem_cons.mp hp with rfl | hp
          · exact .head _
          · exact .tail _ (List.mem_append_left _ hp)),hd₅,hInv₅,hc₅,fun p hp=>Ne.symm (ho₅ _ (.head _) _ (List.mem_map_of_mem hp))⟩
      | _=>exact h₄.elim
  · obtain rfl:i = n := Nat.le_antisymm hi (Nat.not_lt.mp hlt)
    refine W.done _ _ _ hst fun h₂ tk₂ hk₂=>wpAny_execs_nil ?_
    exact done oc v' nx h₂ tk₂ hd' hInv hc' (LCg.fr_but F' hk₂ hL hI0) (LCg.news_but N' hk₂ fun p hp=>by
      rcases List.mem_cons.mp hp with rfl | hp
      · exact hcI
      · exact hnI' p hp)
end
end
section
example:True := by
  w_top off
  k_with_none
  k_with "a" => with_reducible assumption
  k_with "sh" => first | exact sh1 (by k_extra "a") rfl | exact sh2 (by k_extra "a") rfl | exact sh3 (by k_extra "a") rfl | exact sh4 (by k_extra "a") rfl | exact sl1 (by k_extra "a") rfl | exact sl2 (by k_extra "a") rfl | exact sl3 (by k_extra "a") rfl | omega
  k_with "omega" => first | k_extra "a" | decide | exact Int.not_le.mp (by k_extra "a") | exact Int.not_lt.mp (by k_extra "a") | exact nUp (by k_extra "a") rfl | exact iDn (by k_extra "a") rfl | exact iUp (by k_extra "a") rfl | exact iUpLt (by k_extra "a") rfl | exact iDn (Int.add_le_add iLit iCast0) rfl | exact iDn iCast0 rfl | exact nUpLt (Nat.add_le_add (by k_extra "a") (Nat.le_refl _)) rfl | exact Nat.ne_of_lt (Nat.lt_succ_self _) | exact Ne.symm (Nat.ne_of_lt (Nat.lt_succ_self _)) | exact Nat.ne_of_lt (by k_extra "a") | exact Ne.symm (Nat.ne_of_lt (by k_extra "a")) | exact Ne.symm (Int.ne_of_lt (by k_extra "a")) | exact Int.not_le.mpr (iUpLt (iCast (by k_extra "a")) rfl) | lia
  k_with "my news" => first | k_asm | (refine cb_drop (by assumption) (by (intro p9 hp9;kst_mem)))
  k_with "ctr K" => first | exact rfl | assumption
  k_with "ctr D" => ((try simp only [depth_under_make,depth_under_kw,depth_in1,depth_deeper,depth_caller]);(try dsimp only [ktrTop]);k_extra "sh")
  k_with "ctr U" => ((try simp only [units_in1,units_deeper,Around.mark_units,units_caller]);(try dsimp only [ktrTop]);k_extra "sh")
  k_with "nmx" => (with_reducible show wpAny _ _ (eval _ (envX _ _ _ _ _ _)) _ _ _)
  k_with "^eval Name" => (k_here;k_extra "nmx";name_kind "globalImplicit";name_is_builtin;k_dflt (refine nameX_B (by k_asm) (by k_asm) (by k_asm) (by k_is) (by boot_fast) (by decide) ?_ (by rfl) (by kernel_rfl!));k_whole)
  k_with "^eval Name" => (k_here;k_extra "nmx";name_kind "globalImplicit";k_dflt (refine nameX_K (by k_asm) (by k_asm) (by k_asm) (by k_is) ?_ (by rfl) (by kernel_rfl!));k_whole)
  k_with "^eval Name" => (k_here;k_extra "nmx";name_kind "local";k_dflt (refine nmL (by rfl) (by rfl) (by k_asm) (by exact rfl) ?_);k_whole)
  k_with "call type:range" => ((rename Fr _ _ _ _=>f9);(rename News _ _ _ _=>n9);k_dflt (first | refine range1_rows f9 n9 ?_ | refine range2_rows f9 n9 ?_);intro _ _ _ _ _ _ _ _ _)
  k_with "call builtin:len" => ((with_reducible show wpAny _ _ (call (Value.builtin "len") [Value.str _ _]) _ _ _);refine SBL.len (by omega) ?_)
  k_with "ws here" => first | k_extra "a" | exact WsIn.mono (by k_extra "a") (by intro p hp;kst_mem)
  k_with "ctr back" => (intro r9 h9 tk9 hr9 F9 N9;obtain ⟨t9,hr9⟩ := hr9;subst hr9;(try dsimp only);(try k_fold))
  trivial
noncomputable def mv3:Nat→Nat
  | 0=>1
  | 1=>20
  | _=>21
noncomputable def diagS (a b:List Nat) (k:Nat) (S:Nat→Prop):Nat→Prop := fun p=>S p ∨ ∃ m,m < b.length ∧ (S (20 * k + m) ∧ ∃ c,a[k]? = some c ∧ b[m]? = some c) ∧ p = 20 * k + m + 21
noncomputable def diagU (a b:List Nat) (S:Nat→Prop):Nat→Nat→Prop
  | 0=>S
  | k + 1=>diagS a b k (diagU a b S k)
noncomputable def moveS (S:Nat→Prop):Nat→Prop := fun p=>S p ∨ ∃ q,S q ∧ ∃ j,j < 3 ∧ p = q + mv3 j
noncomputable def waveS (a b:List Nat):Nat→Nat→Prop
  | 0=>fun p=>p = 0
  | n + 1=>moveS (diagU a b (waveS a b n) a.length)
noncomputable def hitS (a b:List Nat) (n:Nat):Prop := diagU a b (waveS a b n) a.length (20 * a.length + b.length)
noncomputable def FirstHit (a b:List Nat) (n:Nat):Prop := hitS a b n ∧ ∀ r,r < n→¬ hitS a b r
theorem mv3_le (j:Nat):mv3 j ≤ 21 := by
  unfold mv3
  split <;> exact (by decide)
theorem diagU_bound {a b:List Nat} {S:Nat→Prop} {B:Nat} (ha:a.length ≤ 5) (hb:b.length ≤ 4) (hB:104 ≤ B) (hS:∀ p,S p→p ≤ B):∀ k,k ≤ a.length→∀ p,diagU a b S k p→p ≤ B
  | 0,_,p,h=>hS p h
  | k + 1,hk,p,h=>by
    rcases h with h | ⟨m,hm,_,rfl⟩
    · exact diagU_bound ha hb hB hS k (bC (fk20 (Z6 (La V0 K1) V1 (Z10 V0 V1 Lf)) rfl hk)) p h
    · exact bC (fk50 (Z7 V0 V1 (Lh 6 20 (La V2 K1) V3 (Z6 (Lk 104) V4 (Z6 V1 (Lk 4) (Lh 6 20 V3 (Lk 5) (Z10 (La (La (Lm 20 V2) V0) (Lk 21)) V4 Lf)))))) rfl hm hk hB hb ha)
theorem waveS_bound {a b:List Nat} (ha:a.length ≤ 5) (hb:b.length ≤ 4):∀ n p,waveS a b n p→p ≤ 104 + 21 * n
  | 0,p,h=>by have:p = 0 := h;exact (nUp (Nat.le_of_eq this) rfl)
  | n + 1,p,h=>by
    rcases h with h | ⟨q,hq,j,_,rfl⟩
    · have := diagU_bound ha hb (by exact (Nat.le_add_right _ _)) (waveS_bound ha hb n) _ (Nat.le_refl _) p h
      exact bC (fk20 (Z6 V0 (La (Lk 104) (Lm 21 V1)) (Z10 V0 (La (Lk 104) (Lm 21 (La V1 K1))) Lf)) rfl this)
    · have := diagU_bound ha hb (by exact (Nat.le_add_right _ _)) (waveS_bound ha hb n) _ (Nat.le_refl _) q hq
      have := mv3_le j
      exact bC (fk30 (Z6 V0 (Lk 21) (Z6 V1 (La (Lk 104) (Lm 21 V2)) (Z10 (La V1 V0) (La (Lk 104) (Lm 21 (La V2 K1))) Lf))) rfl this (by assumption))
theorem diagU_mono {a b:List Nat} {S:Nat→Prop} {p:Nat} (h:S p):∀ k,diagU a b S k p
  | 0=>h
  | k + 1=>.inl (diagU_mono h k)
theorem waveS_reach {a b:List Nat}:∀ n i j,i ≤ n→j ≤ n→waveS a b n (20 * i + j)
  | 0,i,j,hi,hj=>by
    show 20 * i + j = 0
    exact Nat.le_antisymm (bC (fk20 (Z6 V0 K0 (Lh 6 20 V1 K0 (Z10 (La (Lm 20 V1) V0) K0 Lf))) rfl hj hi)) (bC (fk20 (Z12 V1 (Lh 12 20 V0 Lf (Z10 K0 (La (Lm 20 V0) V1) Lf))) rfl trivial trivial))
  | n + 1,i,j,hi,hj=>by
    by_cases h1:i ≤ n
    · by_cases h2:j ≤ n
      · exact .inl (diagU_mono (waveS_reach n i j h1 h2) _)
      · exact .inr ⟨20 * i + (j - 1),diagU_mono (waveS_reach n i (j - 1) h1 (bC (fk30 (Z6 V0 (La V1 K1) (Z8 (La V2 K1) V0 (Z10 V2 V1 Lf))) rfl hj (sC (bC (fk20 (Z10 V0 V1 (Z12 V1 (Z10 K1 V0 Lf))) rfl h2 trivial)))))) _,0,by exact (by decide),by show _ = _ + 1;exact Nat.le_antisymm (bC (fk30 (Z9 (La V0 K1) V1 (Z10 (La (Lm 20 V2) V1) (La (La (Lm 20 V2) V0) K1) Lf)) rfl (sC (bC (fk20 (Z10 V0 V1 (Z12 V1 (Z10 K1 V0 Lf))) rfl h2 trivial))))) (bC (fk30 (Z8 (La V0 K1) V1 (Z10 (La (La (Lm 20 V2) V0) K1) (La (Lm 20 V2) V1) Lf)) rfl (sC (bC (fk20 (Z10 V0 V1 (Z12 V1 (Z10 K1 V0 Lf))) rfl h2 trivial)))))⟩
    · by_cases h2:j ≤ n
      · exact .inr ⟨20 * (i - 1) + j,diagU_mono (waveS_reach n (i - 1) j (bC (fk30 (Z6 V0 (La V1 K1) (Z8 (La V2 K1) V0 (Z10 V2 V1 Lf))) rfl hi (sC (bC (fk20 (Z10 V0 V1 (Z12 V1 (Z10 K1 V0 Lf))) rfl h1 trivial))))) h2) _,1,by exact (by decide),by show _ = _ + 20;exact Nat.le_antisymm (bC (fk30 (Lh 9 20 (La V0 K1) V1 (Z10 (La (Lm 20 V1) V2) (La (La (Lm 20 V0) V2) (Lk 20)) Lf)) rfl (sC (bC (fk20 (Z10 V0 V1 (Z12 V1 (Z10 K1 V0 Lf))) rfl h1 trivial))))) (bC (fk30 (Lh 8 20 (La V0 K1) V1 (Z10 (La (La (Lm 20 V0) V2) (Lk 20)) (La (Lm 20 V1) V2) Lf)) rfl (sC (bC (fk20 (Z10 V0 V1 (Z12 V1 (Z10 K1 V0 Lf))) rfl h1 trivial)))))⟩
      · exact .inr ⟨20 * (i - 1) + (j - 1),diagU_mono (waveS_reach n (i - 1) (j - 1) (bC (fk30 (Z6 V0 (La V1 K1) (Z8 (La V2 K1) V0 (Z10 V2 V1 Lf))) rfl hi (sC (bC (fk20 (Z10 V0 V1 (Z12 V1 (Z10 K1 V0 Lf))) rfl h1 trivial))))) (bC (fk30 (Z6 V0 (La V1 K1) (Z8 (La V2 K1) V0 (Z10 V2 V1 Lf))) rfl hj (sC (bC (fk20 (Z10 V0 V1 (Z12 V1 (Z10 K1 V0 Lf))) rfl h2 trivial)))))) _,2,by exact (by decide),by show _ = _ + 21;exact Nat.le_antisymm (bC (fk40 (Lh 9 20 (La V0 K1) V1 (Z9 (La V2 K1) V3 (Z10 (La (Lm 20 V1) V3) (La (La (Lm 20 V0) V2) (Lk 21)) Lf))) rfl (sC (bC (fk20 (Z10 V0 V1 (Z12 V1 (Z10 K1 V0 Lf))) rfl h1 trivial))) (sC (bC (fk20 (Z10 V0 V1 (Z12 V1 (Z10 K1 V0 Lf))) rfl h2 trivial))))) (bC (fk40 (Lh 8 20 (La V0 K1) V1 (Z8 (La V2 K1) V3 (Z10 (La (La (Lm 20 V0) V2) (Lk 21)) (La (Lm 20 V1) V3) Lf))) rfl (sC (bC (fk20 (Z10 V0 V1 (Z12 V1 (Z10 K1 V0 Lf))) rfl h1 trivial))) (sC (bC (fk20 (Z10 V0 V1 (Z12 V1 (Z10 K1 V0 Lf))) rfl h2 trivial)))))⟩
theorem hit_five {a b:List Nat} (ha:a.length ≤ 5) (hb:b.length ≤ 4):hitS a b 5 := diagU_mono (waveS_reach 5 _ _ ha (by exact (nUp hb rfl))) _
structure SW where
  D:Addr
  oD:Obj
  oK:Obj
  oW:Obj
  v:Option Value
noncomputable abbrev swPs:SW→List (Str × Value) := fun _=>[]
noncomputable def swInv (w:World) (a b:List Nat) (cK cW:Addr) (rest:List (Addr × Obj)) (i:Nat) (c:SW) (nx:List (Addr × Obj)):Prop :=
  nx = (c.D,c.oD) :: (cK,c.oK) :: (cW,c.oW) :: rest ∧ c.oK.data = .cell c.v ∧ c.oW.data = .cell (some (.ref c.D)) ∧ SetIs w c.oD (waveS a b i) ∧ i ≤ 5 ∧ (∀ r,r < i→¬ hitS a b r) ∧ (@Ne Nat c.D cK) ∧ (@Ne Nat c.D cW) ∧ ∀ p ∈ rest,p.1 ≠ c.D
section
variable {prog:Program} {w:World} {A:Around} {E:Value→Shared→Prop} {s:Shared} {env:Env} {h₀:Heap} {x:Str} {body:List Stmt} {Q:Flow→Shared→Prop}
theorem strokes_loop {a b:List Nat} {r:Addr} {t₀ u₀ v₀:Tok} {m₀:Str→Option Value} {D cK cW:Addr} {oD oK oW:Obj} {v:Option Value} {rest:List (Addr × Obj)}
    (hh:A.handled = none) (hr:IsRange s.heap r 0 10 1 t₀ u₀ v₀) (F:Fr h₀ env.locals s.heap m₀) (N:News h₀ env.locals s.heap ((D,oD) :: (cK,oK) :: (cW,oW) :: rest)) (hK:oK.data = .cell v) (hW:oW.data = .cell (some (.ref D))) (hS:SetIs w oD (fun k=>False ∨ k = 0))
    (h1:@Ne Nat D cK) (h2:@Ne Nat D cW) (h3:∀ p ∈ rest,p.1 ≠ D)
    (turn:∀ i D oD oK oW v t (u:Str→Option Value) h tk own,i ≤ 5→SetIs w oD (waveS a b i)→(∀ r,r < i→¬ hitS a b r)→oK.data = .cell v→oW.data = .cell (some (.ref D))→(@Ne Nat D cK)→(@Ne Nat D cW)→(∀ p ∈ rest,p.1 ≠ D)→(∀ p ∈ own,p.1 ≠ D)→(∀ p ∈ own,p.1 ≠ cK)→(∀ p ∈ own,p.1 ≠ cW)→OwnOff own (rest.map (·.1)) →
      Fr h₀ env.locals h (fun y=>if y = x then some (.int (0 + (i:Int)) t) else if List.contains [] y then u y else m₀ y)→News h₀ env.locals h ((D,oD) :: (cK,oK) :: (cW,oW) :: (rest ++ own)) →
      wpAny (model prog w) A (execs body env) (InvPostG h₀ env.locals (GS swPs (swInv w a b cK cW rest) x [] m₀ (i + 1)) own { s with heap := h,toks := tk } Q) E { s with heap := h,toks := tk }) :
    wpAny (model prog w) A (pyIter (.ref r)) (fun it s₂=>LoopAtV prog w A h₀ env x body Q E it s₂) E s := by
  refine my_range (n := 10) swPs (swInv w a b cK cW rest) [] ⟨D,oD,oK,oW,v⟩ hh hr (by decide) (by decide) F N ⟨rfl,hK,hW,hS.congr fun k=>?_,by decide,by intro r h;lia,h1,h2,h3⟩ (fun p hp=>by simp at hp) ?_ ?_
  · show k = 0 ↔ (False ∨ k = 0)
    simp
  · rintro c i t u h tk own nx hi hoff ⟨rfl,q1,q2,q3,q4,q5,q6,q7,q8⟩ F₁ N₁
    exact turn i c.D c.oD c.oK c.oW c.v t u h tk own q4 q3 q5 q1 q2 q6 q7 q8 (fun p hp=>hoff p hp _ (by simp)) (fun p hp=>hoff p hp _ (by simp)) (fun p hp=>hoff p hp _ (by simp)) (fun p hp b hb=>hoff p hp b (by simp only [List.map_cons,List.mem_cons];exact .inr (.inr (.inr hb)))) F₁ (by simpa using N₁)
  · rintro c u h tk nx ⟨_,_,_,_,q4,_⟩ F₁ N₁
    lia
theorem sw_end {a b:List Nat} {m₀ m':Str→Option Value} {i:Nat} {L D cK cW:Addr} {oD oK oW:Obj} {v:Option Value} {own all rest:List (Addr × Obj)} {s₁:Shared} {h':Heap} {tk:Nat}
    (ha:a.length ≤ 5) (hb:b.length ≤ 4) (o1:∀ p ∈ own,p.1 ≠ D) (o2:∀ p ∈ own,p.1 ≠ cK) (o3:∀ p ∈ own,p.1 ≠ cW) (o4:OwnOff own (rest.map (·.1)))
    (F:Fr h₀ L h' m') (N:News h₀ L h' all) (hn:∀ p ∈ (D,oD) :: (cK,oK) :: (cW,oW) :: rest,p ∈ all) (ho:∀ p ∈ own,p ∈ all) (hi:i ≤ 5) (hno:¬ hitS a b i) (hpre:∀ r,r < i→¬ hitS a b r)
    (hK:oK.data = .cell v) (hW:oW.data = .cell (some (.ref D))) (hS:SetIs w oD (waveS a b (i + 1))) (h1:@Ne Nat D cK) (h2:@Ne Nat D cW) (h3:∀ p ∈ rest,p.1 ≠ D)
    (hr:∀ z,z ≠ x→(∀ p ∈ ([]:List (Str × Value)),z ≠ p.1)→List.contains [] z = false→m' z = m₀ z) :
    InvEndG h₀ L (GS swPs (swInv w a b cK cW rest) x [] m₀ (i + 1)) own s₁ { s₁ with heap := h',toks := tk } := by
  refine gs_end ⟨D,oD,oK,oW,v⟩ _ F N hn ho (fun p hp q hq=>?_) ⟨rfl,hK,hW,hS,?_,?_,h1,h2,h3⟩ (fun p hp=>by simp at hp) hr
  · simp only [List.map_cons,List.mem_cons] at hq
    rcases hq with rfl | rfl | rfl | hq
    · exact o1 p hp
    · exact o2 p hp
    · exact o3 p hp
    · exact o4 p hp q hq
  · rcases Nat.lt_or_ge i 5 with q | q
    · exact q
    · have:i = 5 := by exact (Nat.le_antisymm hi q)
      subst this
      exact absurd (hit_five ha hb) hno
  · intro r hr'
    rcases Nat.lt_or_ge r i with q | q
    · exact hpre r q
    · have:r = i := by exact Nat.le_antisymm (bC (fk20 (Z7 V0 (La V1 K1) (Z10 V0 V1 Lf)) rfl hr')) (bC (fk20 (Z6 V0 V1 (Z10 V0 V1 Lf)) rfl q))
      subst this
      exact hno
end
inductive skInv (w:World) (a b:List Nat) (cW:Addr) (rest:List (Addr × Obj)) (i k:Nat) (nx:List (Addr × Obj)):Prop
  | con (D:_) (oD:_) (oW:_)
      (q1:nx = (D,oD) :: (cW,oW) :: rest)
      (q2:oW.data = .cell (some (.ref D)))
      (q3:SetIs w oD (diagU a b (waveS a b i) k))
      (q4:(@Ne Nat D cW))
      (q5:∀ p ∈ rest,p.1 ≠ D):skInv w a b cW rest i k nx
theorem small_len {n:Nat} (h:n ≤ 1000):Builtin.Range.small 0 (n:Int) 1 = true := small_one (by exact (by decide)) (by exact (by decide)) (by exact (iDn iCast0 rfl)) (by exact (iUpLt (iCast h) rfl))
theorem size_len (n:Nat):Builtin.Range.rangeSize 0 (n:Int) 1 = ((n:Nat):Int) := by
  rw [rangeSize_nat];exact rfl
theorem stroke_sign {x y:Str} {k i:Nat} {u v:Nat} (h:(({ cps := #[(tx x).getD k 0] }:Str) == { cps := #[(tx y).getD i 0] }) = true) (hk:k < x.length) (hi:i < y.length):∃ c,(tx x)[k]? = some c ∧ (tx y)[i]? = some c := by
  have e := beq_iff_eq.mp h
  have e2:(tx x).getD k 0 = (tx y).getD i 0 := by injection e with e;simpa using e
  have hk':k < (tx x).length := by rw [tx_len];exact hk
  have hi':i < (tx y).length := by rw [tx_len];exact hi
  refine ⟨(tx x).getD k 0,?_,?_⟩
  · rw [List.getD_eq_getElem?_getD,List.getElem?_eq_getElem hk'];rfl
  · rw [e2,List.getD_eq_getElem?_getD,List.getElem?_eq_getElem hi'];rfl
theorem stroke_sign' {x y:Str} {k i:Nat} (h:(({ cps := #[(tx x).getD k 0] }:Str) == { cps := #[(tx y).getD i 0] }) = false) (hc:∃ c,(tx x)[k]? = some c ∧ (tx y)[i]? = some c):False := by
  obtain ⟨c,e1,e2⟩ := hc
  rw [List.getD_eq_getElem?_getD,List.getD_eq_getElem?_getD,e1,e2] at h
  simp at h

theorem in_K0 {prog:Program} {w:World} {A:Around} {E:Value→Shared→Prop} {s:Shared} {h₀:Heap} {L a:Addr} {news:List (Addr × Obj)} {oa:Obj} {S:Nat→Prop} {ki:Int} {tk:Tok} {Q:Value→Shared→Prop} (N:News h₀ L s.heap news) (ma:(a,oa) ∈ news) (hS:SetIs w oa S) (h0:0 ≤ ki)
    (h:∀ b,(b = true ↔ S ki.toNat)→Q (.bool b) { s with toks := s.toks + 1 }):wpAny (model prog w) A (compareOp .In (.int ki tk) (.ref a)) Q E s := in_K (k := ki.toNat) N ma hS (Int.le_antisymm (bC (fk11 (Z3 V0 V1 (Z4 V1 V0 Lf)) rfl (tC (bC (fk01 (Z0 K0 V0 (Z4 K0 V0 Lf)) rfl h0))))) (bC (fk11 (Z2 V0 V1 (Z4 V0 V1 Lf)) rfl (tC (bC (fk01 (Z0 K0 V0 (Z4 K0 V0 Lf)) rfl h0)))))) h
section
variable {x y:Str} {k m:Nat} {S:Nat→Prop} {b':Bool}
theorem tst_yes (hb:b' = true ↔ S (20 * (k:Int) + (m:Int)).toNat) (h:b' = true) (hk:k < x.length) (hm:m < y.length) (e:(Txt.item x (k:Int) == Txt.item y (m:Int)) = true):(true = true) ↔ (S (20 * k + m) ∧ ∃ c,(tx x)[k]? = some c ∧ (tx y)[m]? = some c) := by
  obtain ⟨c,hc,ec⟩ := tx_item (x := x) (i := (k:Int)) (by exact (iDn iCast0 rfl)) (by exact (Int.ofNat_lt.mpr hk))
  obtain ⟨d,hd,ed⟩ := tx_item (x := y) (i := (m:Int)) (by exact (iDn iCast0 rfl)) (by exact (Int.ofNat_lt.mpr hm))
  rw [ec,ed,beq_iff_eq] at e
  have e2:c = d := by injection e with e;simpa using e
  rw [show (20 * (k:Int) + (m:Int)).toNat = 20 * k + m by exact rfl] at hb
  rw [Int.toNat_natCast] at hc hd
  exact ⟨fun _=>⟨hb.mp h,c,hc,by rw [e2];exact hd⟩,fun _=>rfl⟩
theorem tst_no1 (hk:k < x.length) (hm:m < y.length) (e:(Txt.item x (k:Int) == Txt.item y (m:Int)) = false):(false = true) ↔ (S (20 * k + m) ∧ ∃ c,(tx x)[k]? = some c ∧ (tx y)[m]? = some c) := by
  obtain ⟨c,hc,ec⟩ := tx_item (x := x) (i := (k:Int)) (by exact (iDn iCast0 rfl)) (by exact (Int.ofNat_lt.mpr hk))
  obtain ⟨d,hd,ed⟩ := tx_item (x := y) (i := (m:Int)) (by exact (iDn iCast0 rfl)) (by exact (Int.ofNat_lt.mpr hm))
  rw [Int.toNat_natCast] at hc hd
  refine ⟨fun q=>absurd q Bool.false_ne_true,fun ⟨_,z,h1,h2⟩=>?_⟩
  rw [hc] at h1
  rw [hd] at h2
  cases h1
  cases h2
  rw [ec,ed] at e
  simp at e
theorem tst_no0 {P:Prop} (hb:b' = true ↔ S (20 * (k:Int) + (m:Int)).toNat) (h:b' = false):(false = true) ↔ (S (20 * k + m) ∧ P) := by
  rw [show (20 * (k:Int) + (m:Int)).toNat = 20 * k + m by exact rfl] at hb
  refine ⟨fun q=>absurd q Bool.false_ne_true,fun ⟨q,_⟩=>?_⟩
  rw [hb.mpr q] at h
  cases h
end
theorem elt_val {k m:Nat} {t:Tok}:Value.int (20 * (k:Int) + (m:Int) + 21) t = .int ((20 * k + m + 21:Nat)) t := congrArg (Value.int · t) (by exact rfl)
theorem ck_end {w:World} {a b:List Nat} {h₀ h':Heap} {m:Str→Option Value} {i k:Nat} {L D cK cW:Addr} {oD oK oW:Obj} {v:Option Value} {own all rest:List (Addr × Obj)} {s₁:Shared} {tk:Nat}
    (F:Fr h₀ L h' m) (N:News h₀ L h' all) (hn:∀ p ∈ (cK,oK) :: (D,oD) :: (cW,oW) :: (rest ++ own),p ∈ all) (hK:oK.data = .cell v) (hW:oW.data = .cell (some (.ref D))) (hS:SetIs w oD (diagU a b (waveS a b i) (k + 1)))
    (h1:@Ne Nat D cW) (h2:∀ p ∈ rest,p.1 ≠ D) (o1:∀ p ∈ own,p.1 ≠ D) (o2:∀ p ∈ own,p.1 ≠ cW) (o3:OwnOff own (rest.map (·.1))) (n1:@Ne Nat D cK) (n2:@Ne Nat cW cK) (n3:∀ p ∈ rest,p.1 ≠ cK) :
    CellEnd h₀ L m cK own (skInv w a b cW rest i (k + 1)) s₁ { s₁ with heap := h',toks := tk } := by
  refine ⟨h',tk,(D,oD) :: (cW,oW) :: rest,oK,v,rfl,F,fun p hp=>N p (hn p hp),hK,⟨D,oD,oW,rfl,hW,hS,h1,h2⟩,fun p hp q hq=>?_,fun p hp=>?_⟩
  · simp only [List.map_cons,List.mem_cons] at hq
    rcases hq with rfl | rfl | hq
    · exact o1 p hp
    · exact o2 p hp
    · exact o3 p hp q hq
  · rcases List.mem_cons.mp hp with rfl | hp
    · exact n1
    · rcases List.mem_cons.mp hp with rfl | hp
      · exact n2
      · exact n3 p hp
theorem tup_end {h₀:Heap} {L:Addr} {m:Str→Option Value} {s:Shared} {all:List (Addr × Obj)} {h':Heap} {tk':Nat} {T:Addr} {u1 u2 u3:Tok} {n:Nat} (F:Fr h₀ L h' m) (N:News h₀ L h' ((T,({ cls := .type "tuple",data := .seq #[.int 1 u1,.int 20 u2,.int 21 u3] n }:Obj)) :: all)) (hn:∀ p ∈ all,p.1 ≠ T) :
    TupEnd h₀ L m s all mv3 (.ref T) { s with heap := h',toks := tk' } :=
  ⟨h',tk',T,_,n,rfl,rfl,F,N,rfl,fun j v e=>by
    match j with
    | 0=>cases e;exact ⟨_,rfl⟩
    | 1=>cases e;exact ⟨_,rfl⟩
    | 2=>cases e;exact ⟨_,rfl⟩
    | j + 3=>simp at e,hn⟩
theorem move_val {p j:Nat} {t:Tok}:Value.int ((p:Int) + (mv3 j:Int)) t = .int ((p + mv3 j:Nat)) t := congrArg (Value.int · t) (by exact rfl)
theorem hit_of {x y:Str} {i:Nat} {b':Bool} (hb:b' = true ↔ diagU (tx x) (tx y) (waveS (tx x) (tx y) i) x.length (20 * (x.length:Int) + (y.length:Int)).toNat):b' = true ↔ hitS (tx x) (tx y) i := by
  rw [show (20 * (x.length:Int) + (y.length:Int)).toNat = 20 * x.length + y.length by exact rfl] at hb
  unfold hitS
  rw [tx_len,tx_len]
  exact hb
theorem move_bound {x y:Str} {i:Nat} (h1:x.length ≤ 5) (h2:y.length ≤ 4) (hi:i ≤ 5) (hno:¬ hitS (tx x) (tx y) i):∀ k j,diagU (tx x) (tx y) (waveS (tx x) (tx y) i) x.length k→j < 3→k + mv3 j < 240 := by
  intro k j hk _
  have a1:(tx x).length ≤ 5 := by rw [tx_len];exact h1
  have a2:(tx y).length ≤ 4 := by rw [tx_len];exact h2
  have i4:i ≤ 4 := by
    rcases Nat.lt_or_ge i 5 with q | q
    · exact (nUp (nLt1 q) rfl)
    · have:i = 5 := by exact (Nat.le_antisymm hi q)
      subst this
      exact absurd (hit_five a1 a2) hno
  have := diagU_bound a1 a2 (by exact (Nat.le_add_right _ _)) (waveS_bound a1 a2 i) x.length (by rw [tx_len];exact Nat.le_refl _) k hk
  have := mv3_le j
  exact bC (fk30 (Z6 V0 (Lk 21) (Z6 V1 (La (Lk 104) (Lm 21 V2)) (Lh 6 21 V2 (Lk 4) (Z11 (La V1 V0) (Lk 240) Lf)))) rfl this (by assumption) i4)
theorem diag_set {w:World} {o:Obj} {x y:Str} {S:Nat→Prop} {k:Nat} (h:SetIs w o (fun p=>diagU (tx x) (tx y) S k p ∨ ∃ m,m < y.length ∧ (diagU (tx x) (tx y) S k (20 * k + m) ∧ ∃ c,(tx x)[k]? = some c ∧ (tx y)[m]? = some c) ∧ p = 20 * k + m + 21)):SetIs w o (diagU (tx x) (tx y) S (k + 1)) :=
  h.congr fun p=>by
    show (_ ∨ ∃ m,m < (tx y).length ∧ _ ∧ _) ↔ _
    rw [tx_len]
theorem wave_set {w:World} {o:Obj} {x y:Str} {i:Nat} (h:SetIs w o (fun p=>diagU (tx x) (tx y) (waveS (tx x) (tx y) i) x.length p ∨ ∃ q,diagU (tx x) (tx y) (waveS (tx x) (tx y) i) x.length q ∧ ∃ j,j < 3 ∧ p = q + mv3 j)):SetIs w o (waveS (tx x) (tx y) (i + 1)) :=
  h.congr fun p=>by
    show (diagU (tx x) (tx y) (waveS (tx x) (tx y) i) (tx x).length p ∨ ∃ q,diagU (tx x) (tx y) (waveS (tx x) (tx y) i) (tx x).length q ∧ _) ↔ _
    rw [tx_len]
example:True := by
  k_with "eval Set" => (k_here;k_dflt (refine kset_eval (by k_asm) (by first | k_asm | exact News.nil) (by k_asm) (by first | k_is | kernel_rfl!) (by rfl) ?_);intro d' o' h' F' N' l1 hs';(try k_lt l1);(try dsimp only [KdsAll]))
  k_with "setAdd int" => (k_here;k_dflt (refine setAdd_K (k := 0) (by k_asm) (by k_asm) (by k_updF) (by with_reducible assumption) (by rfl) (by decide) ?_);intro b' h' o' F' N' hs';(try dsimp only at N'))
  k_with "exec For" => (k_here;k_dflt (refine for_cell (by k_asm) (by rfl) (by rfl) (by rfl) ?_))
  k_with "exec For Name Call cons nil" => (k_here;k_dflt (refine for_cell (by k_asm) (by rfl) (by rfl) (by rfl) ?_))
  k_with "CellPost" => (dsimp only [CellPost])
  k_with "eval SetComp" => (k_here;(with_reducible show wpAny _ _ (eval (Expr.SetComp _ [_] _ _) _) _ _ _);k_dflt (refine SetComp_R (by k_asm) (by with_unfolding_all rfl) (by decide) (by rfl) (by decide) (by rfl) ?_))
  k_with "eval SetComp" => (k_here;(with_reducible show wpAny _ _ (eval (Expr.SetComp _ [_,_] _ _) _) _ _ _);k_dflt (refine SetComp_W (by k_asm) (by with_unfolding_all rfl) (by decide) (by rfl) (by decide) (by rfl) (by rfl) (by decide) ?_))
  k_with "binaryOp BitOr ref ref" => (k_here;k_dflt (refine or_K (by k_asm) (by k_asm) (by k_mem) (by k_mem) (by with_reducible assumption) (by with_reducible assumption) (by k_ne) ?_);intro D' o' h' tk' F' N' hs' l1;(have l2 := l1);(try k_lt l1))
  k_with "compareOp In int ref" => (k_here;k_dflt (refine in_K0 (by k_asm) (by k_mem) (by with_reducible assumption) (by exact (iDn (Int.add_le_add (iMulL iCast0 rfl) iCast0) rfl)) ?_);intro b' hb')
  trivial
theorem strokes_tells {w:World} {mean:ExcName→Option Value} {mg mb:Str→Option Value} {news:List (Addr × Obj)} {one other:Str} {t1 t2:Tok} (h1:one.length ≤ 5) (h2:other.length ≤ 4) :
    Ctr w mean mg mb 176 1 [.str one t1,.str other t2] news (fun r=>∃ (n:Nat) (t:Tok),r = .int (n:Nat) t ∧ FirstHit (tx one) (tx other) n) := by
  intros _ w mean mg mb news one other t1 t2 _ h1 h2
  have kMk:KstMark := kstMark
  rename ∀ p ∈ news,p.1 < _=>l9
  have c1:∀ p ∈ news,p.1 ≠ _ + 1 := fun p hp=>Nat.ne_of_lt (Nat.lt_succ_of_lt (l9 p hp))
  have c2:∀ p ∈ news,p.1 ≠ _ + 1 + 1 := fun p hp=>Nat.ne_of_lt (Nat.lt_succ_of_lt (Nat.lt_succ_of_lt (l9 p hp)))
  have c3:∀ p ∈ news,p.1 ≠ _ + 1 + 1 + 1 := fun p hp=>Nat.ne_of_lt (Nat.lt_succ_of_lt (Nat.lt_succ_of_lt (Nat.lt_succ_of_lt (l9 p hp))))
  have c4:∀ p ∈ news,p.1 ≠ _ + 1 + 1 + 1 + 1 := fun p hp=>Nat.ne_of_lt (Nat.lt_succ_of_lt (Nat.lt_succ_of_lt (Nat.lt_succ_of_lt (Nat.lt_succ_of_lt (l9 p hp)))))
  rename Fr _ _ _ _=>F1
  change Fr _ _ _ (fun _=>none) at F1
  rename_i g9 L9 h9 tk9 FG9 B9 X9 T9 o1 o2 o3 o4 d1 d2 d3 d4 N1
  change o1.data = .cell none at d1
  change o2.data = .cell none at d2
  change o3.data = .cell (some (.str other t2)) at d3
  change o4.data = .cell (some (.str one t1)) at d4
  k_with "pyIter ref" => k_dflt (
    rename IsRange _ _ _ _ _ _ _ _=>R9
    rename SetIs _ _ _=>S9
    refine strokes_loop (a := tx one) (b := tx other) (rest := (L9 + 1 + 1,o3) :: (L9 + 1,o4) :: news) rfl R9 (by k_asm) (by k_asm) (by with_reducible assumption) (by with_reducible assumption) S9 (by k_ne) (by k_ne) (by k_all) ?_
    intro i D oD oK oW v t u h tk own hi hSD hpre hK hW hDK hDW hDr o1' o2' o3' o4' F9 N9
    simp only [List.cons_append] at N9
    have e4:∀ p ∈ news ++ own,p.1 ≠ _ + 1 + 1 + 1 + 1 := fun p hp=>(List.mem_append.mp hp).elim (c4 p) (o2' p)
    have e3:∀ p ∈ news ++ own,p.1 ≠ _ + 1 + 1 + 1 := fun p hp=>(List.mem_append.mp hp).elim (c3 p) (o3' p)
    have eD:∀ p ∈ news ++ own,p.1 ≠ D := fun p hp=>(List.mem_append.mp hp).elim (fun q=>hDr p (.tail _ (.tail _ q))) (o1' p)
    have eDr:∀ p ∈ (L9 + 1 + 1,o3) :: (L9 + 1,o4) :: (news ++ own),p.1 ≠ D := List.forall_mem_cons.mpr ⟨hDr _ (.head _),List.forall_mem_cons.mpr ⟨hDr _ (.tail _ (.head _)),eD⟩⟩)
  k_with "CellSrc" => k_dflt (
    rename IsRange _ _ _ _ _ _ _ _=>R9
    refine CellSrc.mk (skInv w (tx one) (tx other) (L9 + 1 + 1 + 1) ((L9 + 1 + 1,o3) :: (L9 + 1,o4) :: (news ++ own)) i) (by rfl) R9 (small_len (by exact (nUp h1 rfl))) (size_len _) (by k_asm) (cb_drop (by assumption) (by intro p hp;simp only [List.mem_cons,List.mem_append] at hp ⊢;rcases hp with q | q | q | q | q | q | q <;> simp [q])) hK (by k_all) ⟨D,oD,oW,rfl,hW,hSD,hDW,eDr⟩ ?_ ?_
    intro k t9 oc h tk own2 nx hk9 hoc hInv hof2 hoc2 hnc F9 N9
    obtain ⟨D2,oD2,oW2,rfl,hW2,hS2,hDW2,hDr2⟩ := hInv
    simp only [List.cons_append] at N9
    have f3:∀ p ∈ news ++ own ++ own2,p.1 ≠ _ + 1 + 1 + 1 := fun p hp=>(List.mem_append.mp hp).elim (e3 p) (fun q=>hof2 p q _ (by simp))
    rotate_left
    intro oc v9 nx h tk hoc hInv hnc F9 N9
    obtain ⟨D2,oD2,oW2,rfl,hW2,hS2,hDW2,hDr2⟩ := hInv
    rotate_right)
  k_with "SetSrcR" => k_dflt (
    rename IsRange _ _ _ _ _ _ _ _=>R9
    refine SetSrcR.mk (fun m=>diagU (tx one) (tx other) (waveS (tx one) (tx other) i) k (20 * k + m) ∧ ∃ c,(tx one)[k]? = some c ∧ (tx other)[m]? = some c) (fun m=>20 * k + m + 21) (by rfl) (by k_asm) (by k_asm) R9 (small_len (by exact (nUp h2 rfl))) (size_len _) ?_ ?_ ?_
    intro m9 t9 I oI C oC D9 oD9 m₂ h tk E' hm9 hC hx F9 N9 off ne
    refine wpAny_tests_one ?_
    rotate_left
    intro m9 t9 I oI C oC D9 oD9 m₂ h tk E' hm9 hT9 hC hx F9 N9 off ne
    rotate_left
    intro D9 oD9 h tk F9 N9 hS9 off9
    have hDD:@Ne Nat D2 D9 := off9 _ (.tail _ (.head _))
    have hDW9:@Ne Nat (L9 + 1 + 1 + 1) D9 := off9 _ (.tail _ (.tail _ (.head _)))
    rotate_left)
  k_with "SetSrcW" => k_dflt (
    rename _ = true ↔ _=>hb9
    have hb8 := hit_of hb9
    have hno:¬ hitS (tx one) (tx other) i := by
      rw [← hb8]
      first | assumption | (simp only [Bool.not_eq_true];assumption)
    refine SetSrcW.mk mv3 (by rfl) (by k_asm) (by k_asm) (by k_mem) hS2 (move_bound h1 h2 hi hno) ?_ ?_ ?_
    intro I oI C oC D9 oD9 m₂ h tk E' hC F9 N9 off ne
    rotate_left
    intro p t8 j t7 C oC m₂ h tk E' hp hj hC hx hy F9 N9
    rotate_left
    intro D9 oD9 h tk F9 N9 hS9 off9
    have hDD:@Ne Nat D2 D9 := off9 _ (.tail _ (.head _))
    have hDW9:@Ne Nat (L9 + 1 + 1 + 1) D9 := off9 _ (.tail _ (.tail _ (.head _)))
    rotate_left)
  k_steps
  all_goals first
    | exact TestE.intro (by k_asm) (by k_asm) (tst_yes (by with_reducible assumption) (by with_reducible assumption) hk9 hm9 (by with_reducible assumption))
    | exact TestE.intro (by k_asm) (by k_asm) (tst_no1 hk9 hm9 (by with_reducible assumption))
    | exact TestE.intro (by k_asm) (by k_asm) (tst_no0 (by with_reducible assumption) (by with_reducible assumption))
    | exact TEnd.intro (by k_asm) (by k_asm) ⟨_,elt_val,by exact bC (fk40 (Z7 V0 V1 (Lh 7 20 V2 V3 (Z6 V1 (Lk 4) (Lh 6 20 V3 (Lk 5) (Z11 (La (La (Lm 20 V2) V0) (Lk 21)) (Lk 240) Lf))))) rfl hm9 hk9 h2 h1)⟩
    | exact tup_end (by k_asm) (by k_asm) (by k_all)
    | exact ⟨_,_,rfl,fun _ _ e=>e⟩
    | exact hret _ _ _ ⟨i,_,congrArg (Value.int · _) (by (first | exact rfl | exact Int.le_antisymm (bC (fk10 (Z4 (La K0 V0) V0 Lf) rfl)) (bC (fk10 (Z4 V0 (La K0 V0) Lf) rfl)))),(hit_of (by with_reducible assumption)).mp (by with_reducible assumption),hpre⟩ (by k_asm) (by walk_at "my news")
    | skip
  · rename ∀ p ∈ (_:List (Addr × Obj)),p.1 < _=>lD
    refine ck_end (by k_asm) (by assumption) ?_ hoc (by assumption) (diag_set (by with_reducible assumption)) (by k_ne) (fun p hp=>Nat.ne_of_lt (lD p ?_)) (fun p hp=>Nat.ne_of_lt (lD p ?_)) (fun p hp=>hof2 p hp _ (by simp)) (fun p hp q hq=>hof2 p hp q (.tail _ (.tail _ hq))) (by k_ne) (by k_ne) (fun p hp=>hnc p (.tail _ (.tail _ hp)))
    · intro p hp
      simp only [List.cons_append,List.mem_cons,List.mem_append] at hp ⊢
      rcases hp with q | q | q | q | q | (q | q) | q <;> simp [q]
    · simp only [List.mem_cons,List.mem_append] at hp ⊢
      rcases hp with q | q | q | q <;> simp [q]
    · simp [hp]
  · rename ∀ p ∈ (_:List (Addr × Obj)),p.1 < _=>lD
    refine sw_end (a := tx one) (b := tx other) (by rw [tx_len];exact h1) (by rw [tx_len];exact h2) (fun p hp=>Nat.ne_of_lt (lD p (by simp [hp]))) o2' o3' o4' (by k_asm) (by assumption) ?_ ?_ hi hno hpre hoc (by assumption) (wave_set (by with_reducible assumption)) (by k_ne) (by k_ne) (fun p hp=>Nat.ne_of_lt (lD p ?_)) (by kst_same)
    · intro p hp
      simp only [List.mem_cons,List.mem_append] at hp ⊢
      rcases hp with q | q | q | q | q | q <;> simp [q]
    · intro p hp
      simp [hp]
    · simp only [List.mem_cons,List.mem_append] at hp ⊢
      rcases hp with q | q | q <;> simp [q]
end
section
example:True := by
  w_top off
  k_with_none
  k_with "a" => with_reducible assumption
  k_with "sh" => first | exact sh1 (by k_extra "a") rfl | exact sh2 (by k_extra "a") rfl | exact sh3 (by k_extra "a") rfl | exact sh4 (by k_extra "a") rfl | exact sl1 (by k_extra "a") rfl | exact sl2 (by k_extra "a") rfl | exact sl3 (by k_extra "a") rfl | omega
  k_with "omega" => first | k_extra "a" | decide | exact Int.not_le.mp (by k_extra "a") | exact Int.not_lt.mp (by k_extra "a") | exact nUp (by k_extra "a") rfl | exact iDn (by k_extra "a") rfl | exact iUp (by k_extra "a") rfl | exact iUpLt (by k_extra "a") rfl | exact iDn (Int.add_le_add iLit iCast0) rfl | exact iDn iCast0 rfl | exact nUpLt (Nat.add_le_add (by k_extra "a") (Nat.le_refl _)) rfl | exact Nat.ne_of_lt (Nat.lt_succ_self _) | exact Ne.symm (Nat.ne_of_lt (Nat.lt_succ_self _)) | exact Nat.ne_of_lt (by k_extra "a") | exact Ne.symm (Nat.ne_of_lt (by k_extra "a")) | exact Ne.symm (Int.ne_of_lt (by k_extra "a")) | exact Int.not_le.mpr (iUpLt (iCast (by k_extra "a")) rfl) | lia
  k_with "my news" => first | k_asm | (refine cb_drop (by assumption) (by (intro p9 hp9;kst_mem)))
  k_with "ctr K" => first | exact rfl | assumption
  k_with "ctr D" => ((try simp only [depth_under_make,depth_under_kw,depth_in1,depth_deeper,depth_caller]);(try dsimp only [ktrTop]);k_extra "sh")
  k_with "ctr U" => ((try simp only [units_in1,units_deeper,Around.mark_units,units_caller]);(try dsimp only [ktrTop]);k_extra "sh")
  k_with "nmx" => (with_reducible show wpAny _ _ (eval _ (envX _ _ _ _ _ _)) _ _ _)
  k_with "^eval Name" => (k_here;k_extra "nmx";name_kind "globalImplicit";name_is_builtin;k_dflt (refine nameX_B (by k_asm) (by k_asm) (by k_asm) (by k_is) (by boot_fast) (by decide) ?_ (by rfl) (by kernel_rfl!));k_whole)
  k_with "^eval Name" => (k_here;k_extra "nmx";name_kind "globalImplicit";k_dflt (refine nameX_K (by k_asm) (by k_asm) (by k_asm) (by k_is) ?_ (by rfl) (by kernel_rfl!));k_whole)
  k_with "^eval Name" => (k_here;k_extra "nmx";name_kind "local";k_dflt (refine nmL (by rfl) (by rfl) (by k_asm) (by exact rfl) ?_);k_whole)
  k_with "call type:range" => ((rename Fr _ _ _ _=>f9);(rename News _ _ _ _=>n9);k_dflt (first | refine range1_rows f9 n9 ?_ | refine range2_rows f9 n9 ?_);intro _ _ _ _ _ _ _ _ _)
  k_with "call builtin:len" => ((with_reducible show wpAny _ _ (call (Value.builtin "len") [Value.str _ _]) _ _ _);refine SBL.len (by omega) ?_)
  k_with "ws here" => first | k_extra "a" | exact WsIn.mono (by k_extra "a") (by intro p hp;kst_mem)
  k_with "ctr back" => (intro r9 h9 tk9 hr9 F9 N9;obtain ⟨t9,hr9⟩ := hr9;subst hr9;(try dsimp only);(try k_fold))
  trivial
section
variable {M:Model} {A:Around} {E:Value→Shared→Prop} {s:Shared}
theorem genCode {env:Env} {c P:Addr} {ps:Array Value} {pos:Pos} {qualname:Str} {scope:Scope} {Q:Value→Shared→Prop} (hc:env.code = .ref c) (C:CodeHd s.heap c P) (hP:s.heap.get? P = some (tabObj ps)) (ht:TriplesOk ps.toList)
    (hQ:∀ code h' tk ps',Heap.ExtBut P s.heap h'→s.heap.objs.size ≤ h'.objs.size→h'.get? P = some (tabObj ps')→TriplesOk ps'.toList→Q code { s with heap := h',toks := tk }) :
    wpAny M A (genexprCode env pos qualname scope) Q E s := by
  cases hnf:codeAmong pos ps.toList with
  | none =>
    refine wpAny_genexprCodeX hc (C.code hP ht) (C.tab hP) hnf fun c' h' tk hx hge hlt hcode hrec htab _=>?_
    have ht':TriplesOk (ps ++ #[rawInt pos.line,rawInt pos.col,.ref c']).toList := by
      obtain ⟨_,_,_,_,_,_,_,_,_,op,_,_,_,_,_,_,_,hop,hpd,htr,_⟩ := hcode
      exact htr
    exact hQ _ _ _ _ hx (Nat.le_trans hge (Nat.le_of_lt hlt)) htab.2 ht'
  | some cv =>
    obtain ⟨o,vs,file,tf,flags,tg,inF,text,tt,op,ho,hd,h11,h2,h7,h9,h10,hop,hpd,htr,hne⟩ := C.code hP ht
    unfold genexprCode codeAt
    rw [hc,if_neg (show ¬ ((Value.ref c == Value.none) = true) from Bool.false_ne_true)]
    refine wpAny_bind (wpAny_fieldsOf ho hd ?_)
    rw [h11]
    refine wpAny_bind (wpAny_fieldsOf hop hpd ?_)
    rw [hnf]
    have e:s = { s with heap := s.heap,toks := s.toks } := by cases s;rfl
    refine wpAny_pure ?_
    have := hQ cv s.heap s.toks ps (fun b o' _ e=>e) (Nat.le_refl _) hP ht
    rwa [← e] at this
end
noncomputable def fpOf (h₀:Heap) (L I:Addr) (led:List (Addr × Obj)):List Addr := I :: (led.map (·.1) ++ (List.range L).filter fun b=>(h₀.get? b).isSome)
theorem fp_led {h₀:Heap} {L I:Addr} {led:List (Addr × Obj)} {p:Addr × Obj} (h:p ∈ led):p.1 ∈ fpOf h₀ L I led := .tail _ (List.mem_append_left _ (List.mem_map_of_mem h))
theorem fp_base {h₀:Heap} {L I b:Addr} {o:Obj} {led:List (Addr × Obj)} (hL:h₀.objs.size ≤ L) (h:h₀.get? b = some o):b ∈ fpOf h₀ L I led :=
  .tail _ (List.mem_append_right _ (List.mem_filter.mpr ⟨List.mem_range.mpr (Nat.lt_of_lt_of_le (Heap.lt_size h) hL),by rw [h];rfl⟩))
theorem fp_cases {h₀:Heap} {L I b:Addr} {led:List (Addr × Obj)} (h:b ∈ fpOf h₀ L I led):b = I ∨ (∃ p ∈ led,p.1 = b) ∨ ∃ o,h₀.get? b = some o := by
  rcases List.mem_cons.mp h with h | h
  · exact .inl h
  · rcases List.mem_append.mp h with h | h
    · exact .inr (.inl (List.mem_map.mp h))
    · exact .inr (.inr (Option.isSome_iff_exists.mp (List.mem_filter.mp h).2))
structure GenK (prog:Program) (w:World) (A:Around) (h₀:Heap) (L a Cc I:Addr) (oa oC oI:Obj) (led:List (Addr × Obj)) (n:Nat) (Fn:Nat→Value→Prop) (G:Array GenState):Prop where
  at':∀ (s':Shared) m',s'.gens = G→Fr h₀ L s'.heap m'→News h₀ L s'.heap ((a,oa) :: (Cc,oC) :: (I,oI) :: led)→GenAt prog w A.in4 a (G.size - 1) Cc (fpOf h₀ L I led) [I] (fun _=>true) n Fn 0 s'
  haC:a ≠ Cc
  haf:a ∉ fpOf h₀ L I led
  hCf:Cc ∉ fpOf h₀ L I led
  hcs:cStatics ∈ fpOf h₀ L I led
  hcI:cStatics ≠ I
theorem passing_all (n:Nat):passing (fun _=>true) n 0 = List.range n := by
  unfold passing
  rw [List.drop_zero]
  exact List.filter_eq_self.mpr fun _ _=>rfl
section
variable {prog:Program} {w:World} {A:Around} {E:Value→Shared→Prop} {s:Shared} {h₀:Heap} {L:Addr} {m mg mb:Str→Option Value} {p:Program} {loose:List Str} {mean:ExcName→Option Value}
theorem gen_K {env:Env} {elt iter:Expr} {x:Str} {px:Pos} {scope:Scope} {cl:List (Str × Addr)} {pos:Pos} {Q:Value→Shared→Prop} {l c P:Addr} {ps:Array Value} {vs:List Value} {nn:Nat} {news:List (Addr × Obj)} (Fn:Nat→Value→Prop)
    (hh:A.handled = none) (hroom:A.depth < recursionLimit) (F:Fr h₀ L s.heap m) (N:News h₀ L s.heap ((P,tabObj ps) :: news)) (hn:∀ q ∈ news,q.1 ≠ P) (T:Top p loose mean mg mb h₀) (C:CodeHd h₀ c P) (hcode:env.code = .ref c) (hg:env.globals = mainGlobals) (ht:TriplesOk ps.toList) (hl:(l,listOf vs.toArray nn) ∈ news)
    (hco:scope.isCoroutine = false) (hclos:closureFor scope env = pure cl) (hcell:∀ y ∈ scope.names,y.2 ≠ .cell) (h0:scope.names.lookup (".0" : Str) = some NameKind.local) (hx:scope.names.lookup x = some .local) (hkind:scope.kind = .function)
    (hiter:wpAny (model prog w) A (eval iter env) (fun xv s₁=>xv = .ref l ∧ s₁ = s) E s)
    (helt:∀ (Cc:Addr) (code:Value) (A':Around) (E':Value→Shared→Prop) i v (t:Shared) m₂,A'.handled = none→A'.depth ≤ A.depth + 1→A'.units ≤ A.units + 8→vs[i]? = some v→m₂ x = some v→Fr h₀ Cc t.heap m₂→News h₀ Cc t.heap news →
      wpAny (model prog w) A' (eval elt (genEnv scope cl Cc code builtinsNs env)) (fun y s₃=>Fn i y ∧ Keeps t s₃) E' t)
    (ret:∀ a oa Cc oC I oI ps' h₅ tk (gs:GenState),gs.bare = true→TriplesOk ps'.toList→Fr h₀ L h₅ m→News h₀ L h₅ ((a,oa) :: (Cc,oC) :: (I,oI) :: (P,tabObj ps') :: news)→(∀ q ∈ (P,tabObj ps') :: news,q.1 < I)→I < Cc→Cc < a →
      GenK prog w A h₀ L a Cc I oa oC oI news vs.length Fn (s.gens.push gs)→oa.cls = .type "generator" → Q (.ref a) { s with gens := s.gens.push gs,heap := h₅,toks := tk })
    (hs:∀ x,genFold iter env x = pure x) :
    wpAny (model prog w) A (eval (.GeneratorExp elt [⟨.Name x px,iter,[],0⟩] scope pos) env) Q E s := by
  intros prog w A E s h₀ L m mg mb p loose mean env elt iter x px scope cl pos Q l c P ps vs nn news Fn _ hh hroom F N hn T C hcode hg ht hl hco hclos hcell h0 hx hkind hiter helt ret hs
  refine wpAny_GeneratorExp_make hco hclos hcell h0 hkind hroom (wpAny_mono hiter (fun xv s₁ h₁=>?_) fun _ _ e=>e) hs
  obtain ⟨rfl,rfl⟩ := h₁
  have hls:s₁.heap.IsList l vs.toArray := IsL.isList (n := nn) (N (l,listOf vs.toArray nn) (.tail _ hl)).1
  have hm := N (P,tabObj ps) (.head _)
  have hgs := T.g.keeps F.keep
  obtain ⟨bm,ob,b1,b2,b3,b4,b5,b6⟩ := T.bmain
  have hgP:mainGlobals ≠ P := fun q=>by
    obtain ⟨o,es,ep,e,hd,_⟩ := hgs
    rw [q,hm.1] at e;cases e;cases hd
  have hbP:bm ≠ P := fun q=>by
    have e := F.keep _ _ b3
    rw [q,hm.1] at e;cases e;cases b4
  have hlim₀:h₀.NoLimit := T.nolimit
  have hlim:s₁.heap.NoLimit := hlim₀.keeps F.keep
  have hcs0:∃ o,h₀.get? cStatics = some o := let ⟨mc,⟨o,es,ep,e,_⟩,_⟩ := hlim₀;⟨o,e⟩
  have hcP:cStatics ≠ P := fun e=>by
    obtain ⟨o,ho⟩ := hcs0
    have := hm.2.2
    rw [← e,ho] at this
    cases this
  refine wpAny_pyIter_list hls ⟨hlim.push _,?_⟩
  have up:∀ b o,s₁.heap.get? b = some o→(s₁.heap.push { cls := .type "list_iterator",data := .fields #[.ref l,.int 0 0] }).get? b = some o := fun b o e=>Heap.get?_push_of_some _ e
  have hIg:(s₁.heap.push { cls := .type "list_iterator",data := .fields #[.ref l,.int 0 0] }).get? s₁.heap.objs.size = some { cls := .type "list_iterator",data := .fields #[.ref l,.int 0 0] } := Heap.get?_push_size _ rfl
  have hHsz:(s₁.heap.push { cls := .type "list_iterator",data := .fields #[.ref l,.int 0 0] }).objs.size = s₁.heap.objs.size + 1 := Heap.size_push ..
  generalize hIo:({ cls := .type "list_iterator",data := .fields #[.ref l,.int 0 0] }:Obj) = oI at up hIg hHsz ⊢
  generalize hH:s₁.heap.push oI = H at up hIg hHsz ⊢
  refine genCode hcode (C.keeps fun b o e=>up _ _ (F.keep _ _ e)) (up _ _ hm.1) ht fun code h₃ tk₃ ps' hx₃ hsz₃ hP₃ ht₃=>?_
  have hg₃:h₃.Ns env.globals mg := hg ▸ (hgs.keeps up).extBut hx₃ hgP
  refine wpAny_builtinsFor hg₃ b1 b2 (hx₃ _ _ hbP (up _ _ (F.keep _ _ b3))) b4 b5 b6 ?_
  intro h' hns' hsb'
  have hsz':h'.objs.size = h₃.objs.size + 1 := by rw [hsb'.1,Heap.size_push]
  have keep₃:∀ b o,b ≠ P→s₁.heap.get? b = some o→h₃.get? b = some o := fun b o hb e=>hx₃ b o hb (up _ _ e)
  have keep':∀ b o,h₃.get? b = some o→h'.get? b = some o := fun b o e=>hsb'.extBut b o (Nat.ne_of_lt (Heap.lt_size e)) (Heap.get?_push_of_some _ e)
  generalize hoa:({ cls := .type "generator",data := .fields #[.int s₁.gens.size 0,.str "<genexpr>" (tk₃ + 1),.str (env.qual ++ "<genexpr>") (tk₃ + 1 + 1)] }:Obj) = oa
  have hLs:L < s₁.heap.objs.size := F.ns.lt
  have fresh₀:∀ b,s₁.heap.objs.size ≤ b→h₀.get? b = none := fun b hb=>by
    cases e:h₀.get? b with
    | none=>rfl
    | some o=>exact absurd (Heap.lt_size (F.keep _ _ e)) (Nat.not_lt.mpr hb)
  have hsz4:H.objs.size ≤ h₃.objs.size := hsz₃
  have hIlt:s₁.heap.objs.size < h₃.objs.size := by rw [hHsz] at hsz4;exact hsz4
  have hClt:h₃.objs.size < h'.objs.size := by rw [hsz'];exact Nat.lt_succ_self _
  have hIA:s₁.heap.objs.size < h'.objs.size := Nat.lt_trans hIlt hClt
  have hoIP:s₁.heap.objs.size ≠ P := Ne.symm (Nat.ne_of_lt (Heap.lt_size hm.1))
  have keepA:∀ b o,h₃.get? b = some o→(h'.push oa).get? b = some o := fun b o e=>Heap.get?_push_of_some _ (keep' b o e)
  have baseP:∀ b o,h₀.get? b = some o→b ≠ P := fun b o e q=>by rw [q,hm.2.2] at e;cases e
  have FA:Fr h₀ L (h'.push oa) m := ⟨F.ns.at' fun o e=>keepA _ _ (keep₃ _ _ (Ne.symm hm.2.1) e),fun b o e=>keepA _ _ (keep₃ _ _ (baseP _ _ e) (F.keep _ _ e)),F.above⟩
  obtain ⟨oC,heC,hoC⟩ := LCg.ns_obj hns'
  have hgen:(h'.push oa).get? h'.objs.size = some oa := Heap.get?_push_size _ (by rw [← hoa];rfl)
  have NA:News h₀ L (h'.push oa) ((h'.objs.size,oa) :: (h₃.objs.size,oC) :: (s₁.heap.objs.size,oI) :: (P,tabObj ps') :: news) := fun q hq=>by
    rcases List.mem_cons.mp hq with rfl | hq
    · exact ⟨hgen,Nat.ne_of_gt (Nat.lt_trans hLs hIA),fresh₀ _ (Nat.le_of_lt hIA)⟩
    · rcases List.mem_cons.mp hq with rfl | hq
      · exact ⟨Heap.get?_push_of_some _ heC,Nat.ne_of_gt (Nat.lt_trans hLs hIlt),fresh₀ _ (Nat.le_of_lt hIlt)⟩
      · rcases List.mem_cons.mp hq with rfl | hq
        · exact ⟨keepA _ _ (hx₃ _ _ hoIP hIg),Nat.ne_of_gt hLs,fresh₀ _ (Nat.le_refl _)⟩
        · rcases List.mem_cons.mp hq with rfl | hq
          · exact ⟨keepA _ _ hP₃,hm.2⟩
          · have z := N q (.tail _ hq)
            exact ⟨keepA _ _ (keep₃ _ _ (hn q hq) z.1),z.2⟩
  have ltN:∀ q ∈ news,q.1 < s₁.heap.objs.size := fun q hq=>Heap.lt_size (N q (.tail _ hq)).1
  have fplt:∀ b ∈ fpOf h₀ L s₁.heap.objs.size news,b ≤ s₁.heap.objs.size := fun b hb=>by
    rcases fp_cases hb with rfl | ⟨q,hq,rfl⟩ | ⟨o,e⟩
    · exact Nat.le_refl _
    · exact Nat.le_of_lt (ltN q hq)
    · exact Nat.le_of_lt (Heap.lt_size (F.keep _ _ e))
  have hCf:h₃.objs.size ∉ fpOf h₀ L s₁.heap.objs.size news := fun hb=>Nat.not_lt.mpr (fplt _ hb) hIlt
  have haf:h'.objs.size ∉ fpOf h₀ L s₁.heap.objs.size news := fun hb=>Nat.not_lt.mpr (fplt _ hb) hIA
  have hlI:@Ne Nat l s₁.heap.objs.size := Nat.ne_of_lt (ltN _ hl)
  refine ret h'.objs.size oa h₃.objs.size oC s₁.heap.objs.size oI ps' _ _ _ rfl ht₃ FA NA ?_ hIlt hClt ⟨?_,Nat.ne_of_gt hClt,haf,hCf,fp_base F.above hcs0.choose_spec,?_⟩ (by rw [← hoa])
  · intro q hq
    rcases List.mem_cons.mp hq with rfl | hq
    · exact Heap.lt_size hm.1
    · exact ltN q hq
  · intro s' m' hgens F' N'
    have zI := N' (s₁.heap.objs.size,oI) (.tail _ (.tail _ (.head _)))
    have zC := N' (h₃.objs.size,oC) (.tail _ (.head _))
    have za := N' (h'.objs.size,oa) (.head _)
    have hsz1:(s₁.gens.push (GenState.fresh (.compStart (.GeneratorExp elt [⟨.Name x px,iter,[],0⟩] scope pos) 0 (.ref s₁.heap.objs.size) .none (genEnv scope cl h₃.objs.size code builtinsNs env)))).size - 1 = s₁.gens.size := by simp
    rw [hsz1]
    refine GenAt.freshD (A := A.in4) (cenv := genEnv scope cl h₃.objs.size code builtinsNs env) (m := fun y=>if y = ".0" then some (.ref s₁.heap.objs.size) else none) (P := fun i v=>vs.toArray[i]? = some v) (n₀ := vs.length)
      (St₀ := fun i h=>h.IsListIter s₁.heap.objs.size l i ∧ h.IsList l vs.toArray) hh (fun A' hA=>?_) (fun _=>true) Fn hx (by simp [genEnv,hkind]) hco hCf ?_ ⟨oa,_,_,za.1,by rw [← hoa],by rw [← hoa],by rw [← hoa]⟩ (by rw [hgens];exact Array.getElem?_push_size ..) ?_ ?_ (hlim₀.keeps F'.keep)
    · have W := Walks.list (prog := prog) (w := w) hA s₁.heap.objs.size l hlI vs.toArray
      rw [List.size_toArray] at W
      exact W.mono_fp fun b hb=>by
        rcases List.mem_cons.mp hb with rfl | hb
        · exact .head _
        · rw [List.mem_singleton.mp hb];exact fp_led hl
    · refine ⟨fun A' E' i v s₂ m₂ hA hD hU hP hn₂ hm₂ hk₂=>wpAny_tests_nil ⟨rfl,?_⟩,fun A' E' i v s₂ m₂ hA hD hU hP _ hn₂ hm₂ hk₂=>?_⟩
      · exact ⟨s₂.heap,s₂.toks,by cases s₂;rfl,fun _ _ e=>e⟩
      · have kb:∀ b o,h₀.get? b = some o→s₂.heap.get? b = some o := fun b o e=>hk₂ b (fp_base F.above e) (fun hb=>by rw [List.mem_singleton.mp hb,zI.2.2] at e;cases e) o (F'.keep _ _ e)
        refine helt h₃.objs.size code A' E' i v s₂ m₂ hA (Nat.le_trans hD (Nat.le_of_eq (by rfl))) (Nat.le_trans hU (Nat.le_of_eq (by rfl))) (by simpa using hP) hm₂ ⟨hn₂,kb,Nat.le_trans F.above (Nat.le_of_lt (Nat.lt_trans hLs hIlt))⟩ fun q hq=>?_
        have z := N' q (.tail _ (.tail _ (.tail _ hq)))
        refine ⟨hk₂ q.1 (fp_led hq) (fun hb=>absurd (List.mem_singleton.mp hb) (Nat.ne_of_lt (ltN q hq))) _ z.1,Nat.ne_of_lt (Nat.lt_trans (ltN q hq) hIlt),z.2.2⟩
    · exact ⟨⟨oI,zI.1,by rw [← hIo],by rw [← hIo];rfl⟩,IsL.isList (n := nn) (N' (l,listOf vs.toArray nn) (.tail _ (.tail _ (.tail _ hl)))).1⟩
    · have e:(fun y:Str=>([((".0" : Str),Value.ref s₁.heap.objs.size)]:List (Str × Value)).reverse.lookup y) = fun y:Str=>if y = (".0" : Str) then some (Value.ref s₁.heap.objs.size) else none := by
        funext y
        by_cases hy:y = ".0"
        · subst hy;simp
        · have:(y == (".0" : Str)) = false := by simpa using hy
          simp [List.lookup,this,hy]
      first
      | exact hoC.ns zC.1
      | (rw [e] at hoC;exact hoC.ns zC.1)
  · intro e
    obtain ⟨o,ho⟩ := hcs0
    exact absurd (Heap.lt_size (F.keep _ _ ho)) (e ▸ Nat.lt_irrefl _)
end
section
variable {prog:Program} {w:World} {A:Around} {E:Value→Shared→Prop} {s:Shared} {h₀:Heap} {L:Addr} {m:Str→Option Value}
theorem join_K {sep:Str} {t:Tok} {a Cc I:Addr} {oa oC oI:Obj} {led led':List (Addr × Obj)} {n:Nat} {Fn:Nat→Value→Prop} {Q:Value→Shared→Prop}
    (hh:A.handled = none) (hroom:A.depth < recursionLimit) (F:Fr h₀ L s.heap m) (X:GenK prog w A h₀ L a Cc I oa oC oI led n Fn s.gens)
    (N:News h₀ L s.heap ((a,oa) :: (Cc,oC) :: (I,oI) :: led')) (hsub:∀ q ∈ led,q ∈ led') (hlt:∀ q ∈ led',q.1 ≠ I ∧ q.1 ≠ Cc)
    (tx:Nat→Str) (htx:∀ j v,Fn j v→∃ u,v = .str (tx j) u) (hok:JoinOk sep ((List.range n).map tx) = true)
    (hQ:∀ h' tk gs' t',Fr h₀ L h' m→News h₀ L h' led'→((∀ y ∈ s.gens,y.bare = true)→∀ y ∈ gs',y.bare = true)→Q (.str (Txt.join sep ((List.range n).map tx)) t') { s with heap := h',toks := tk,gens := gs' })
    (hsz:n ≤ sizeLine):wpAny (model prog w) A (call (.builtin "str.join") [.str sep t,.ref a]) Q E s := by
  have hat := X.at' s m rfl F fun q hq=>N q (by rcases List.mem_cons.mp hq with rfl | hq;exact .head _;rcases List.mem_cons.mp hq with rfl | hq;exact .tail _ (.head _);rcases List.mem_cons.mp hq with rfl | hq;exact .tail _ (.tail _ (.head _));exact .tail _ (.tail _ (.tail _ (hsub q hq))))
  have zI := N (I,oI) (.tail _ (.tail _ (.head _)))
  have zC := N (Cc,oC) (.tail _ (.head _))
  have za := N (a,oa) (.head _)
  have hcsC:cStatics ≠ Cc := fun e=>X.hCf (e ▸ X.hcs)
  have W := (WalksS.genexpQ (prog := prog) (w := w) (A := A.in4) hh a (s.gens.size - 1) Cc (fpOf h₀ L I led) [I] (fun _=>true) n Fn X.haC X.haf (fun b hb=>by rw [List.mem_singleton.mp hb];exact .head _) hroom X.hcs hcsC (fun hb=>X.hcI (List.mem_singleton.mp hb))).in4_2
  rw [passing_all,List.length_range] at W
  refine SC.joinGen W (fun i s' st=>st.1.typeIs) hat (fun b hb=>?_) (.head _) (fun j v hv=>let ⟨i,hi,hf⟩ := hv;let ⟨u,e⟩ := htx i v hf;⟨_,u,e⟩) (fun s' lt hm hacc=>?_) hsz
  · rcases List.mem_cons.mp hb with rfl | hb
    · exact Heap.lt_size za.1
    · rcases List.mem_cons.mp hb with rfl | hb
      · exact Heap.lt_size zC.1
      · rcases fp_cases hb with rfl | ⟨q,hq,rfl⟩ | ⟨o,e⟩
        · exact Heap.lt_size zI.1
        · exact Heap.lt_size (N q (.tail _ (.tail _ (.tail _ (hsub q hq))))).1
        · exact Heap.lt_size (F.keep _ _ e)
  have hl:lt.map (·.1) = (List.range n).map tx := by
    apply List.ext_getElem?
    intro j
    have hsz:lt.length = n := by simpa [strValues] using hacc.1
    by_cases hj:j < n
    · have hj':j < lt.length := hsz ▸ hj
      obtain ⟨i,hi,hf⟩ := hacc.2 j (.str lt[j].1 lt[j].2) (by simp [strValues,List.getElem?_eq_getElem hj'])
      have hij:i = j := by simpa [hj] using hi.symm
      obtain ⟨u,hv⟩ := htx i _ hf
      injection hv with h1 _
      simp [List.getElem?_eq_getElem hj',hj,h1,hij]
    · rw [List.getElem?_eq_none (by simpa [hsz] using Nat.le_of_not_lt hj),List.getElem?_eq_none (by simpa using Nat.le_of_not_lt hj)]
  rw [hl]
  have kp:∀ b o,b ≠ I→b ≠ Cc→s.heap.get? b = some o→s'.heap.get? b = some o := fun b o h1 h2 e=>hm.heap b o (fun hmem=>by
    rcases List.mem_cons.mp hmem with e | hmem
    · exact h2 e
    · exact h1 (List.mem_singleton.mp hmem)) e
  have F':Fr h₀ L s'.heap m := ⟨F.ns.at' fun o e=>kp _ _ (Ne.symm zI.2.1) (Ne.symm zC.2.1) e,fun b o e=>kp b o (fun q=>by subst q;rw [zI.2.2] at e;cases e) (fun q=>by subst q;rw [zC.2.2] at e;cases e) (F.keep _ _ e),F.above⟩
  have N':News h₀ L s'.heap led' := fun q hq=>⟨kp _ _ (hlt q hq).1 (hlt q hq).2 (N q (.tail _ (.tail _ (.tail _ hq)))).1,(N q (.tail _ (.tail _ (.tail _ hq)))).2⟩
  have g1 := hm.gens
  have o1 := hm.os
  have d1 := hm.drawn
  refine ⟨hok,fun t' k=>?_⟩
  have e:{ s' with toks := k } = { s with heap := s'.heap,toks := k,gens := s'.gens } := by rw [← o1,← d1]
  rw [e]
  exact hQ s'.heap k s'.gens t' F' N' (fun h=>GenOnlyQ.bare g1 h)
end
section
variable {M:Model} {A:Around} {E:Value→Shared→Prop} {s:Shared} {h₀:Heap} {L:Addr} {m mg mb:Str→Option Value} {p:Program} {loose:List Str} {mean:ExcName→Option Value} {K:Frag}
theorem genB {x:Str} {pos:Pos} {v:Value} {scope:Scope} {cl:List (Str × Addr)} {code:Value} {env:Env} {Q:Value→Shared→Prop} (F:Fr h₀ L s.heap m) (X:K.In h₀) (T:Top p loose mean mg mb h₀) (e:nsIn K mainGlobals x = some none) (hv:bootBuiltins x = some v) (h:Q v s)
    (hg:env.globals = mainGlobals) (hk:scope.kind = .function) (hx:(genEnv scope cl L code builtinsNs env).kindOf x = some .globalImplicit)
    (hn:x ≠ "__name__" := by decide) (hd:(x == ("__debug__" : Str)) = false := by decide):wpAny M A (eval (.Name x pos) (genEnv scope cl L code builtinsNs env)) Q E s :=
  Name_function_global hk hx (loadGlobal_builtin (env := genEnv scope cl L code builtinsNs env) (show s.heap.Ns env.globals mg from hg ▸ T.g.keeps F.keep) (mg_none_of X T.g e) (T.b.keeps F.keep) ((T.builtins x hn).trans hv) h) hd
end
noncomputable abbrev BareG (gs:Array GenState):Prop := ∀ y ∈ gs,y.bare = true
noncomputable abbrev CtrF (w:World) (mean:ExcName→Option Value) (mg mb:Str→Option Value) (f:Addr) (lv:Nat) (vs:List Value) (news:List (Addr × Obj)) (R:Value→Prop):Prop :=
  ∀ (dp un:Nat) (gd:Option (List Code)) (cn:Str) (cs:Scope) (a:Addr) (ccd:Value) (cl:List (Str × Addr)) (outer:List Env) (A₀:Around) (base h₀:Heap) (L:Addr) (m:Str→Option Value) (s:Shared) (Q E:Value→Shared→Prop) (ps:Array Value),
    Below A₀ base outer h₀→Fr h₀ L s.heap m→(topT.heap_39 w.params).In h₀→News h₀ L s.heap ((123,tabObj ps) :: news)→(∀ q ∈ news,q.1 ≠ 123)→TriplesOk ps.toList→CodeHd base 127 123→BareG s.gens→Top topProg LG mean mg mb h₀→cs.kind = .function→dp + 10 * lv < 600→un + 100 * lv < 6000 →
    (∀ r h' tk' ps' gs',R r→Fr h₀ L h' m→News h₀ L h' ((123,tabObj ps') :: news)→TriplesOk ps'.toList→BareG gs'→Q r { s with heap := h',toks := tk',gens := gs' }) →
    wpAny (model PG w) (ktrTop dp un gd cn cs L a ccd cl outer) (call (.ref f) vs) Q E s
noncomputable def firstT (rows:List Dat) (i:Nat):Str := match rows[i]? with
  | some (.tuple (.int t :: _))=>Str.ofString (toString t)
  | _ => ""
theorem firstT_of {rows:List Dat} {i:Nat} {t a b:Int} (h:rows[i]? = some (rowDat t a b)):firstT rows i = Str.ofString (toString t) := by unfold firstT;rw [h]
noncomputable def fmtText (rows:List Dat):Str := (if rows.length > 1 then ("at tab sizes" : Str) else "at tab size") ++ " " ++ Txt.join (", " : Str) ((List.range rows.length).map (firstT rows))
theorem digits2:∀ k:Fin 31,(Str.ofString (toString ((k.val:Nat):Int))).length ≤ 2 := by decide +kernel
theorem firstT_len {rows:List Dat} (hr:∀ r ∈ rows,∃ t a b:Int,r = rowDat t a b ∧ 1 ≤ t ∧ t ≤ 30) (i:Nat):(firstT rows i).length ≤ 2 := by
  cases h:rows[i]? with
  | none=>unfold firstT;rw [h];decide
  | some r =>
    obtain ⟨t,a,b,rfl,h1,h2⟩ := hr r (List.mem_of_getElem? h)
    rw [firstT_of h]
    have := digits2 ⟨t.toNat,by exact (nUpLt (iToNat h2) rfl)⟩
    rwa [show ((t.toNat:Nat):Int) = t from by exact Int.le_antisymm (bC (fk11 (Z2 V0 V1 (Z4 V0 V1 Lf)) rfl (tC (bC (fk01 (Z0 K1 V0 (Z4 K0 V0 Lf)) rfl h1))))) (bC (fk11 (Z3 V0 V1 (Z4 V1 V0 Lf)) rfl (tC (bC (fk01 (Z0 K1 V0 (Z4 K0 V0 Lf)) rfl h1)))))] at this
theorem firsts_weight {rows:List Dat} (hr:∀ r ∈ rows,∃ t a b:Int,r = rowDat t a b ∧ 1 ≤ t ∧ t ≤ 30):∀ n:Nat,((((List.range n).map (firstT rows)).map (·.length)).sum) ≤ 2 * n
  | 0=>by simp
  | n + 1=>by
    have := firsts_weight hr n
    have h2 := firstT_len hr n
    rw [List.range_succ,List.map_append,List.map_append,List.sum_append]
    simp only [List.map_cons,List.map_nil,List.sum_cons,List.sum_nil]
    exact bC (fk30 (Z6 V0 K2 (Z6 V1 (Lm 2 V2) (Z10 (La V1 (La V0 K0)) (Lm 2 (La V2 K1)) Lf))) rfl h2 this)
theorem dall_cons {news:List (Addr × Obj)} {vs:List Value} {d:Dat} {ds:List Dat} (h:DatAll news vs (d :: ds)):∃ v r,vs = v :: r ∧ DatIn news v d ∧ DatAll news r ds := by
  cases h with
  | cons h1 h2=>exact ⟨_,_,rfl,h1,h2⟩
theorem dall_nil {news:List (Addr × Obj)} {vs:List Value} (h:DatAll news vs []):vs = [] := by
  cases h;rfl
theorem din_int {news:List (Addr × Obj)} {v:Value} {n:Int} (h:DatIn news v (.int n)):∃ t,v = .int n t := by
  cases h;exact ⟨_,rfl⟩
theorem din_tup {news:List (Addr × Obj)} {v:Value} {ds:List Dat} (h:DatIn news v (.tuple ds)):∃ ad vs n,v = .ref ad ∧ (ad,({ cls := .type "tuple",data := .seq vs n }:Obj)) ∈ news ∧ ∃ l,vs = l.toArray ∧ DatAll news l ds := by
  cases h with
  | tuple hm hd=>exact ⟨_,_,_,rfl,hm,_,rfl,hd⟩
theorem dat_tuple {news:List (Addr × Obj)} {v:Value} {t a b:Int} (h:DatIn news v (rowDat t a b)):∃ ad vs n,v = .ref ad ∧ (ad,({ cls := .type "tuple",data := .seq vs n }:Obj)) ∈ news ∧ ∃ t1 t2 t3,vs = #[.int t t1,.int a t2,.int b t3] := by
  obtain ⟨ad,vs,n,h1,h2,l,h3,h4⟩ := din_tup h
  obtain ⟨v1,r1,e1,a1,h4⟩ := dall_cons h4
  obtain ⟨v2,r2,e2,a2,h4⟩ := dall_cons h4
  obtain ⟨v3,r3,e3,a3,h4⟩ := dall_cons h4
  have e4 := dall_nil h4
  obtain ⟨t1,b1⟩ := din_int a1
  obtain ⟨t2,b2⟩ := din_int a2
  obtain ⟨t3,b3⟩ := din_int a3
  exact ⟨ad,vs,n,h1,h2,t1,t2,t3,by rw [h3,e1,e2,e3,e4,b1,b2,b3]⟩
theorem fmt_tells {w:World} {mean:ExcName→Option Value} {mg mb:Str→Option Value} {news:List (Addr × Obj)} {l:Addr} {vs:List Value} {nn:Nat} {rows:List Dat} (hl:(l,listOf vs.toArray nn) ∈ news) (hda:DatAll news vs rows) (hr:∀ r ∈ rows,∃ t a b:Int,r = rowDat t a b ∧ 1 ≤ t ∧ t ≤ 30) (hn:rows.length ≤ 30) :
    CtrF w mean mg mb 128 0 [.ref l] news (fun r=>∃ t,r = .str (fmtText rows) t ∧ (fmtText rows).length ≤ 200) := by
  have hlen := hda.length
  have hsize:vs.toArray.size = rows.length := by rw [List.size_toArray,hlen]
  intro dp un gd cn cs a ccd cl outer A₀ base h₀ L m s Q E ps B F X N hne hps HC hbare T hk hd hu hret;revert X;unfold PG;k_fill;intro X;refine wpAny_call ?_;k_dflt (walk_at "my enter")
  k_steps
  refine' gen_K (Fn := fun i y=>∃ u,y = .str (firstT rows i) u) (c := 127) (P := 123) (l := l) (vs := vs) (nn := nn) (news := news) (ps := ps) ?hh ?hroom ?F ?N ?hn ?T ?C ?hcode ?hg ?ht ?hl ?hco ?hclos ?hcell ?h0 ?hx ?hkind ?hiter ?helt ?ret ?hs
  case hh=>first | k_asm | exact rfl
  case hroom=>ktr_room
  case F=>assumption
  case N=>assumption
  case hn=>assumption
  case T=>assumption
  case C=>exact HC.keeps (Below.stays (by assumption))
  case hcode=>first | exact rfl | k_asm
  case hg=>exact rfl
  case ht=>assumption
  case hl=>assumption
  case hco=>exact rfl
  case hclos=>exact rfl
  case hcell=>first | decide | (intro y hy;revert y hy;decide)
  case h0=>exact rfl
  case hx=>exact rfl
  case hkind=>exact rfl
  case hs=>intro x;exact rfl
  case hiter =>
    k_steps
  case helt =>
    intro Cc code A' E' i v t m₂ hA hD hU hv hm2 F₂ N₂
    obtain ⟨hil,hiv⟩ := List.getElem?_eq_some_iff.mp hv
    have hi2:i < rows.length := hlen ▸ hil
    obtain ⟨v',hv',hD'⟩ := hda.get hi2
    have e1:v' = v := Option.some.inj (hv'.symm.trans hv)
    subst e1
    obtain ⟨t1,a1,b1,e1,h1a,h1b⟩ := hr _ (List.getElem_mem hi2)
    have hrow:rows[i]? = some (rowDat t1 a1 b1) := by rw [List.getElem?_eq_getElem hi2,e1]
    rw [e1] at hD'
    obtain ⟨ad,vs3,n3,rfl,hm3,u1,u2,u3,rfl⟩ := dat_tuple hD'
    rw [firstT_of hrow]
    clear hD' hv' hv hiv
    walk1
    refine genB F₂ (by assumption) (by assumption) (by with_reducible k_is) (by boot_by_name) ?_ rfl rfl rfl
    iterate 3 (first | walk1 | (dsimp only;walk1))
    refine ldVarG F₂ hm2 ?_ rfl rfl
    k_steps
    exact ⟨_,_,rfl,fun _ _ e=>e⟩
  case ret =>
    intro a' oa Cc oC I oI ps' h₅ tk gs hgb ht' F₅ N₅ hlt hIC hCa X₅ hcls
    have hps:∀ q ∈ (123,tabObj ps') :: news,q.1 ≠ I ∧ q.1 ≠ Cc := fun q hq=>⟨Nat.ne_of_lt (hlt q hq),Nat.ne_of_lt (Nat.lt_trans (hlt q hq) hIC)⟩
    have hbare5:BareG (s.gens.push gs) := fun y hy=>by
      rcases Array.mem_push.mp hy with hy | rfl
      · exact hbare y hy
      · exact hgb
    have hjoin:JoinOk (", " : Str) ((List.range vs.length).map (firstT rows)) = true := by
      have := firsts_weight hr vs.length
      refine joinOk_of_weight ?_ (by decide)
      rw [List.length_map,List.length_range];exact bC (fk30 (Z6 V0 (Lm 2 V1) (Lh 8 3 V1 V2 (Lh 6 3 V2 (Lk 30) (Z10 (La V0 V1) (Lk 1048576) Lf)))) rfl this hlen hn)
    have hlj:(Txt.join (", " : Str) ((List.range vs.length).map (firstT rows))).length ≤ 150 := by
      have h1 := firsts_weight hr vs.length
      have h2 := StrLaws.join_length_le (", " : Str) ((List.range vs.length).map (firstT rows))
      rw [List.length_map,List.length_range] at h2
      have h3:(", " : Str).length = 2 := by decide
      rw [h3] at h2
      have h4:(Txt.join (", " : Str) ((List.range vs.length).map (firstT rows))).length ≤ (((List.range vs.length).map (firstT rows)).map (·.length)).sum + vs.length * 2 := by unfold Txt.join;rw [StrLaws.glued_eq_join];exact h2
      exact bC (fk40 (Z6 V0 (La V1 (Lr V2 2)) (Z6 V1 (Lm 2 V2) (Lh 8 4 V2 V3 (Lh 6 4 V3 (Lk 30) (Z10 V0 (Lk 150) Lf))))) rfl h4 h1 hlen hn)
    have hadd:∀ x:Str,x.length ≤ 20→x.length + (Txt.join (", " : Str) ((List.range vs.length).map (firstT rows))).length ≤ sizeLine := fun x hx=>by unfold sizeLine;exact (nUp (Nat.add_le_add hx hlj) rfl)
    k_with "call builtin:len" => k_dflt (refine KM.len_K (its := vs.toArray) (c := nn) (n := rows.length) (by k_asm) (.tail _ (.tail _ (.tail _ (.tail _ hl)))) hsize (by exact (nUpLt (Nat.le_trans (Nat.le_of_eq (Eq.symm hsize)) (Nat.le_trans (Nat.le_of_eq hsize) hn)) rfl)) ?_)
    k_with "call builtin:str.join" => k_dflt (refine join_K (led' := (123,tabObj ps') :: news) (by exact rfl) (by ktr_room) (by k_asm) X₅ (by k_asm) (fun q hq=>.tail _ hq) hps (firstT rows) (fun j v hv=>hv) hjoin (fun h9 tk9 gs9 t9 F9 N9 hb9=>?_) (by rw [hlen];unfold sizeLine;(first | exact (nUp (Nat.le_trans (Nat.le_of_eq (Eq.symm hsize)) (Nat.le_trans (Nat.le_of_eq hsize) hn)) rfl) | exact (nUp (nOfI (Int.not_lt.mp (by assumption))) rfl))))
    k_with "^binaryOp Add str str" => (with_reducible refine add_str (fun t8 k8=>?_) (hadd _ (by decide)))
    k_steps
    · have e:("at tab sizes" : Str) ++ " " ++ Txt.join (", " : Str) ((List.range vs.length).map (firstT rows)) = fmtText rows := by unfold fmtText;rw [if_pos (by exact (nDnLt (nOfLlt (by assumption)) rfl)),hlen]
      rw [e]
      exact hret _ _ _ _ _ ⟨_,rfl,by rw [← e,Str.length_append];have := hlj;refine Nat.le_trans (Nat.add_le_add (show _ ≤ 20 by decide) this) (by decide)⟩ (by k_asm) (by k_asm) ht' (hb9 hbare5)
    · have e:("at tab size" : Str) ++ " " ++ Txt.join (", " : Str) ((List.range vs.length).map (firstT rows)) = fmtText rows := by unfold fmtText;rw [if_neg (by exact (Nat.not_lt_of_le (nUp (nOfI (Int.not_lt.mp (by assumption))) rfl))),hlen]
      rw [e]
      exact hret _ _ _ _ _ ⟨_,rfl,by rw [← e,Str.length_append];have := hlj;refine Nat.le_trans (Nat.add_le_add (show _ ≤ 20 by decide) this) (by decide)⟩ (by k_asm) (by k_asm) ht' (hb9 hbare5)
end
section
example:True := by
  w_top off
  k_with_none
  k_with "a" => with_reducible assumption
  k_with "sh" => first | exact sh1 (by k_extra "a") rfl | exact sh2 (by k_extra "a") rfl | exact sh3 (by k_extra "a") rfl | exact sh4 (by k_extra "a") rfl | exact sl1 (by k_extra "a") rfl | exact sl2 (by k_extra "a") rfl | exact sl3 (by k_extra "a") rfl | omega
  k_with "omega" => first | k_extra "a" | decide | exact Int.not_le.mp (by k_extra "a") | exact Int.not_lt.mp (by k_extra "a") | exact nUp (by k_extra "a") rfl | exact iDn (by k_extra "a") rfl | exact iUp (by k_extra "a") rfl | exact iUpLt (by k_extra "a") rfl | exact iDn (Int.add_le_add iLit iCast0) rfl | exact iDn iCast0 rfl | exact nUpLt (Nat.add_le_add (by k_extra "a") (Nat.le_refl _)) rfl | exact Nat.ne_of_lt (Nat.lt_succ_self _) | exact Ne.symm (Nat.ne_of_lt (Nat.lt_succ_self _)) | exact Nat.ne_of_lt (by k_extra "a") | exact Ne.symm (Nat.ne_of_lt (by k_extra "a")) | exact Ne.symm (Int.ne_of_lt (by k_extra "a")) | exact Int.not_le.mpr (iUpLt (iCast (by k_extra "a")) rfl) | lia
  k_with "my news" => first | k_asm | (refine cb_drop (by assumption) (by (intro p9 hp9;kst_mem)))
  k_with "ctr K" => first | exact rfl | assumption
  k_with "ctr D" => ((try simp only [depth_under_make,depth_under_kw,depth_in1,depth_deeper,depth_caller]);(try dsimp only [ktrTop]);k_extra "sh")
  k_with "ctr U" => ((try simp only [units_in1,units_deeper,Around.mark_units,units_caller]);(try dsimp only [ktrTop]);k_extra "sh")
  k_with "nmx" => (with_reducible show wpAny _ _ (eval _ (envX _ _ _ _ _ _)) _ _ _)
  k_with "^eval Name" => (k_here;k_extra "nmx";name_kind "globalImplicit";name_is_builtin;k_dflt (refine nameX_B (by k_asm) (by k_asm) (by k_asm) (by k_is) (by boot_fast) (by decide) ?_ (by rfl) (by kernel_rfl!));k_whole)
  k_with "^eval Name" => (k_here;k_extra "nmx";name_kind "globalImplicit";k_dflt (refine nameX_K (by k_asm) (by k_asm) (by k_asm) (by k_is) ?_ (by rfl) (by kernel_rfl!));k_whole)
  k_with "^eval Name" => (k_here;k_extra "nmx";name_kind "local";k_dflt (refine nmL (by rfl) (by rfl) (by k_asm) (by exact rfl) ?_);k_whole)
  k_with "call type:range" => ((rename Fr _ _ _ _=>f9);(rename News _ _ _ _=>n9);k_dflt (first | refine range1_rows f9 n9 ?_ | refine range2_rows f9 n9 ?_);intro _ _ _ _ _ _ _ _ _)
  k_with "call builtin:len" => ((with_reducible show wpAny _ _ (call (Value.builtin "len") [Value.str _ _]) _ _ _);refine SBL.len (by omega) ?_)
  k_with "ws here" => first | k_extra "a" | exact WsIn.mono (by k_extra "a") (by intro p hp;kst_mem)
  k_with "ctr back" => (intro r9 h9 tk9 hr9 F9 N9;obtain ⟨t9,hr9⟩ := hr9;subst hr9;(try dsimp only);(try k_fold))
  trivial
inductive NsObj (od:Obj) (mA:Str→Option Value):Prop
  | con (es:_) (ep:_)
      (q1:od.data = .dict es ep)
      (q2:StrKeys es)
      (q3:UniqKeys es)
      (q4:∀ name,nsFind es name = mA name):NsObj od mA
theorem NsObj.ns1 {od:Obj} {mA:Str→Option Value} (h:NsObj od mA) {hp:Heap} {d:Addr} (e:hp.get? d = some od):hp.Ns1 d mA := let ⟨es,ep,a,b,c,f⟩ := h;⟨od,es,ep,e,a,b,c,f⟩
theorem nsObj_of {hp:Heap} {d:Addr} {mA:Str→Option Value} (h:hp.Ns1 d mA):∃ od,hp.get? d = some od ∧ NsObj od mA := let ⟨od,es,ep,e,a,b,c,f⟩ := h;⟨od,e,es,ep,a,b,c,f⟩
noncomputable abbrev nagRaw (t:Addr):Obj := { cls := .ref 52,data := .fields #[.ref t,.none,.none,.none,.bool false,.none] }
noncomputable abbrev nagObj (dx:Addr) (fs:Array Value):Obj := { cls := .ref 52,dict := some dx,data := .fields fs }
section
open Builtin Builtin.ObjectAttr
variable {prog:Program} {w:World} {A:Around} {E:Value→Shared→Prop} {h:Heap} {g:Array GenState} {d:Drawn} {t:Nat} {os:OsState}
variable {nm q:Str} {C N x:Addr} {bs bm:List Value} {sn:List Str} {sub:List Value} {ab:Bool} {col:Option Bool} {dd:Option Addr} {k0 k1 k2 k3 k5:Option Value} {B newId sa owner:String}
  {mN mA:Str→Option Value} {name:Str} {v:Value}
theorem nag_first {Q:Unit→Shared→Prop} {o:Obj} (SF:StoreFacts B bm sa owner)
    (hC:h.get? C = some (excClassObj nm q C N bs bm true sn sub ab col dd k0 k1 k2 k3 k5 newId)) (hn:h.Ns N mN) (hns:mN "__setattr__" = none) (hna:mN name = none)
    (hB:typeLookup (.type B) name = pure none) (hx:h.get? x = some o) (hc:o.cls = .ref C) (hdn:o.dict = none) (hnc:∀ c,o.data ≠ .cls c)
    (hq:∀ h' tk' od,NsObj od (fun y=>if y = name then some v else none)→h'.get? x = some { cls := o.cls,dict := some h.objs.size,data := o.data,slots := o.slots }→h'.get? h.objs.size = some od →
      (∀ b o,b ≠ x→h.get? b = some o→h'.get? b = some o)→Q () ⟨h',g,d,tk',os⟩) :
    wpAny (model prog w) A (setAttr (.ref x) name v) Q E ⟨h,g,d,t,os⟩ := by
  have f3 := SF.slot.bind (.ref x)
  have hpass := SF.passes (.ref x)
  unfold setAttr callSpecial? specialOf
  repeat (any_goals (first | assumption | (with_reducible refine wpAny_loadPart_at hx ?_;rw [hc]) | (with_reducible refine wpAny_typeLookup_exc hC hn SF.mro SF.slot.lookup ?_;rw [hns]) | wp_step))
  refine codeAny_call_builtin SF.slot.plain SF.entry (wpAny_check_sa SF hC hx hc ?_)
  unfold Builtin.«object.__setattr__»
  repeat (first | rw [refuse_eq] | (rw [refuseLoop_ref,hpass]) | (with_reducible refine wpAny_loadPart_at hx ?_;rw [hc]) | with_reducible refine wpAny_mroOf_exc hC ?_ | (with_reducible refine wpAny_typeLookup_exc hC hn SF.mro hB ?_;rw [hna]) | wp_step)
  rw [hdn,if_neg (by simp [typeHasDict])]
  split
  · rename_i hcd
    cases hcd
  split
  · rename_i c hcd
    exact absurd hcd (hnc c)
  have hx₁:(h.push { cls := .type "dict",data := .dict #[] }).get? x = some o := Heap.get?_push_of_some _ hx
  have hxs:x ≠ h.objs.size := Nat.ne_of_lt (Heap.lt_size hx)
  refine wpAny_bind (wpAny_alloc' ?_)
  refine wpAny_bind (wpAny_update' hx₁ ?_)
  refine wpAny_pure ?_
  have hgd:((h.push { cls := .type "dict",data := .dict #[] }).update x fun o=>{ cls := o.cls,dict := some h.objs.size,data := o.data,slots := o.slots }).get? h.objs.size
      = some { cls := .type "dict",data := .dict #[] } :=
    (Heap.get?_update_ne _ _ _ _ hxs.symm).trans (Heap.get?_push_at rfl rfl)
  have hnd:((h.push { cls := .type "dict",data := .dict #[] }).update x fun o=>{ cls := o.cls,dict := some h.objs.size,data := o.data,slots := o.slots }).Ns h.objs.size (fun _=>none) :=
    ⟨_,#[],_,hgd,rfl,fun e he=>absurd he (by simp),fun _=>rfl⟩
  show wpAny _ _ (storeInDict h.objs.size (.str name _) name v) _ _ _
  unfold storeInDict newKeyGuard
  refine wpAny_bind (wpAny_pure (wpAny_bind (wpAny_nsSet1 (Heap.Ns1.of_empty hnd) fun h' hn' hs=>?_)))
  obtain ⟨oD,esD,epD,hoD,hdD,hcD⟩ := hn'.count (Within.cons name v Within.nil)
  refine wpAny_bind (wpAny_lookBehind hoD (by rw [hdD];exact pastItsLine_dict (Nat.le_trans hcD (by rw [List.length_cons,List.length_nil,sizeLine_eq];exact (by decide)))) ?_)
  wp_walk
  obtain ⟨od,hod,hns2⟩ := nsObj_of hn'
  have hxf:((h.push { cls := .type "dict",data := .dict #[] }).update x fun o=>{ cls := o.cls,dict := some h.objs.size,data := o.data,slots := o.slots }).get? x = some { cls := o.cls,dict := some h.objs.size,data := o.data,slots := o.slots } := by
    refine Heap.get?_update_self _ hx₁ ?_
    have hfr := (Heap.get?_some_iff.mp hx).2
    obtain ⟨oc,od,odt,osl⟩ := o
    cases odt <;> first | rfl | exact hfr
  exact hq _ _ od hns2 ((hs.2 x hxs).trans hxf) hod fun b ob hbx hb=>(hs.2 b (Nat.ne_of_lt (Heap.lt_size hb))).trans ((Heap.get?_update_ne _ _ _ _ hbx).trans (Heap.get?_push_of_some _ hb))
end
structure NagCls (h:Heap) (mN:Str→Option Value):Prop where
  cls:h.get? 52 = some (excClassObj "NannyNag" "NannyNag" 52 51 [.type "Exception"] [.type "Exception",.type "BaseException",.type "object"] true [] [] false none none (some (.ref 15)) none (some (.str "NannyNag" 189)) (some (.str "NannyNag" 197)) (some (.bool true)) "Exception.__new__")
  ns:h.Ns 51 mN
  init:mN "__init__" = some (.ref 28)
  lineno:mN "get_lineno" = some (.ref 35)
  msg:mN "get_msg" = some (.ref 42)
  line:mN "get_line" = some (.ref 49)
  n1:mN "__setattr__" = none
  n2:mN "__getattribute__" = none
  n3:mN "__getattr__" = none
  n4:mN "lineno" = none
  n5:mN "msg" = none
  n6:mN "line" = none
theorem nagCls {w:World} {h:Heap} (X:(topT.heap_39 w.params).In h):∃ mN,NagCls h mN := by
  obtain ⟨o51,h51⟩:∃ o,(topT.heap_39 w.params).lookup 51 = some o := ⟨_,rfl⟩
  have e := h51
  unfold topT.heap_39 at e
  simp only [List.lookup,Nat.reduceBEq] at e
  cases e
  refine ⟨nsFind _,X _ _ (by rfl),⟨_,_,_,X _ _ h51,rfl,?_,fun _=>rfl⟩,?_,?_,?_,?_,?_,?_,?_,?_,?_,?_⟩
  · intro e he
    simp only [List.mem_toArray,List.mem_cons,List.not_mem_nil,or_false] at he
    rcases he with rfl | rfl | rfl | rfl | rfl | rfl | rfl | rfl | rfl | rfl <;> exact ⟨_,_,rfl⟩
  all_goals first | rfl | (simp [nsFind,findBy,Value.isStr];done)
theorem lk_exc_lineno:typeLookup (.type "Exception") "lineno" = pure none := by rw [typeLookup_type,builtinLookup_eq_fast];kernel_rfl
theorem lk_exc_msg:typeLookup (.type "Exception") "msg" = pure none := by rw [typeLookup_type,builtinLookup_eq_fast];kernel_rfl
theorem lk_exc_line:typeLookup (.type "Exception") "line" = pure none := by rw [typeLookup_type,builtinLookup_eq_fast];kernel_rfl
noncomputable abbrev upd1 (mA:Str→Option Value) (name:Str) (v:Value):Str→Option Value := fun y=>if y = name then some v else mA y
section
variable {prog:Program} {w:World} {A:Around} {E:Value→Shared→Prop} {s:Shared} {h₀:Heap} {L x t:Addr} {m:Str→Option Value} {news:List (Addr × Obj)} {name:Str} {v:Value} {p0:Addr × Obj} {fs:Array Value} {mN mA:Str→Option Value}
theorem nag_set1 {o:Obj} {Q:Unit→Shared→Prop} (C:NagCls s.heap mN) (F:Fr h₀ L s.heap m) (N:News h₀ L s.heap (p0 :: (x,o) :: news)) (h1:p0.1 ≠ x) (h2:∀ q ∈ news,q.1 ≠ x) (hc:o.cls = .ref 52) (hdn:o.dict = none) (hdat:o.data = .fields fs) (hsl:o.slots = #[])
    (hna:mN name = none) (hB:typeLookup (.type "Exception") name = pure none)
    (hQ:∀ dx od h' tk',NsObj od (upd1 (fun _=>none) name v)→(∀ q ∈ p0 :: (x,o) :: news,@Ne Nat q.1 dx)→Fr h₀ L h' m→News h₀ L h' ((dx,od) :: p0 :: (x,nagObj dx fs) :: news)→Q () { s with heap := h',toks := tk' }) :
    wpAny (model prog w) A (setAttr (.ref x) name v) Q E s := by
  obtain ⟨hp,g,d,tk,os⟩ := s
  have hx := N (x,o) (.tail _ (.head _))
  refine nag_first PySem.F.store_Exception C.cls C.ns C.n1 hna hB hx.1 hc hdn (fun c e=>by rw [hdat] at e;cases e) fun h' tk' od hod hx' hd' hk=>?_
  have lt:∀ q ∈ p0 :: (x,o) :: news,@Ne Nat q.1 hp.objs.size := fun q hq=>Nat.ne_of_lt (Heap.lt_size (N q hq).1)
  have hLx:L ≠ x := Ne.symm hx.2.1
  have none₀:∀ b,b = x→h₀.get? b = none := fun b e=>e ▸ hx.2.2
  refine hQ hp.objs.size od h' tk' hod lt ⟨F.ns.at' fun o e=>hk _ _ hLx e,fun b o e=>hk b o (fun q=>by rw [none₀ b q] at e;cases e) (F.keep b o e),F.above⟩ fun q hq=>?_
  rcases List.mem_cons.mp hq with rfl | hq
  · refine ⟨hd',Nat.ne_of_gt F.ns.lt,?_⟩
    cases e:h₀.get? hp.objs.size with
    | none=>rfl
    | some o=>exact absurd (Heap.lt_size (F.keep _ _ e)) (Nat.lt_irrefl _)
  · rcases List.mem_cons.mp hq with rfl | hq
    · exact ⟨hk _ _ h1 (N _ (.head _)).1,(N _ (.head _)).2⟩
    · rcases List.mem_cons.mp hq with rfl | hq
      · obtain ⟨oc,odd,oda,osl⟩ := o
        dsimp only at hc hdn hdat hsl hx'
        subst hc hdat hsl
        exact ⟨hx',hx.2⟩
      · exact ⟨hk _ _ (h2 q hq) (N q (.tail _ (.tail _ hq))).1,(N q (.tail _ (.tail _ hq))).2⟩
theorem nag_set2 {dx:Addr} {od:Obj} {ns:List Str} {Q:Unit→Shared→Prop} (C:NagCls s.heap mN) (F:Fr h₀ L s.heap m) (N:News h₀ L s.heap ((dx,od) :: p0 :: (x,nagObj dx fs) :: news)) (hne:∀ q ∈ p0 :: (x,nagObj dx fs) :: news,@Ne Nat q.1 dx) (hod:NsObj od mA)
    (h1:p0.1 ≠ x) (h2:∀ q ∈ news,q.1 ≠ x) (hna:mN name = none) (hB:typeLookup (.type "Exception") name = pure none) (hw:Within mA ns) (hsz:ns.length ≤ sizeLine)
    (hQ:∀ od h' tk',NsObj od (upd1 mA name v)→Fr h₀ L h' m→News h₀ L h' ((dx,od) :: p0 :: (x,nagObj dx fs) :: news)→Q () { s with heap := h',toks := tk' }) :
    wpAny (model prog w) A (setAttr (.ref x) name v) Q E s := by
  obtain ⟨hp,g,d,tk,os⟩ := s
  have hx := N (x,nagObj dx fs) (.tail _ (.tail _ (.head _)))
  have hD := N (dx,od) (.head _)
  have hxd:x ≠ dx := hne (x,nagObj dx fs) (.tail _ (.head _))
  have I:hp.Inst x 52 mA := ⟨_,hx.1,rfl,(fun c e=>by cases e),.inr ⟨dx,rfl,hxd.symm,hod.ns1 hD.1⟩⟩
  have hx52:x ≠ 52 := fun e=>by
    have a := hx.1
    rw [e] at a
    have b := C.cls
    dsimp only at a b
    rw [a] at b
    have := congrArg (fun o:Option Obj=>o.map (·.cls)) b
    cases this
  refine store_attr PySem.F.store_Exception C.cls C.ns C.n1 hna hB hx52 I (fun h' tk' I' hk hsame=>?_) hw hsz
  have kp:∀ b o,b ≠ x→b ≠ dx→hp.get? b = some o→h'.get? b = some o := fun b o e1 e2 e=>hk b o e1 (fun o₀ dx' e3 e4=>by
    have := e3.symm.trans hx.1
    cases this
    cases e4
    exact e2) e
  obtain ⟨o₁,e1,e2,e3,e4,e5⟩ := hsame _ hx.1
  have hx1:h'.get? x = some (nagObj dx fs) := by
    obtain ⟨a,b,c,dd⟩ := o₁
    have e6 := e5 dx rfl
    dsimp only at e2 e3 e4 e6
    subst e2 e3 e4 e6
    exact e1
  obtain ⟨o',ho',hc',_,hdd⟩ := I'
  obtain rfl:nagObj dx fs = o' := Option.some.inj (hx1.symm.trans ho')
  rcases hdd with ⟨hnn,_⟩ | ⟨d',hd',_,hns'⟩
  · cases hnn
  obtain rfl:dx = d' := Option.some.inj hd'
  obtain ⟨od',hod',hns2⟩ := nsObj_of hns'
  refine hQ od' h' tk' hns2 ⟨F.ns.at' fun o e=>kp _ _ (Ne.symm hx.2.1) (Ne.symm hD.2.1) e,fun b o e=>kp b o (fun q=>by rw [q,hx.2.2] at e;cases e) (fun q=>by rw [q,hD.2.2] at e;cases e) (F.keep b o e),F.above⟩ fun q hq=>?_
  rcases List.mem_cons.mp hq with rfl | hq
  · exact ⟨hod',hD.2⟩
  · rcases List.mem_cons.mp hq with rfl | hq
    · exact ⟨kp _ _ h1 (hne _ (.head _)) (N _ (.tail _ (.head _))).1,(N _ (.tail _ (.head _))).2⟩
    · rcases List.mem_cons.mp hq with rfl | hq
      · exact ⟨hx1,hx.2⟩
      · exact ⟨kp _ _ (h2 q hq) (hne q (.tail _ (.tail _ hq))) (N q (.tail _ (.tail _ (.tail _ hq)))).1,(N q (.tail _ (.tail _ (.tail _ hq)))).2⟩
end
theorem nag_cls_at {w:World} {h₀ h:Heap} {L:Addr} {m:Str→Option Value} (X:(topT.heap_39 w.params).In h₀) (F:Fr h₀ L h m):∃ mN,NagCls h mN :=
  let ⟨mN,C⟩ := nagCls X
  ⟨mN,F.keep _ _ C.cls,C.ns.keeps F.keep,C.init,C.lineno,C.msg,C.line,C.n1,C.n2,C.n3,C.n4,C.n5,C.n6⟩
section
variable {prog:Program} {w w':World} {A:Around} {E:Value→Shared→Prop} {s:Shared} {h₀:Heap} {L x t:Addr} {m:Str→Option Value} {news:List (Addr × Obj)} {name:Str} {v:Value} {p0:Addr × Obj} {fs:Array Value} {mN mA:Str→Option Value}
theorem nag_set1K {o:Obj} {Q:Unit→Shared→Prop} (X:(topT.heap_39 w'.params).In h₀) (F:Fr h₀ L s.heap m) (N:News h₀ L s.heap (p0 :: (x,o) :: news)) (h1:p0.1 ≠ x) (h2:∀ q ∈ news,q.1 ≠ x) (hc:o.cls = .ref 52) (hdn:o.dict = none) (hdat:o.data = .fields fs) (hsl:o.slots = #[])
    (hna:∀ h mN,NagCls h mN→mN name = none) (hB:typeLookup (.type "Exception") name = pure none)
    (hQ:∀ dx od h' tk',NsObj od (upd1 (fun _=>none) name v)→(∀ q ∈ p0 :: (x,o) :: news,@Ne Nat q.1 dx)→Fr h₀ L h' m→News h₀ L h' ((dx,od) :: p0 :: (x,nagObj dx fs) :: news)→Q () { s with heap := h',toks := tk' }) :
    wpAny (model prog w) A (setAttr (.ref x) name v) Q E s :=
  let ⟨_,C⟩ := nag_cls_at X F
  nag_set1 C F N h1 h2 hc hdn hdat hsl (hna _ _ C) hB hQ
theorem nag_set2K {dx:Addr} {od o:Obj} {ns:List Str} {Q:Unit→Shared→Prop} (X:(topT.heap_39 w'.params).In h₀) (F:Fr h₀ L s.heap m) (N:News h₀ L s.heap ((dx,od) :: p0 :: (x,nagObj dx fs) :: news)) (hne:∀ q ∈ p0 :: (x,o) :: news,@Ne Nat q.1 dx) (hod:NsObj od mA)
    (h1:p0.1 ≠ x) (h2:∀ q ∈ news,q.1 ≠ x) (hna:∀ h mN,NagCls h mN→mN name = none) (hB:typeLookup (.type "Exception") name = pure none) (hw:Within mA ns) (hsz:ns.length ≤ sizeLine)
    (hQ:∀ od h' tk',NsObj od (upd1 mA name v)→Fr h₀ L h' m→News h₀ L h' ((dx,od) :: p0 :: (x,nagObj dx fs) :: news)→Q () { s with heap := h',toks := tk' }) :
    wpAny (model prog w) A (setAttr (.ref x) name v) Q E s :=
  let ⟨_,C⟩ := nag_cls_at X F
  nag_set2 C F N (fun q hq=>by
    rcases List.mem_cons.mp hq with rfl | hq
    · exact hne _ (.head _)
    · rcases List.mem_cons.mp hq with rfl | hq
      · exact hne (x,o) (.tail _ (.head _))
      · exact hne q (.tail _ (.tail _ hq))) hod h1 h2 (hna _ _ C) hB hw hsz hQ
end
theorem led_ne {h₀ h:Heap} {L:Addr} {led:List (Addr × Obj)} {p q:Addr × Obj} (N:News h₀ L h led) (hp:p ∈ led) (hq:q ∈ led) (hc:p.2.cls ≠ q.2.cls):p.1 ≠ q.1 := fun e=>by
  have a := (N p hp).1
  have b := (N q hq).1
  rw [e,b] at a
  exact hc (congrArg (·.cls) (Option.some.inj a)).symm
noncomputable abbrev nagMap (more msg line:Value):Str→Option Value := upd1 (upd1 (upd1 (fun _=>none) "lineno" more) "msg" msg) "line" line
noncomputable abbrev nagFs (t:Addr):Array Value := #[.ref t,.none,.none,.none,.bool false,.none]
noncomputable abbrev nagTup (vs:List Value):Obj := { cls := .type "tuple",data := .seq vs.toArray }
inductive NagMade (more msg line:Value) (tl:List (Addr × Obj)) (r:Value):Prop
  | con (x:_) (dx:_) (t:_) (od:_)
      (q1:r = .ref x)
      (q2:tl = [(dx,od),(x,nagObj dx (nagFs t)),(t,nagTup [more,msg,line])])
      (q3:NsObj od (nagMap more msg line)):NagMade more msg line tl r
noncomputable def StopX (p:Prop):Prop := p
theorem nag_tells {w:World} {mean:ExcName→Option Value} {mg mb:Str→Option Value} {news:List (Addr × Obj)} {more:Int} {tm u1 u2:Tok} {msg line:Str}  :
    CtrO w mean mg mb 52 1 [.int more tm,.str msg u1,.str line u2] news (NagMade (.int more tm) (.str msg u1) (.str line u2)) := by
  intro dp un gd cn cs a ccd cl outer A₀ base h₀ L m s Q E B F X N T hk hd hu hret;revert X;unfold PG;k_fill;intro X
  obtain ⟨mN,C₀⟩ := nagCls X
  have C:NagCls s.heap mN := ⟨F.keep _ _ C₀.cls,C₀.ns.keeps F.keep,C₀.init,C₀.lineno,C₀.msg,C₀.line,C₀.n1,C₀.n2,C₀.n3,C₀.n4,C₀.n5,C₀.n6⟩
  obtain ⟨o28,h28⟩:∃ o,(topT.heap_39 w.params).lookup 28 = some o := ⟨_,rfl⟩
  have hc28:o28.cls = .type "function" := by
    have e := h28
    unfold topT.heap_39 at e
    simp only [List.lookup,Nat.reduceBEq] at e
    cases e
    rfl
  obtain ⟨hp,g,d,tk,os⟩ := s
  refine wpAny_call_exc_init PySem.F.excBase_Exception C.cls C.ns C.init (F.keep _ _ (X _ _ h28)) hc28 (fun h' x hm=>?_) (by show 3 ≤ _;decide)
  obtain ⟨t,hx,hxt,ht⟩ := hm.there
  have F':Fr h₀ L h' m := ⟨F.ns.at' fun o e=>hm.keeps _ _ e,fun b o e=>hm.keeps _ _ (F.keep b o e),F.above⟩
  have fresh:∀ b,hp.get? b = none→b ≠ L ∧ h₀.get? b = none := fun b hb=>by
    refine ⟨fun e=>?_,?_⟩
    · obtain ⟨o,_,_,ho,_⟩ := F.ns
      rw [e,ho] at hb;cases hb
    · cases e:h₀.get? b with
      | none=>rfl
      | some o=>rw [F.keep _ _ e] at hb;cases hb
  have N':News h₀ L h' ((x,nagRaw t) :: (t,nagTup [.int more tm,.str msg u1,.str line u2]) :: news) := fun q hq=>by
    rcases List.mem_cons.mp hq with rfl | hq
    · exact ⟨hx,fresh _ hm.new⟩
    · rcases List.mem_cons.mp hq with rfl | hq
      · exact ⟨ht,fresh _ hxt⟩
      · exact ⟨hm.keeps _ _ (N q hq).1,(N q hq).2⟩
  have hoff:∀ q ∈ (t,nagTup [.int more tm,.str msg u1,.str line u2]) :: news,q.1 ≠ x := fun q hq=>by
    rcases List.mem_cons.mp hq with rfl | hq
    · exact fun e=>by
        have a:h'.get? x = _ := hx
        have b:h'.get? t = _ := ht
        dsimp only at e
        rw [e,a] at b
        have := congrArg (fun o:Option Obj=>o.map (·.cls)) b
        cases this
    · exact fun e=>by have := (N q hq).1;rw [e,hm.new] at this;cases this
  have hoff2:∀ q ∈ news,q.1 ≠ t := fun q hq e=>by have := (N q hq).1;rw [e,hxt] at this;cases this
  clear ht hx
  refine wpAny_call ?_
  k_dflt (walk_at "my enter")
  k_with "setAttr ref" => k_dflt (show StopX _)
  k_steps
  refine nag_set1K (fs := nagFs t) (by k_asm) (by k_asm) (by k_asm) ?_ hoff rfl rfl rfl rfl (fun h mN c=>c.n4) lk_exc_lineno (fun dx od h1 tk1 D1 ne1 F1 N1=>?_)
  · exact led_ne (q := (x,nagRaw t)) (by k_asm) (.head _) (.tail _ (.head _)) (fun e=>by cases e)
  k_steps
  refine nag_set2K (by k_asm) (by k_asm) (by k_asm) ne1 D1 ?_ hoff (fun h mN c=>c.n5) lk_exc_msg (by within_ways) (by decide) (fun od2 h2 tk2 D2 F2 N2=>?_)
  · exact led_ne (q := (x,nagObj dx (nagFs t))) (by k_asm) (.tail _ (.head _)) (.tail _ (.tail _ (.head _))) (fun e=>by cases e)
  k_steps
  refine nag_set2K (by k_asm) (by k_asm) (by k_asm) ne1 D2 ?_ hoff (fun h mN c=>c.n6) lk_exc_line (by within_ways) (by decide) (fun od3 h3 tk3 D3 F3 N3=>?_)
  · exact led_ne (q := (x,nagObj dx (nagFs t))) (by k_asm) (.tail _ (.head _)) (.tail _ (.tail _ (.head _))) (fun e=>by cases e)
  k_steps
  exact hret _ [(dx,od3),(x,nagObj dx (nagFs t)),(t,nagTup [.int more tm,.str msg u1,.str line u2])] _ _ ⟨x,dx,t,od3,rfl,rfl,D3⟩ (fresh_cons (fun q hq=>ne1 q (.tail _ (.tail _ (.tail _ hq)))) (fresh_cons (fun q hq=>hoff q (.tail _ hq)) (fresh_cons hoff2 fresh_nil))) (by k_asm) (cb_drop (by k_asm) (fun q hq=>by simp only [List.cons_append,List.nil_append,List.mem_cons] at hq ⊢;rcases hq with h | h | h | h <;> simp [h]))
theorem lk_exc_gh:typeLookup (.type "Exception") "__getattr__" = pure none := by rw [typeLookup_type,builtinLookup_eq_fast];kernel_rfl
theorem lk_exc_gl:typeLookup (.type "Exception") "get_lineno" = pure none := by rw [typeLookup_type,builtinLookup_eq_fast];kernel_rfl
theorem lk_exc_gm:typeLookup (.type "Exception") "get_msg" = pure none := by rw [typeLookup_type,builtinLookup_eq_fast];kernel_rfl
theorem lk_exc_gn:typeLookup (.type "Exception") "get_line" = pure none := by rw [typeLookup_type,builtinLookup_eq_fast];kernel_rfl
section
open Builtin Builtin.ObjectAttr
variable {prog:Program} {w:World} {A:Around} {E:Value→Shared→Prop} {h:Heap} {g:Array GenState} {d:Drawn} {t:Nat} {os:OsState} {x:Addr} {mN mA:Str→Option Value} {name:Str} {v:Value}
theorem nag_check {M:Model} {o:Obj} {nameV:Value} {Q:Unit→Shared→Prop} (C:NagCls h mN) (hx:h.get? x = some o) (hc:o.cls = .ref 52) (hq:Q () ⟨h,g,d,t,os⟩):wpAny M A (checkBuiltinCall "BaseException.__getattribute__" ⟨[.ref x,nameV],[]⟩) Q E ⟨h,g,d,t,os⟩ := by
  have hk:builtinKind "BaseException.__getattribute__" = some .slot := by decide +kernel
  have hsplit:splitId "BaseException.__getattribute__" = some ("BaseException", "__getattribute__") := by decide +kernel
  have hC := C.cls
  have hcB:([Value.ref 52,.type "Exception",.type "BaseException",.type "object"]:List Value).contains (.type "BaseException") = true := by decide +kernel
  have ha := PySem.F.args_bexc_ga (.ref x) nameV
  simp only [checkBuiltinCall,hk,hsplit]
  refine wpAny_bind ?_
  · unfold isInstance
    repeat (first | (with_reducible refine wpAny_loadPart_at hx ?_;rw [hc]) | (with_reducible refine wpAny_isSubtype_exc hC ?_;rw [hcB]) | wp_step)
    exact hq
theorem nag_entry {tk:Tok} {Q:Fin→Shared→Prop} (C:NagCls h mN) (hna:mN name = none) (hB:typeLookup (.type "Exception") name = pure none) (I:h.Inst x 52 mA) (hv:mA name = some v) (hq:Q (.done (.ret v)) ⟨h,g,d,t,os⟩) :
    wpAny (model prog w) A (Builtin.«object.__getattribute__» ⟨[.ref x,.str name tk],[]⟩) Q E ⟨h,g,d,t,os⟩ := by
  obtain ⟨o,hx,hc,hnc,hd⟩ := I
  have hC := C.cls
  have hn := C.ns
  have SM := PySem.F.store_Exception.mro
  rcases hd with ⟨_,hmA⟩ | ⟨dx,hdx,hne,hns⟩
  · rw [hmA name] at hv;cases hv
  unfold Builtin.«object.__getattribute__»
  repeat (first | (with_reducible refine wpAny_loadPart_at hx ?_;rw [hc]) | (with_reducible refine wpAny_typeLookup_exc hC hn SM hB ?_;rw [hna]) | wp_step)
  split
  · rename_i c hcd
    exact absurd hcd (hnc c)
  unfold instanceDict
  repeat (first | (with_reducible refine wpAny_loadPart_at hx ?_;rw [hc]) | with_reducible refine wpAny_loadPart_at hC ?_ | wp_step)
  rw [hdx]
  repeat (first | (with_reducible refine wpAny_nsGet hns.ns ?_;rw [hv]) | wp_step)
  exact hq
theorem nag_load {expr:Bool} {Q:Value→Shared→Prop} (C:NagCls h mN) (hna:mN name = none) (hB:typeLookup (.type "Exception") name = pure none) (I:h.Inst x 52 mA) (hv:mA name = some v) (hh:handedOut v = pure v) (hq:Q v ⟨h,g,d,t + 1,os⟩) :
    wpAny (model prog w) A (getAttr (.ref x) name expr) Q E ⟨h,g,d,t,os⟩ := by
  obtain ⟨o,hx,hc,_⟩ := id I
  have hC := C.cls
  have hn := C.ns
  have hng := C.n2
  have hgh := C.n3
  have SM := PySem.F.store_Exception.mro
  have ga:Slot "Exception" "__getattribute__" "BaseException.__getattribute__" := PySem.F.attr_Exception.ga
  have f3 := ga.bind (.ref x)
  have hx0:(expr && onTheHeap (Value.builtin "BaseException.__getattribute__")) = false := by cases expr <;> rfl
  have hx2:(Value.builtin "BaseException.__getattribute__" == Value.builtin "object.__getattribute__") = false := by decide +kernel
  have hx1:(onTheHeap (Value.ref 52) && Value.builtin "BaseException.__getattribute__" == Value.builtin "object.__getattribute__") = false := by rw [hx2];rfl
  unfold getAttr
  repeat (any_goals (first | assumption | (with_reducible refine wpAny_loadPart_at hx ?_;rw [hc]) | (with_reducible refine wpAny_typeLookup_exc hC hn SM ga.lookup ?_;rw [hng]) | (with_reducible refine wpAny_typeLookup_exc hC hn SM lk_exc_gh ?_;rw [hgh]) | wp_step))
  refine codeAny_call_builtin ga.plain PySem.F.entry_bexc_ga (nag_check C hx hc (nag_entry C hna hB I hv ?_))
  repeat (any_goals (first | assumption | wp_step))
theorem nag_method {pl:Sem Bool} {f:Addr} {of:Obj} {Q:Value × List Value→Shared→Prop} (C:NagCls h mN) (hf:mN name = some (.ref f)) (hfo:h.get? f = some of) (hfc:of.cls = .type "function") {y:Option Value} (hB:typeLookup (.type "Exception") name = pure y)
    (I:h.Inst x 52 mA) (hsh:mA name = none) (hq:Q (.ref f,[.ref x]) ⟨h,g,d,t,os⟩) :
    wpAny (model prog w) A (getMethod (.ref x) name pl) Q E ⟨h,g,d,t,os⟩ := by
  obtain ⟨o,hx,hc,hnc,hd⟩ := I
  have hC := C.cls
  have hn := C.ns
  have hng := C.n2
  have hnh := C.n3
  have SM := PySem.F.store_Exception.mro
  have ga:Slot "Exception" "__getattribute__" "BaseException.__getattribute__" := PySem.F.attr_Exception.ga
  have hcan:(Manifest.canonical "BaseException.__getattribute__" != "object.__getattribute__") = false := by decide +kernel
  unfold getMethod specialOf
  repeat (first | (with_reducible refine wpAny_loadPart_at hx ?_;rw [hc]) | (with_reducible refine wpAny_typeLookup_exc hC hn SM ga.lookup ?_;rw [hng]) | (with_reducible refine wpAny_typeLookup_exc hC hn SM lk_exc_gh ?_;rw [hnh]) | (with_reducible refine wpAny_typeLookup_exc hC hn SM hB ?_;rw [hf]) | (with_reducible refine wpAny_typeOf (T := "function") ⟨_,hfo,hfc⟩ ?_) | simp only [hcan,Bool.false_eq_true,if_false] | wp_step)
  rcases hd with ⟨hdn,_⟩ | ⟨dx,hdx,_,hns⟩
  · rw [hdn]
    repeat wp_step
    exact hq
  · rw [hdx]
    repeat (first | (with_reducible refine wpAny_nsGet hns.ns ?_;rw [hsh]) | wp_step)
    exact hq
end
end
section
example:True := by
  w_top off
  k_with_none
  k_with "a" => with_reducible assumption
  k_with "sh" => first | exact sh1 (by k_extra "a") rfl | exact sh2 (by k_extra "a") rfl | exact sh3 (by k_extra "a") rfl | exact sh4 (by k_extra "a") rfl | exact sl1 (by k_extra "a") rfl | exact sl2 (by k_extra "a") rfl | exact sl3 (by k_extra "a") rfl | omega
  k_with "omega" => first | k_extra "a" | decide | exact Int.not_le.mp (by k_extra "a") | exact Int.not_lt.mp (by k_extra "a") | exact nUp (by k_extra "a") rfl | exact iDn (by k_extra "a") rfl | exact iUp (by k_extra "a") rfl | exact iUpLt (by k_extra "a") rfl | exact iDn (Int.add_le_add iLit iCast0) rfl | exact iDn iCast0 rfl | exact nUpLt (Nat.add_le_add (by k_extra "a") (Nat.le_refl _)) rfl | exact Nat.ne_of_lt (Nat.lt_succ_self _) | exact Ne.symm (Nat.ne_of_lt (Nat.lt_succ_self _)) | exact Nat.ne_of_lt (by k_extra "a") | exact Ne.symm (Nat.ne_of_lt (by k_extra "a")) | exact Ne.symm (Int.ne_of_lt (by k_extra "a")) | exact Int.not_le.mpr (iUpLt (iCast (by k_extra "a")) rfl) | lia
  k_with "my news" => first | k_asm | (refine cb_drop (by assumption) (by (intro p9 hp9;kst_mem)))
  k_with "ctr K" => first | exact rfl | assumption
  k_with "ctr D" => ((try simp only [depth_under_make,depth_under_kw,depth_in1,depth_deeper,depth_caller]);(try dsimp only [ktrTop]);k_extra "sh")
  k_with "ctr U" => ((try simp only [units_in1,units_deeper,Around.mark_units,units_caller]);(try dsimp only [ktrTop]);k_extra "sh")
  k_with "nmx" => (with_reducible show wpAny _ _ (eval _ (envX _ _ _ _ _ _)) _ _ _)
  k_with "^eval Name" => (k_here;k_extra "nmx";name_kind "globalImplicit";name_is_builtin;k_dflt (refine nameX_B (by k_asm) (by k_asm) (by k_asm) (by k_is) (by boot_fast) (by decide) ?_ (by rfl) (by kernel_rfl!));k_whole)
  k_with "^eval Name" => (k_here;k_extra "nmx";name_kind "globalImplicit";k_dflt (refine nameX_K (by k_asm) (by k_asm) (by k_asm) (by k_is) ?_ (by rfl) (by kernel_rfl!));k_whole)
  k_with "^eval Name" => (k_here;k_extra "nmx";name_kind "local";k_dflt (refine nmL (by rfl) (by rfl) (by k_asm) (by exact rfl) ?_);k_whole)
  k_with "call type:range" => ((rename Fr _ _ _ _=>f9);(rename News _ _ _ _=>n9);k_dflt (first | refine range1_rows f9 n9 ?_ | refine range2_rows f9 n9 ?_);intro _ _ _ _ _ _ _ _ _)
  k_with "call builtin:len" => ((with_reducible show wpAny _ _ (call (Value.builtin "len") [Value.str _ _]) _ _ _);refine SBL.len (by omega) ?_)
  k_with "ws here" => first | k_extra "a" | exact WsIn.mono (by k_extra "a") (by intro p hp;kst_mem)
  k_with "ctr back" => (intro r9 h9 tk9 hr9 F9 N9;obtain ⟨t9,hr9⟩ := hr9;subst hr9;(try dsimp only);(try k_fold))
  trivial
noncomputable abbrev ktrTopH (hd:Option Value) (dp un:Nat) (gd:Option (List Code)) (cn:Str) (cs:Scope) (L a:Addr) (ccd:Value) (cl:List (Str × Addr)) (outer:List Env):Around := { handled := hd,depth := dp,frames := some (envX cn cs L a ccd cl :: outer),guards := gd,units := un }
noncomputable abbrev CtrH (w:World) (mean:ExcName→Option Value) (mg mb:Str→Option Value) (hv:Option Value) (f:Addr) (lv:Nat) (vs:List Value) (news:List (Addr × Obj)) (R:Value→Prop):Prop :=
  ∀ (dp un:Nat) (gd:Option (List Code)) (cn:Str) (cs:Scope) (a:Addr) (ccd:Value) (cl:List (Str × Addr)) (outer:List Env) (A₀:Around) (base h₀:Heap) (L:Addr) (m:Str→Option Value) (s:Shared) (Q E:Value→Shared→Prop),
    Below A₀ base outer h₀→Fr h₀ L s.heap m→(topT.heap_39 w.params).In h₀→News h₀ L s.heap news→Top topProg LG mean mg mb h₀→cs.kind = .function→dp + 10 * lv < 600→un + 100 * lv < 6000 →
    (∀ r h' tk',R r→Fr h₀ L h' m→News h₀ L h' news→Q r { s with heap := h',toks := tk' }) →
    wpAny (model PG w) (ktrTopH hv dp un gd cn cs L a ccd cl outer) (call (.ref f) vs) Q E s
theorem nag_inst {h₀ h:Heap} {L x dx:Addr} {fs:Array Value} {od:Obj} {mA:Str→Option Value} {news:List (Addr × Obj)} (N:News h₀ L h news) (h1:(x,nagObj dx fs) ∈ news) (h2:(dx,od) ∈ news) (D:NsObj od mA):h.Inst x 52 mA := by
  have a := (N _ h1).1
  have b := (N _ h2).1
  refine ⟨_,a,rfl,(fun c e=>by cases e),.inr ⟨dx,rfl,fun e=>?_,D.ns1 b⟩⟩
  obtain ⟨es,ep,hd,_⟩ := D
  dsimp only at a b
  rw [e,a] at b
  rw [← Option.some.inj b] at hd
  cases hd
theorem nag_loadK {prog:Program} {w w':World} {A:Around} {E:Value→Shared→Prop} {s:Shared} {h₀:Heap} {L x dx:Addr} {m:Str→Option Value} {fs:Array Value} {od:Obj} {mA:Str→Option Value} {news:List (Addr × Obj)} {name:Str} {v:Value} {expr:Bool} {Q:Value→Shared→Prop}
    (X:(topT.heap_39 w'.params).In h₀) (F:Fr h₀ L s.heap m) (N:News h₀ L s.heap news) (h1:(x,nagObj dx fs) ∈ news) (h2:(dx,od) ∈ news) (D:NsObj od mA) (hna:∀ h mN,NagCls h mN→mN name = none) (hB:typeLookup (.type "Exception") name = pure none) (hv:mA name = some v) (hh:handedOut v = pure v)
    (hq:Q v { s with toks := s.toks + 1 }):wpAny (model prog w) A (getAttr (.ref x) name expr) Q E s :=
  let ⟨_,C⟩ := nag_cls_at X F
  nag_load C (hna _ _ C) hB (nag_inst N h1 h2 D) hv hh hq
theorem nag_g1 {w:World} {mean:ExcName→Option Value} {mg mb:Str→Option Value} {hv:Option Value} {news:List (Addr × Obj)} {x dx:Addr} {fs:Array Value} {od:Obj} {more:Int} {tm u1 u2:Tok} {msg line:Str} (h1:(x,nagObj dx fs) ∈ news) (h2:(dx,od) ∈ news) (D:NsObj od (nagMap (.int more tm) (.str msg u1) (.str line u2))) :
    CtrH w mean mg mb hv 35 0 [.ref x] news (fun r=>r = .int more tm) := by
  intro dp un gd cn cs a ccd cl outer A₀ base h₀ L m s Q E B F X N T hk hd hu hret;revert X;unfold PG;k_fill;intro X;refine wpAny_call ?_;k_dflt (walk_at "my enter")
  k_with "getAttr ref" => k_dflt (show StopX _)
  k_steps
  refine nag_loadK (by k_asm) (by k_asm) (by k_asm) h1 h2 D (fun h mN c=>c.n4) lk_exc_lineno rfl rfl ?_
  k_steps
  exact hret _ _ _ rfl (by k_asm) (by k_asm)
theorem nag_g2 {w:World} {mean:ExcName→Option Value} {mg mb:Str→Option Value} {hv:Option Value} {news:List (Addr × Obj)} {x dx:Addr} {fs:Array Value} {od:Obj} {more:Int} {tm u1 u2:Tok} {msg line:Str} (h1:(x,nagObj dx fs) ∈ news) (h2:(dx,od) ∈ news) (D:NsObj od (nagMap (.int more tm) (.str msg u1) (.str line u2))) :
    CtrH w mean mg mb hv 42 0 [.ref x] news (fun r=>r = .str msg u1) := by
  intro dp un gd cn cs a ccd cl outer A₀ base h₀ L m s Q E B F X N T hk hd hu hret;revert X;unfold PG;k_fill;intro X;refine wpAny_call ?_;k_dflt (walk_at "my enter")
  k_steps
  refine nag_loadK (by k_asm) (by k_asm) (by k_asm) h1 h2 D (fun h mN c=>c.n5) lk_exc_msg rfl rfl ?_
  k_steps
  exact hret _ _ _ rfl (by k_asm) (by k_asm)
theorem nag_g3 {w:World} {mean:ExcName→Option Value} {mg mb:Str→Option Value} {hv:Option Value} {news:List (Addr × Obj)} {x dx:Addr} {fs:Array Value} {od:Obj} {more:Int} {tm u1 u2:Tok} {msg line:Str} (h1:(x,nagObj dx fs) ∈ news) (h2:(dx,od) ∈ news) (D:NsObj od (nagMap (.int more tm) (.str msg u1) (.str line u2))) :
    CtrH w mean mg mb hv 49 0 [.ref x] news (fun r=>r = .str line u2) := by
  intro dp un gd cn cs a ccd cl outer A₀ base h₀ L m s Q E B F X N T hk hd hu hret;revert X;unfold PG;k_fill;intro X;refine wpAny_call ?_;k_dflt (walk_at "my enter")
  k_steps
  refine nag_loadK (by k_asm) (by k_asm) (by k_asm) h1 h2 D (fun h mN c=>c.n6) lk_exc_line rfl rfl ?_
  k_steps
  exact hret _ _ _ rfl (by k_asm) (by k_asm)
noncomputable abbrev tbObj (ts:Array Value):Obj := { cls := .type "traceback",dict := none,data := .fields ts }
noncomputable abbrev tbFs (t T:Addr):Array Value := #[.ref t,.ref T,.none,.none,.bool false,.none]
section
variable {M:Model} {A:Around} {E:Value→Shared→Prop} {s:Shared} {env:Env} {h₀:Heap} {L e dx t T:Addr} {m:Str→Option Value} {news:List (Addr × Obj)}
theorem nag_raiseStmt {x:Sem Value} {Q:Flow→Shared→Prop} (hh:A.handled = none)
    (h:wpAny M A x (fun v s₁=>∃ e dx t mN,v = .ref e ∧ NagCls s₁.heap mN ∧ s₁.heap.get? e = some (nagObj dx (nagFs t)) ∧ E (.ref e) s₁) E s) :
    wpAny M A (raiseStmt env (some x) none) Q E s := by
  have hcB:([Value.ref 52,.type "Exception",.type "BaseException",.type "object"]:List Value).contains (.type "BaseException") = true := by decide +kernel
  unfold raiseStmt
  refine wpAny_bind (wpAny_mono h (fun v s₁ h₁=>?_) fun _ _ x=>x)
  obtain ⟨e,dx,t,mN,rfl,C,he,hE⟩ := h₁
  have hC := C.cls
  obtain ⟨hp,g,d,tk,os⟩ := s₁
  repeat (first | with_reducible refine wpAny_loadPart_at he ?_ | with_reducible refine wpAny_loadPart_at hC ?_ | (with_reducible refine wpAny_isSubtype_exc hC ?_;rw [hcB]) | wp_step)
  exact wpAny_raiseNew_none hh hE
theorem nag_note {Q:Unit→Shared→Prop} (hk:env.scope.kind ≠ .module) (hfr:A.frames = some [env]) (hf:env.frame = some L) (F:Fr h₀ L s.heap m) (N:News h₀ L s.heap ((e,nagObj dx (nagFs t)) :: news)) (hoff:∀ q ∈ news,q.1 ≠ e)
    (h:∀ h' T ts,3 < ts.size→(∀ q ∈ (e,nagObj dx (tbFs t T)) :: news,q.1 ≠ T)→Fr h₀ L h' m→News h₀ L h' ((T,tbObj ts) :: (e,nagObj dx (tbFs t T)) :: news)→Q () { s with heap := h' }) :
    wpAny M A (noteFrame (.ref e) env) Q E s := by
  have he := N _ (.head _)
  obtain ⟨oL,es,ep,hL,hdL,hsk,hnf⟩ := F.ns
  have hLf:oL.isFreed = false := by obtain ⟨a,b,c,dd⟩ := oL;dsimp only at hdL;subst hdL;rfl
  refine wpAny_noteFrame_new (vs := nagFs t) hk hfr hf hL hLf he.1 (Ne.symm he.2.1) rfl rfl fun h' T oL' pl hpl hk' hL' hd' hT hes hTs=>?_
  have hLT:L ≠ T := fun q=>by rw [← q,hL] at hT;cases hT
  have h₀T:h₀.get? T = none := by
    cases q:h₀.get? T with
    | none=>rfl
    | some o=>rw [F.keep _ _ q] at hT;cases hT
  have h₀L:h₀.get? L = none := by
    cases q:h₀.get? L with
    | none=>rfl
    | some o=>exact absurd (Nat.lt_of_lt_of_le (Heap.lt_size q) F.above) (Nat.lt_irrefl _)
  have kp:∀ q ∈ news,h'.get? q.1 = some q.2 := fun q hq=>hk' _ _ (N q (.tail _ hq)).2.1 (hoff q hq) (N q (.tail _ hq)).1
  refine h h' T ([Value.none,.ref L,.none,rawInt L,.none] ++ (if pl.isEmpty then List.replicate 6 Value.none else pl)).toArray ?_ ?_ ⟨⟨oL',es,ep,hL',hd'.trans hdL,hsk,hnf⟩,fun b o q=>hk' b o (fun z=>by rw [z,h₀L] at q;cases q) (fun z=>by rw [z,he.2.2] at q;cases q) (F.keep b o q),F.above⟩ ?_
  · simp only [List.size_toArray,List.length_append,List.length_cons,List.length_nil];exact (nDnLt (Nat.add_le_add (Nat.le_refl _) (Nat.zero_le _)) rfl)
  · intro q hq z
    rcases List.mem_cons.mp hq with rfl | hq
    · rw [← z,he.1] at hT;cases hT
    · rw [← z,(N q (.tail _ hq)).1] at hT;cases hT
  · intro q hq
    rcases List.mem_cons.mp hq with rfl | hq
    · exact ⟨hTs,Ne.symm hLT,h₀T⟩
    · rcases List.mem_cons.mp hq with rfl | hq
      · exact ⟨hes,he.2⟩
      · exact ⟨kp q hq,(N q (.tail _ hq)).2⟩
theorem nag_unset {ts:Array Value} {Q:Unit→Shared→Prop} (hsz:3 < ts.size) (hne:∀ q ∈ (e,nagObj dx (tbFs t T)) :: news,q.1 ≠ T) (F:Fr h₀ L s.heap m) (N:News h₀ L s.heap ((T,tbObj ts) :: (e,nagObj dx (tbFs t T)) :: news))
    (h:∀ h' ts',3 < ts'.size→Fr h₀ L h' m→News h₀ L h' ((T,tbObj ts') :: (e,nagObj dx (tbFs t T)) :: news)→Q () { s with heap := h' }) :
    wpAny M A (setFlight (.ref e) none) Q E s := by
  have hT := N _ (.head _)
  have he := N _ (.tail _ (.head _))
  refine wpAny_setFlight_none (vs := tbFs t T) he.1 rfl rfl hT.1 rfl hsz ?_
  have other:∀ b,b ≠ T→(s.heap.update T (Obj.mapFields (·.setIfInBounds 3 .none))).get? b = s.heap.get? b := fun b hb=>Heap.get?_update_other _ _ (Ne.symm hb)
  refine h _ (ts.setIfInBounds 3 .none) (by simpa using hsz) ⟨F.ns.at' fun o q=>(other L (Ne.symm hT.2.1)).trans q,fun b o q=>(other b fun z=>by rw [z,hT.2.2] at q;cases q).trans (F.keep b o q),F.above⟩ fun q hq=>?_
  rcases List.mem_cons.mp hq with rfl | hq
  · exact ⟨Heap.get?_update_self _ hT.1 rfl,hT.2⟩
  · exact ⟨(other _ (hne q hq)).trans (N q (.tail _ hq)).1,(N q (.tail _ hq)).2⟩
end
section
variable {prog:Program} {w:World} {A:Around} {E:Value→Shared→Prop} {s:Shared} {env:Env}
theorem nag_handleBy {e:Addr} {t:Expr} {n:Str} {b₀:Stmt} {suite:List Stmt} {pos:Pos} {rest:List ExceptHandler} {Q:Flow→Shared→Prop}
    (h:wpAny (model prog w) (A.mark (some (.ref e))) (eval t env) (fun c s₁=>c = .ref 52 ∧ (∃ mN,NagCls s₁.heap mN) ∧ (∃ oe,s₁.heap.get? e = some oe ∧ oe.cls = .ref 52) ∧
      wpAny (model prog w) (A.mark (some (.ref e))) (setFlight (.ref e) none) (fun _ s₂ =>
          wpAny (model prog w) (A.mark (some (.ref e))) (storeName env n (.ref e)) (fun _ s₃ =>
            wpAny (model prog w) (A.mark (some (.ref e))) (execs (b₀ :: suite) env)
              (fun f s₄=>wpAny (model prog w) A (do bindName env n .none;unbindBehindTheSuite env n pos) (fun _ s₅=>Q f s₅) E s₄)
              (AsSuiteRaised (model prog w) (A.mark (some (.ref e))) env n pos (notedBy (model prog w) (A.mark (some (.ref e))) env (cameBackBy (model prog w) A env E))) s₃) (notedBy (model prog w) (A.mark (some (.ref e))) env (cameBackBy (model prog w) A env E)) s₂) (notedBy (model prog w) (A.mark (some (.ref e))) env (cameBackBy (model prog w) A env E)) s₁) (notedBy (model prog w) (A.mark (some (.ref e))) env (cameBackBy (model prog w) A env E)) s) :
    wpAny (model prog w) A (handleBy (.ref e) env (.ExceptHandler (some t) (some n) (b₀ :: suite) pos :: rest)) Q E s := by
  refine wpAny_handleBy_cons (codeAny_handlers_test (wpAny_mono h (fun c s₁ h₁=>?_) fun _ _ y=>y)) (by intro q;cases q)
  obtain ⟨rfl,⟨mN,C⟩,⟨oe,he,hcls⟩,hk⟩ := h₁
  obtain ⟨hh,g,d,tk,os⟩ := s₁
  exact wpAny_excMatches_sub_self C.cls he hcls (by decide +kernel) (codeAny_handlers_suite_as hk)
end
end
section
example:True := by
  w_top off
  k_with_none
  k_with "a" => with_reducible assumption
  k_with "sh" => first | exact sh1 (by k_extra "a") rfl | exact sh2 (by k_extra "a") rfl | exact sh3 (by k_extra "a") rfl | exact sh4 (by k_extra "a") rfl | exact sl1 (by k_extra "a") rfl | exact sl2 (by k_extra "a") rfl | exact sl3 (by k_extra "a") rfl | omega
  k_with "omega" => first | k_extra "a" | decide | exact Int.not_le.mp (by k_extra "a") | exact Int.not_lt.mp (by k_extra "a") | exact nUp (by k_extra "a") rfl | exact iDn (by k_extra "a") rfl | exact iUp (by k_extra "a") rfl | exact iUpLt (by k_extra "a") rfl | exact iDn (Int.add_le_add iLit iCast0) rfl | exact iDn iCast0 rfl | exact nUpLt (Nat.add_le_add (by k_extra "a") (Nat.le_refl _)) rfl | exact Nat.ne_of_lt (Nat.lt_succ_self _) | exact Ne.symm (Nat.ne_of_lt (Nat.lt_succ_self _)) | exact Nat.ne_of_lt (by k_extra "a") | exact Ne.symm (Nat.ne_of_lt (by k_extra "a")) | exact Ne.symm (Int.ne_of_lt (by k_extra "a")) | exact Int.not_le.mpr (iUpLt (iCast (by k_extra "a")) rfl) | lia
  k_with "my news" => first | k_asm | (refine cb_drop (by assumption) (by (intro p9 hp9;kst_mem)))
  k_with "ctr K" => first | exact rfl | assumption
  k_with "ctr D" => ((try simp only [depth_under_make,depth_under_kw,depth_in1,depth_deeper,depth_caller]);(try dsimp only [ktrTop]);k_extra "sh")
  k_with "ctr U" => ((try simp only [units_in1,units_deeper,Around.mark_units,units_caller]);(try dsimp only [ktrTop]);k_extra "sh")
  k_with "nmx" => (with_reducible show wpAny _ _ (eval _ (envX _ _ _ _ _ _)) _ _ _)
  k_with "^eval Name" => (k_here;k_extra "nmx";name_kind "globalImplicit";name_is_builtin;k_dflt (refine nameX_B (by k_asm) (by k_asm) (by k_asm) (by k_is) (by boot_fast) (by decide) ?_ (by rfl) (by kernel_rfl!));k_whole)
  k_with "^eval Name" => (k_here;k_extra "nmx";name_kind "globalImplicit";k_dflt (refine nameX_K (by k_asm) (by k_asm) (by k_asm) (by k_is) ?_ (by rfl) (by kernel_rfl!));k_whole)
  k_with "^eval Name" => (k_here;k_extra "nmx";name_kind "local";k_dflt (refine nmL (by rfl) (by rfl) (by k_asm) (by exact rfl) ?_);k_whole)
  k_with "call type:range" => ((rename Fr _ _ _ _=>f9);(rename News _ _ _ _=>n9);k_dflt (first | refine range1_rows f9 n9 ?_ | refine range2_rows f9 n9 ?_);intro _ _ _ _ _ _ _ _ _)
  k_with "call builtin:len" => ((with_reducible show wpAny _ _ (call (Value.builtin "len") [Value.str _ _]) _ _ _);refine SBL.len (by omega) ?_)
  k_with "ws here" => first | k_extra "a" | exact WsIn.mono (by k_extra "a") (by intro p hp;kst_mem)
  k_with "ctr back" => (intro r9 h9 tk9 hr9 F9 N9;obtain ⟨t9,hr9⟩ := hr9;subst hr9;(try dsimp only);(try k_fold))
  trivial
noncomputable def LawGood (s₁:Shared) (tabs:List (Addr × Addr)) (r:Result) (s':Shared):Prop :=
  r = .ok (.ret (.bool true)) ∧ (∀ b o,(ghostOf s₁.heap tabs).get? b = some o→s'.heap.get? b = some o) ∧ s'.os = s₁.os ∧ (∀ y ∈ s'.gens,y.bare = true) ∧ GrownAll tabs s'.heap
theorem kn_postB {M:Model} {A:Around} {cd:Code} {s s₁:Shared} {cw:ClaimW} {cl:Str→Option Addr} {mean:ExcName→Option Value} {args:List WData} {tabs:List (Addr × Addr)} (hT:TabsAt tabs s₁.heap) (hr:∀ cls,cw.raises args cls = false) (hp:cw.post args (.bool true) args = true)
    (h:codeAny M A cd (LawGood s₁ tabs) s):codeAny M A cd (GoodWG cw cl mean args s₁) s :=
  codeAny_mono h fun r s' ⟨hres,hk,hos,hg,hgr⟩=>by
    have keep:∀ b o,b ∉ tabs.map (·.2)→s₁.heap.get? b = some o→s'.heap.get? b = some o := fun b o hb e=>hk b o (ghost_ne e hb)
    have grown:∀ b o,b ∈ tabs.map (·.2)→s₁.heap.get? b = some o→isCodeTable s₁.heap b ∧ o = tabObj #[] ∧ ∃ ps,s'.heap.get? b = some (tabObj ps) := fun b o hb e=>by
      obtain ⟨q,hq,rfl⟩ := List.mem_map.mp hb
      have e2 := (hT q hq).2
      rw [e] at e2
      exact ⟨((hT q hq).1.tab (hT q hq).2).isCodeTable,Option.some.inj e2,hgr.get q hq⟩
    subst hres
    refine ⟨.inl ⟨_,_,[],rfl,hr,ReadsW.bool true,hp,fun _=>⟨List.nodup_nil,fun _ hm=>(nomatch hm)⟩⟩,⟨fun b o e=>?_,fun b o e=>?_⟩,hos,hg⟩
    · by_cases hb:b ∈ tabs.map (·.2)
      · obtain ⟨ht,rfl,ps,hP⟩ := grown b o hb e
        exact .inr (.inl ⟨ht,rfl,#[],ps,rfl,by rw [Array.empty_append];exact hP⟩)
      · exact .inl (keep b o hb e)
    · by_cases hb:b ∈ tabs.map (·.2)
      · obtain ⟨_,_,ps,hP⟩ := grown b o hb e
        exact ⟨_,hP⟩
      · exact ⟨o,keep b o hb e⟩
theorem law_post (args:List WData):PySem.Challenge.rw_pg0242_01.row.claim.post args (.bool true) args = true := by
  refine postW_of (d := .bool true) (X := true) (by exact rfl) ?_ rfl
  exact w_eq_bool (a := .res) (b := .lit (.bool true)) (k := true) (l := true) (by simp [WTm.value]) (by simp [WTm.value])
noncomputable def lastS:List Stmt→Stmt
  | []=>.Pass ⟨0,0,0,0⟩
  | [s]=>s
  | _ :: r=>lastS r
noncomputable def fnParts:Stmt→List Stmt × Scope
  | .FunctionDef _ _ b _ _ _ sc ..=>(b,sc)
  | s=>([s],default)
noncomputable def lawDef:Stmt := lastS PG.main.body
noncomputable def pickS {b:List Stmt} {sc:Scope} (_:fnParts lawDef = (b,sc)):Scope := sc
noncomputable abbrev pick {l:List Stmt} {s:Stmt} {r:List Stmt} (_:l = s :: r):Stmt := s
noncomputable def lawSc:Scope := pickS rfl
noncomputable def lawB (n:Nat):List Stmt := (fnParts lawDef).1.drop n
noncomputable abbrev lawS0:Stmt := pick (l := lawB 0) rfl
noncomputable abbrev lawS1:Stmt := pick (l := lawB 1) rfl
noncomputable abbrev lawS2:Stmt := pick (l := lawB 2) rfl
noncomputable abbrev lawS3:Stmt := pick (l := lawB 3) rfl
noncomputable abbrev lawS4:Stmt := pick (l := lawB 4) rfl
noncomputable abbrev lawS5:Stmt := pick (l := lawB 5) rfl
noncomputable abbrev lawS6:Stmt := pick (l := lawB 6) rfl
noncomputable abbrev lawS7:Stmt := pick (l := lawB 7) rfl
noncomputable abbrev lawS8:Stmt := pick (l := lawB 8) rfl
noncomputable abbrev lawS9:Stmt := pick (l := lawB 9) rfl
noncomputable abbrev lawS10:Stmt := pick (l := lawB 10) rfl
noncomputable abbrev lawS11:Stmt := pick (l := lawB 11) rfl
noncomputable abbrev lawS12:Stmt := pick (l := lawB 12) rfl
noncomputable abbrev lawS13:Stmt := pick (l := lawB 13) rfl
noncomputable abbrev lawS14:Stmt := pick (l := lawB 14) rfl
noncomputable abbrev lawS15:Stmt := pick (l := lawB 15) rfl
noncomputable abbrev lawS16:Stmt := pick (l := lawB 16) rfl
noncomputable abbrev lawS17:Stmt := pick (l := lawB 17) rfl
noncomputable abbrev lawS18:Stmt := pick (l := lawB 18) rfl
noncomputable abbrev lawCl (L:Addr):List (Str × Addr) := [("tail",L + 1 + 1),("upper",L + 1)]
noncomputable abbrev lawEnv (L a:Addr) (cd:Value):Env := envX "law" lawSc L a cd (lawCl L)
noncomputable abbrev lawA (dp un:Nat) (gd:Option (List Code)) (L a:Addr) (cd:Value):Around := ktrTop dp un gd "law" lawSc L a cd (lawCl L) []
end
section
example:True := by
  k_with "^eval Name" => (k_extra "nmx";k_dflt (refine nmL (by kernel_rfl!) (by rfl) (by k_asm) (by first | (with_reducible assumption) | exact rfl | assumption) ?_);k_whole)
  k_with "call ref" => (k_here;k_dflt (show wpAny _ _ (call (Value.ref 152) _) _ _ _);k_dflt (refine ctr_use (by k_asm) (by k_asm) (by k_asm) (by k_asm) (by k_asm) (by walk_at "ctr K") (lead_tells (by exact (iDn hY9 rfl)) (by exact (by decide)) (by exact (by decide))) (by walk_at "ctr D") (by walk_at "ctr U") ?_);(intro r9 h9 tk9 hr9 F9 N9;obtain ⟨y9,t9,hr9,hY9,hZ9⟩ := hr9;subst hr9;(try dsimp only);(try k_fold)))
  k_with "call ref" => (k_here;k_dflt (show wpAny _ _ (call (Value.ref 147) _) _ _ _);k_dflt (refine sum_tells (by with_reducible assumption) (by with_reducible assumption) (by exact (by decide)) (by exact (by decide)) (by exact (by decide)) (by exact (by decide)) _ _ _ _ _ _ _ _ _ _ _ _ _ _ _ _ _ (by with_reducible assumption) (by k_asm) (by k_asm) (by k_asm) (by k_asm) (by k_asm) (by walk_at "ctr K") (by walk_at "ctr D") (by walk_at "ctr U") ?_);(intro r9 h9 tk9 hr9 F9 N9;obtain ⟨n9,t9,hr9,hY9⟩ := hr9;subst hr9;(try dsimp only);(try k_fold)))
  trivial
theorem stage0 {w:World} {mean:ExcName→Option Value} {mg mb:Str→Option Value} {dp un:Nat} {gd:Option (List Code)} {a:Addr} {cd:Value} {A₀:Around} {base h₀:Heap} {L:Addr} {m:Str→Option Value} {s:Shared} {Q:Flow→Shared→Prop} {E:Value→Shared→Prop} {rest:List Stmt} {l:Addr} {vs:List Value} {ns:List Int} {news:List (Addr × Obj)} {o1 o2:Obj}
    (HL:base.IsList l vs.toArray) (hi:IntsAre vs ns) (hln:ns.length ≤ 63) (B:Below A₀ base [] h₀) (F:Fr h₀ L s.heap m) (X:(topT.heap_39 w.params).In h₀) (N:News h₀ L s.heap ((L + 1 + 1,o2) :: (L + 1,o1) :: news)) (T:Top topProg LG mean mg mb h₀) (hd:dp ≤ 310) (hu:un ≤ 1000)
    (d1:o1.data = .cell none) (hs:m "script" = some (.ref l)) (hne:∀ q ∈ (L + 1 + 1,o2) :: news,q.1 ≠ L + 1)
    (k:∀ U tu o1' h' tk,IsLead U→(U.length:Int) ≤ 5→o1'.data = .cell (some (.str U tu))→Fr h₀ L h' m→News h₀ L h' ((L + 1 + 1,o2) :: (L + 1,o1') :: news)→wpAny (model PG w) (lawA dp un gd L a cd) (execs rest (lawEnv L a cd)) Q E { s with heap := h',toks := tk }) :
    wpAny (model PG w) (lawA dp un gd L a cd) (execs (lawS0 :: rest) (lawEnv L a cd)) Q E s := by
  intros w mean mg mb dp un gd a cd A₀ base h₀ L m s Q E rest l vs ns news o1 o2 _ HL hi hln B F X N T hd hu d1 hs hne k
  revert X;unfold PG;k_fill;intro X
  unfold PG at k
  k_steps
  refine storeX_C (by k_asm) (by k_asm) rfl (.tail (by exact hne _ (.head _)) (.head fun p hp=>hne p (.tail _ hp))) d1 (fun h' o' F' N' d'=>?_) rfl rfl
  k_steps
  exact k _ _ _ _ _ (by assumption) (by assumption) d' F' N'
theorem stage1 {w:World} {mean:ExcName→Option Value} {mg mb:Str→Option Value} {dp un:Nat} {gd:Option (List Code)} {a:Addr} {cd:Value} {A₀:Around} {base h₀:Heap} {L:Addr} {m:Str→Option Value} {s:Shared} {Q:Flow→Shared→Prop} {E:Value→Shared→Prop} {rest:List Stmt} {l:Addr} {vs:List Value} {ns:List Int} {news:List (Addr × Obj)}
    (HL:base.IsList l vs.toArray) (hi:IntsAre vs ns) (hln:ns.length ≤ 63) (B:Below A₀ base [] h₀) (F:Fr h₀ L s.heap m) (X:(topT.heap_39 w.params).In h₀) (N:News h₀ L s.heap news) (T:Top topProg LG mean mg mb h₀) (hd:dp ≤ 310) (hu:un ≤ 1000)
    (hs:m "script" = some (.ref l))
    (k:∀ lw W0 t0 nw st ts h' tk,IsLead W0→(W0.length:Int) ≤ 4→(∀ q ∈ news,q.1 < lw)→Fr h₀ L h' (fun y=>if y = "strokes" then some (.int st ts) else if y = "walk" then some (.ref lw) else m y)→News h₀ L h' ((lw,listOf #[.str W0 t0] nw) :: news)→wpAny (model PG w) (lawA dp un gd L a cd) (execs rest (lawEnv L a cd)) Q E { s with heap := h',toks := tk }) :
    wpAny (model PG w) (lawA dp un gd L a cd) (execs (lawS1 :: lawS2 :: rest) (lawEnv L a cd)) Q E s := by
  intros w mean mg mb dp un gd a cd A₀ base h₀ L m s Q E rest l vs ns news _ HL hi hln B F X N T hd hu hs k
  revert X;unfold PG;k_fill;intro X
  unfold PG at k
  k_steps
  exact k _ _ _ _ _ _ _ _ (by assumption) (by assumption) (by assumption) (by k_asm) (by k_asm)
end
section
example:True := by
  w_top off
  k_with_none
  k_with "a" => with_reducible assumption
  k_with "sh" => first | exact sh1 (by k_extra "a") rfl | exact sh2 (by k_extra "a") rfl | exact sh3 (by k_extra "a") rfl | exact sh4 (by k_extra "a") rfl | exact sl1 (by k_extra "a") rfl | exact sl2 (by k_extra "a") rfl | exact sl3 (by k_extra "a") rfl | omega
  k_with "omega" => first | k_extra "a" | decide | exact Int.not_le.mp (by k_extra "a") | exact Int.not_lt.mp (by k_extra "a") | exact nUp (by k_extra "a") rfl | exact iDn (by k_extra "a") rfl | exact iUp (by k_extra "a") rfl | exact iUpLt (by k_extra "a") rfl | exact iDn (Int.add_le_add iLit iCast0) rfl | exact iDn iCast0 rfl | exact nUpLt (Nat.add_le_add (by k_extra "a") (Nat.le_refl _)) rfl | exact Nat.ne_of_lt (Nat.lt_succ_self _) | exact Ne.symm (Nat.ne_of_lt (Nat.lt_succ_self _)) | exact Nat.ne_of_lt (by k_extra "a") | exact Ne.symm (Nat.ne_of_lt (by k_extra "a")) | exact Ne.symm (Int.ne_of_lt (by k_extra "a")) | exact Int.not_le.mpr (iUpLt (iCast (by k_extra "a")) rfl) | lia
  k_with "my news" => first | k_asm | (refine cb_drop (by assumption) (by (intro p9 hp9;kst_mem)))
  k_with "ctr K" => first | exact rfl | assumption
  k_with "ctr D" => ((try simp only [depth_under_make,depth_under_kw,depth_in1,depth_deeper,depth_caller]);(try dsimp only [ktrTop]);k_extra "sh")
  k_with "ctr U" => ((try simp only [units_in1,units_deeper,Around.mark_units,units_caller]);(try dsimp only [ktrTop]);k_extra "sh")
  k_with "nmx" => (with_reducible show wpAny _ _ (eval _ (envX _ _ _ _ _ _)) _ _ _)
  k_with "^eval Name" => (k_here;k_extra "nmx";name_kind "globalImplicit";name_is_builtin;k_dflt (refine nameX_B (by k_asm) (by k_asm) (by k_asm) (by k_is) (by boot_fast) (by decide) ?_ (by rfl) (by kernel_rfl!));k_whole)
  k_with "^eval Name" => (k_here;k_extra "nmx";name_kind "globalImplicit";k_dflt (refine nameX_K (by k_asm) (by k_asm) (by k_asm) (by k_is) ?_ (by rfl) (by kernel_rfl!));k_whole)
  k_with "^eval Name" => (k_here;k_extra "nmx";name_kind "local";k_dflt (refine nmL (by rfl) (by rfl) (by k_asm) (by exact rfl) ?_);k_whole)
  k_with "call type:range" => ((rename Fr _ _ _ _=>f9);(rename News _ _ _ _=>n9);k_dflt (first | refine range1_rows f9 n9 ?_ | refine range2_rows f9 n9 ?_);intro _ _ _ _ _ _ _ _ _)
  k_with "call builtin:len" => ((with_reducible show wpAny _ _ (call (Value.builtin "len") [Value.str _ _]) _ _ _);refine SBL.len (by omega) ?_)
  k_with "ws here" => first | k_extra "a" | exact WsIn.mono (by k_extra "a") (by intro p hp;kst_mem)
  k_with "ctr back" => (intro r9 h9 tk9 hr9 F9 N9;obtain ⟨t9,hr9⟩ := hr9;subst hr9;(try dsimp only);(try k_fold))
  trivial
example:True := by
  k_with "^eval Name" => (k_extra "nmx";k_dflt (refine nmL (by kernel_rfl!) (by rfl) (by k_asm) (by first | (with_reducible assumption) | exact rfl | assumption) ?_);k_whole)
  k_with "call ref" => (k_here;k_dflt (show wpAny _ _ (call (Value.ref 159) _) _ _ _);k_dflt (refine ctr_use (by k_asm) (by k_asm) (by k_asm) (by k_asm) (by k_asm) (by walk_at "ctr K") (stroke_tells (by exact (nUp (Nat.le_trans hlen9 (Nat.add_le_add nLit (nLt1 hi9))) rfl))) (by walk_at "ctr D") (by walk_at "ctr U") ?_);(intro r9 h9 tk9 hr9 F9 N9;obtain ⟨y9,t9,hr9,hY9⟩ := hr9;subst hr9;(try dsimp only);(try k_fold)))
  k_with "exec For Name Call cons nil" => (k_here;(with_unfolding_all refine For_invVF (by k_asm) (by exact rfl) (by exact rfl) ?_;k_whole))
  trivial
structure WK where
  W:Nat→Str
  vs:List Value
  nn:Nat
noncomputable def wkInv (lw:Addr) (W0:Str) (news:List (Addr × Obj)) (i:Nat) (c:WK) (nx:List (Addr × Obj)):Prop :=
  nx = (lw,listOf c.vs.toArray c.nn) :: news ∧ c.vs.length = i + 1 ∧ (∀ j,j ≤ i→∃ t,c.vs[j]? = some (.str (c.W j) t)) ∧ c.W 0 = W0 ∧ ∀ j,j < i→StrokeOut (c.W j) (c.W (j + 1))
theorem wk_len {lw:Addr} {W0:Str} {news:List (Addr × Obj)} {i:Nat} {c:WK} {nx:List (Addr × Obj)} (h:wkInv lw W0 news i c nx) (h0:W0.length ≤ 4):∀ j,j ≤ i→(c.W j).length ≤ 4 + j
  | 0,_=>by rw [h.2.2.2.1];exact (Nat.le_trans h0 (Nat.le_add_right _ _))
  | j + 1,hj=>by
    have a := wk_len h h0 j (bC (fk20 (Z6 (La V0 K1) V1 (Z10 V0 V1 Lf)) rfl hj))
    have b := (h.2.2.2.2 j (bC (fk20 (Z6 (La V0 K1) V1 (Z11 V0 V1 Lf)) rfl hj))).2.2
    exact bC (fk30 (Z6 V0 (La V1 K1) (Z6 V1 (La (Lk 4) V2) (Z10 V0 (La (Lk 4) (La V2 K1)) Lf))) rfl b a)
theorem wk_zero {lw:Addr} {W0:Str} {t0:Tok} {nw:Nat} {news:List (Addr × Obj)}:wkInv lw W0 news 0 ⟨fun _=>W0,[.str W0 t0],nw⟩ ((lw,listOf #[.str W0 t0] nw) :: news) :=
  ⟨rfl,rfl,fun j hj=>⟨t0,by
    obtain rfl:j = 0 := by exact Nat.le_antisymm (bC (fk10 (Z6 V0 K0 (Z10 V0 K0 Lf)) rfl hj)) (bC (fk10 (Z12 V0 (Z10 K0 V0 Lf)) rfl trivial))
    rfl⟩,rfl,fun j hj=>by lia⟩
theorem pw48 {i:Nat} (h:i < 3):(48:Int) ^ (0 + (i:Int)).toNat ≠ 0 ∧ ((48:Int) ^ (0 + (i:Int)).toNat).natAbs.log2 < 60 := by
  rcases i with _ | _ | _ | i
  · decide
  · decide
  · decide
  · lia
theorem wk_push {lw:Addr} {W0 y:Str} {t:Tok} {nn:Nat} {news:List (Addr × Obj)} {i:Nat} {c:WK} {nx:List (Addr × Obj)} (hI:wkInv lw W0 news i c nx) (hs:StrokeOut (c.W i) y) :
    wkInv lw W0 news (i + 1) ⟨fun j=>if j = i + 1 then y else c.W j,c.vs ++ [.str y t],nn⟩ ((lw,listOf (c.vs.toArray.push (.str y t)) nn) :: news) := by
  obtain ⟨_,h2,h3,h4,h5⟩ := hI
  refine ⟨by simp,by simp [h2],fun j hj=>?_,by simp [h4],fun j hj=>?_⟩
  · by_cases e:j = i + 1
    · subst e
      exact ⟨t,by simp [← h2]⟩
    · obtain ⟨tj,hv⟩ := h3 j (by lia)
      refine ⟨tj,?_⟩
      dsimp only
      rw [if_neg e,List.getElem?_append_left (by lia)]
      exact hv
  · dsimp only
    rw [if_neg (show ¬ j = i + 1 by exact (Nat.ne_of_lt hj))]
    by_cases e:j = i
    · subst e;rw [if_pos rfl];exact hs
    · rw [if_neg (show ¬ j + 1 = i + 1 by lia)];exact h5 j (by lia)
theorem wk_end {h₀:Heap} {L:Addr} {m m':Str→Option Value} {own:List (Addr × Obj)} {s₁:Shared} {h':Heap} {tk:Nat} {x:Str} {lw:Addr} {W0 y:Str} {t:Tok} {nn:Nat} {news:List (Addr × Obj)} {i:Nat} {c:WK} {nx:List (Addr × Obj)}
    (F:Fr h₀ L h' m') (N:News h₀ L h' ((lw,listOf (c.vs.toArray.push (.str y t)) nn) :: (news ++ own))) (hI:wkInv lw W0 news i c nx) (hs:StrokeOut (c.W i) y) (ho:OwnOff own (nx.map (·.1)))
    (hr:∀ z,z ≠ x→(∀ p ∈ ([]:List (Str × Value)),z ≠ p.1)→List.contains [] z = false→m' z = m z) :
    InvEndG h₀ L (GS (fun _=>[]) (wkInv lw W0 news) x [] m (i + 1)) own s₁ { s₁ with heap := h',toks := tk } :=
  gs_end (ps := fun _=>[]) ⟨fun j=>if j = i + 1 then y else c.W j,c.vs ++ [.str y t],nn⟩ ((lw,listOf (c.vs.toArray.push (.str y t)) nn) :: news) F N (fun p hp=>by
    rcases List.mem_cons.mp hp with rfl | hp
    · exact .head _
    · exact .tail _ (List.mem_append_left _ hp)) (fun p hp=>.tail _ (List.mem_append_right _ hp)) (by have := hI.1;subst this;exact ho) (wk_push hI hs) (fun p hp=>by cases hp) hr
theorem wk_four {lw:Addr} {W0:Str} {news:List (Addr × Obj)} {c:WK} {nx:List (Addr × Obj)} (h:wkInv lw W0 news 3 c nx) :
    ∃ t0 t1 t2 t3,nx = (lw,listOf #[.str W0 t0,.str (c.W 1) t1,.str (c.W 2) t2,.str (c.W 3) t3] c.nn) :: news ∧ StrokeOut W0 (c.W 1) ∧ StrokeOut (c.W 1) (c.W 2) ∧ StrokeOut (c.W 2) (c.W 3) := by
  obtain ⟨h1,h2,h3,h4,h5⟩ := h
  obtain ⟨a0,e0⟩ := h3 0 (by exact (by decide))
  obtain ⟨a1,e1⟩ := h3 1 (by exact (by decide))
  obtain ⟨a2,e2⟩ := h3 2 (by exact (by decide))
  obtain ⟨a3,e3⟩ := h3 3 (by exact (by decide))
  refine ⟨a0,a1,a2,a3,?_,h4 ▸ h5 0 (by exact (by decide)),h5 1 (by exact (by decide)),h5 2 (by exact (by decide))⟩
  have e:c.vs = [.str W0 a0,.str (c.W 1) a1,.str (c.W 2) a2,.str (c.W 3) a3] := by
    apply List.ext_getElem?
    intro j
    rcases j with _ | _ | _ | _ | j
    · rw [e0,h4];rfl
    · rw [e1];rfl
    · rw [e2];rfl
    · rw [e3];rfl
    · rw [List.getElem?_eq_none (by exact bC (fk20 (Z8 V0 (La (Lk 3) K1) (Z12 V1 (Z10 V0 (La (La (La (La V1 K1) K1) K1) K1) Lf))) rfl h2 trivial)),List.getElem?_eq_none (by simp)]
  rw [h1,e]
theorem stage3 {w:World} {mean:ExcName→Option Value} {mg mb:Str→Option Value} {dp un:Nat} {gd:Option (List Code)} {a:Addr} {cd:Value} {A₀:Around} {base h₀:Heap} {L:Addr} {m:Str→Option Value} {s:Shared} {Q:Flow→Shared→Prop} {E:Value→Shared→Prop} {rest:List Stmt} {news:List (Addr × Obj)}
    {lw:Addr} {W0:Str} {t0:Tok} {nw:Nat} {st:Int} {ts:Tok} (hW:IsLead W0) (hW4:(W0.length:Int) ≤ 4) (hlt:∀ q ∈ news,q.1 < lw)
    (B:Below A₀ base [] h₀) (F:Fr h₀ L s.heap m) (X:(topT.heap_39 w.params).In h₀) (N:News h₀ L s.heap ((lw,listOf #[.str W0 t0] nw) :: news)) (T:Top topProg LG mean mg mb h₀) (hd:dp ≤ 310) (hu:un ≤ 1000)
    (hE:PassesOwn (model PG w) (lawA dp un gd L a cd) (lawEnv L a cd) E) (hs:m "walk" = some (.ref lw)) (hs2:m "strokes" = some (.int st ts))
    (k:∀ W1 W2 W3 t0 t1 t2 t3 nw (u:Str→Option Value) h' tk,StrokeOut W0 W1→StrokeOut W1 W2→StrokeOut W2 W3→Fr h₀ L h' (fun y=>if y = "k" then u y else m y)→News h₀ L h' ((lw,listOf #[.str W0 t0,.str W1 t1,.str W2 t2,.str W3 t3] nw) :: news)→wpAny (model PG w) (lawA dp un gd L a cd) (execs rest (lawEnv L a cd)) Q E { s with heap := h',toks := tk }) :
    wpAny (model PG w) (lawA dp un gd L a cd) (execs (lawS3 :: rest) (lawEnv L a cd)) Q E s := by
  intros w mean mg mb dp un gd a cd A₀ base h₀ L m s Q E rest news lw W0 t0 nw st ts _ hW hW4 hlt B F X N T hd hu hE hs hs2 k
  revert X;unfold PG;k_fill;intro X
  unfold PG at k hE
  unfold lawS3 pick
  k_with "pyIter ref" => k_dflt (
    refine my_range (n := 3) (fun _=>[]) (wkInv lw W0 news) [] ⟨fun _=>W0,[.str W0 t0],nw⟩ (by rfl) (by assumption) (by decide) (by decide) (by k_asm) (by k_asm) wk_zero (by simp) ?_ ?_
    intro c i t u h tk own nx hi9 hoff hI F₁ N₁
    have hlen9 := wk_len hI (by exact (nUp (nOfI hW4) rfl)) i (Nat.le_refl _)
    have hI' := hI
    obtain ⟨hnx,hvl,hv,hw0,hso⟩ := hI
    subst hnx
    rw [List.cons_append] at N₁
    have hn1:∀ p ∈ news,@Ne Nat p.1 lw := fun p hp=>Nat.ne_of_lt (hlt p hp)
    have hn2:∀ p ∈ own,p.1 ≠ lw := fun p hp=>hoff p hp _ (by simp)
    obtain ⟨ti,hvi⟩ := hv i (Nat.le_refl _)
    have hvi':c.vs[(0 + (i:Int)).toNat]? = some (.str (c.W i) ti) := by simpa using hvi
    rotate_left)
  k_with "binaryOp FloorDiv int int" => k_dflt (refine floordiv_int (pw48 hi9).1 ?_ (Or.inl (PyProof.noPylong_of_log2 (by have := (pw48 hi9).2;exact (nUpLt (nLt1 this) rfl)))))
  k_with "^subscriptTail Name" => k_dflt (refine item_listL (News.isList (by k_asm) (by k_mem)) (by exact (iDn (Int.add_le_add iLit iCast0) rfl)) (by exact (iUpLt (Int.add_le_add iLit (iCast (nLt1 hi9))) rfl)) (by with_reducible assumption) ?_ (by with_unfolding_all rfl) (by intro _;with_unfolding_all rfl))
  k_steps
  rotate_left
  · exact wk_end (by k_asm) (by k_asm) hI' (by assumption) hoff (fun z h1 h2 h3=>by simp [h1];rfl)
  rename wkInv _ _ _ _ _ _=>hJ
  obtain ⟨b0,b1,b2,b3,hnx,q1,q2,q3⟩ := wk_four hJ
  subst hnx
  exact k _ _ _ _ _ _ _ _ _ _ _ q1 q2 q3 (by assumption) (by k_asm)
end
section
example:True := by
  w_top off
  k_with_none
  k_with "a" => with_reducible assumption
  k_with "sh" => first | exact sh1 (by k_extra "a") rfl | exact sh2 (by k_extra "a") rfl | exact sh3 (by k_extra "a") rfl | exact sh4 (by k_extra "a") rfl | exact sl1 (by k_extra "a") rfl | exact sl2 (by k_extra "a") rfl | exact sl3 (by k_extra "a") rfl | omega
  k_with "omega" => first | k_extra "a" | decide | exact Int.not_le.mp (by k_extra "a") | exact Int.not_lt.mp (by k_extra "a") | exact nUp (by k_extra "a") rfl | exact iDn (by k_extra "a") rfl | exact iUp (by k_extra "a") rfl | exact iUpLt (by k_extra "a") rfl | exact iDn (Int.add_le_add iLit iCast0) rfl | exact iDn iCast0 rfl | exact nUpLt (Nat.add_le_add (by k_extra "a") (Nat.le_refl _)) rfl | exact Nat.ne_of_lt (Nat.lt_succ_self _) | exact Ne.symm (Nat.ne_of_lt (Nat.lt_succ_self _)) | exact Nat.ne_of_lt (by k_extra "a") | exact Ne.symm (Nat.ne_of_lt (by k_extra "a")) | exact Ne.symm (Int.ne_of_lt (by k_extra "a")) | exact Int.not_le.mpr (iUpLt (iCast (by k_extra "a")) rfl) | lia
  k_with "my news" => first | k_asm | (refine cb_drop (by assumption) (by (intro p9 hp9;kst_mem)))
  k_with "ctr K" => first | exact rfl | assumption
  k_with "ctr D" => ((try simp only [depth_under_make,depth_under_kw,depth_in1,depth_deeper,depth_caller]);(try dsimp only [ktrTop]);k_extra "sh")
  k_with "ctr U" => ((try simp only [units_in1,units_deeper,Around.mark_units,units_caller]);(try dsimp only [ktrTop]);k_extra "sh")
  k_with "nmx" => (with_reducible show wpAny _ _ (eval _ (envX _ _ _ _ _ _)) _ _ _)
  k_with "^eval Name" => (k_here;k_extra "nmx";name_kind "globalImplicit";name_is_builtin;k_dflt (refine nameX_B (by k_asm) (by k_asm) (by k_asm) (by k_is) (by boot_fast) (by decide) ?_ (by rfl) (by kernel_rfl!));k_whole)
  k_with "^eval Name" => (k_here;k_extra "nmx";name_kind "globalImplicit";k_dflt (refine nameX_K (by k_asm) (by k_asm) (by k_asm) (by k_is) ?_ (by rfl) (by kernel_rfl!));k_whole)
  k_with "^eval Name" => (k_here;k_extra "nmx";name_kind "local";k_dflt (refine nmL (by rfl) (by rfl) (by k_asm) (by exact rfl) ?_);k_whole)
  k_with "call type:range" => ((rename Fr _ _ _ _=>f9);(rename News _ _ _ _=>n9);k_dflt (first | refine range1_rows f9 n9 ?_ | refine range2_rows f9 n9 ?_);intro _ _ _ _ _ _ _ _ _)
  k_with "call builtin:len" => ((with_reducible show wpAny _ _ (call (Value.builtin "len") [Value.str _ _]) _ _ _);refine SBL.len (by omega) ?_)
  k_with "ws here" => first | k_extra "a" | exact WsIn.mono (by k_extra "a") (by intro p hp;kst_mem)
  k_with "ctr back" => (intro r9 h9 tk9 hr9 F9 N9;obtain ⟨t9,hr9⟩ := hr9;subst hr9;(try dsimp only);(try k_fold))
  trivial
example:True := by
  k_with "^eval Name" => (k_extra "nmx";k_dflt (refine nmL (by kernel_rfl!) (by rfl) (by k_asm) (by first | (with_reducible assumption) | exact rfl | assumption) ?_);k_whole)
  k_with "call ref" => (k_here;k_dflt (show wpAny _ _ (call (Value.ref 152) _) _ _ _);k_dflt (refine ctr_use (by k_asm) (by k_asm) (by k_asm) (by k_asm) (by k_asm) (by walk_at "ctr K") (lead_tells (by omega) (by omega) (by omega)) (by walk_at "ctr D") (by walk_at "ctr U") ?_);(intro r9 h9 tk9 hr9 F9 N9;obtain ⟨y9,t9,hr9,hY9,hZ9⟩ := hr9;subst hr9;(try dsimp only);(try k_fold)))
  k_with "call ref" => (k_here;k_dflt (show wpAny _ _ (call (Value.ref 147) _) _ _ _);k_dflt (refine sum_tells (by with_reducible assumption) (by with_reducible assumption) (by exact (by decide)) (by exact (by decide)) (by exact (by decide)) (by exact (by decide)) _ _ _ _ _ _ _ _ _ _ _ _ _ _ _ _ _ (by with_reducible assumption) (by k_asm) (by k_asm) (by k_asm) (by k_asm) (by k_asm) (by walk_at "ctr K") (by walk_at "ctr D") (by walk_at "ctr U") ?_);(intro r9 h9 tk9 hr9 F9 N9;obtain ⟨n9,t9,hr9,hY9⟩ := hr9;subst hr9;(try dsimp only);(try k_fold)))
  trivial
theorem tail_item {prog:Program} {w:World} {A:Around} {E:Value→Shared→Prop} {s:Shared} {h₀:Heap} {L l:Addr} {news:List (Addr × Obj)} {n:Nat} {a b c d:Str} {t1 t2 t3 t4:Tok} {value slice:Expr} {k:Int} {u:Tok} {Q:Value→Shared→Prop}
    (N:News h₀ L s.heap news) (hm:(l,listOf #[.str a t1,.str b t2,.str c t3,.str d t4] n) ∈ news) (h0:0 ≤ k) (h1:k < 4) (h:∀ T t,(T = a ∨ T = b ∨ T = c ∨ T = d)→Q (.str T t) s)
    (hs:subscripted slice false (.ref l) (.int k u) = operate [.ref l,.int k u] (getItem (.ref l) (.int k u)) := by with_unfolding_all rfl) (hg:∀ r,letTemporaryGo value (.ref l) r = pure () := by intro _;with_unfolding_all rfl) :
    wpAny (model prog w) A (subscriptTail value slice (.ref l) (.int k u)) Q E s := by
  have hl := News.isList N hm
  obtain rfl | rfl | rfl | rfl:k = 0 ∨ k = 1 ∨ k = 2 ∨ k = 3 := by lia
  · exact item_list hl (by exact (by decide)) (by exact (by decide)) rfl (h a t1 (.inl rfl)) hs hg
  · exact item_list hl (by exact (by decide)) (by exact (by decide)) rfl (h b t2 (.inr (.inl rfl))) hs hg
  · exact item_list hl (by exact (by decide)) (by exact (by decide)) rfl (h c t3 (.inr (.inr (.inl rfl)))) hs hg
  · exact item_list hl (by exact (by decide)) (by exact (by decide)) rfl (h d t4 (.inr (.inr (.inr rfl)))) hs hg
theorem stage4 {w:World} {mean:ExcName→Option Value} {mg mb:Str→Option Value} {dp un:Nat} {gd:Option (List Code)} {a:Addr} {cd:Value} {A₀:Around} {base h₀:Heap} {L:Addr} {m:Str→Option Value} {s:Shared} {Q:Flow→Shared→Prop} {E:Value→Shared→Prop} {rest:List Stmt} {l:Addr} {vs:List Value} {ns:List Int} {news:List (Addr × Obj)} {o2:Obj}
    (HL:base.IsList l vs.toArray) (hi:IntsAre vs ns) (hln:ns.length ≤ 63) (B:Below A₀ base [] h₀) (F:Fr h₀ L s.heap m) (X:(topT.heap_39 w.params).In h₀) (N:News h₀ L s.heap ((L + 1 + 1,o2) :: news)) (T:Top topProg LG mean mg mb h₀) (hd:dp ≤ 310) (hu:un ≤ 1000)
    (hne:∀ q ∈ news,q.1 ≠ L + 1 + 1) (d2:o2.data = .cell none) (hs:m "script" = some (.ref l))
    (k:∀ (T:Str) t o2' n tn bd tb h' tk,(T = ("x \t" : Str) ∨ T = "" ∨ T = "\n" ∨ T = "#\t ")→28 ≤ n→bd = Int.fmod (Int.fdiv n 4) 14 - 2→o2'.data = .cell (some (.str T t))→Fr h₀ L h' (fun y=>if y = "bound" then some (.int bd tb) else if y = "last" then some (.int n tn) else m y)→News h₀ L h' ((L + 1 + 1,o2') :: news)→wpAny (model PG w) (lawA dp un gd L a cd) (execs rest (lawEnv L a cd)) Q E { s with heap := h',toks := tk }) :
    wpAny (model PG w) (lawA dp un gd L a cd) (execs (lawS4 :: lawS5 :: lawS6 :: rest) (lawEnv L a cd)) Q E s := by
  intros w mean mg mb dp un gd a cd A₀ base h₀ L m s Q E rest l vs ns news o2 _ HL hi hln B F X N T hd hu hne d2 hs k
  revert X;unfold PG;k_fill;intro X
  unfold PG at k
  k_with "^subscriptTail" => (k_here;(fail_if_success (with_reducible show wpAny _ _ (subscriptTail (PySem.Expr.Name _ _) _ _ _) _ _ _));k_dflt (refine kba_turn (value' := PySem.Expr.Name (PySem.Str.ofString "_") ⟨0,0,0,0⟩) (fun _=>rfl) ?_))
  k_with "^subscriptTail Name" => k_dflt (
    refine tail_item (by k_asm) (by k_mem) (Int.fmod_nonneg_of_pos _ (by decide)) (Int.fmod_lt_of_pos _ (by decide)) ?_
    intro T9 t9 hT9)
  k_steps
  exact k _ _ _ _ _ _ _ _ _ hT9 (by with_reducible assumption) rfl (by assumption) (by k_asm) (cb_drop (by k_asm) (fun q hq=>.tail _ hq))
end
section
example:True := by
  w_top off
  k_with_none
  k_with "a" => with_reducible assumption
  k_with "sh" => first | exact sh1 (by k_extra "a") rfl | exact sh2 (by k_extra "a") rfl | exact sh3 (by k_extra "a") rfl | exact sh4 (by k_extra "a") rfl | exact sl1 (by k_extra "a") rfl | exact sl2 (by k_extra "a") rfl | exact sl3 (by k_extra "a") rfl | omega
  k_with "omega" => first | k_extra "a" | decide | exact Int.not_le.mp (by k_extra "a") | exact Int.not_lt.mp (by k_extra "a") | exact nUp (by k_extra "a") rfl | exact iDn (by k_extra "a") rfl | exact iUp (by k_extra "a") rfl | exact iUpLt (by k_extra "a") rfl | exact iDn (Int.add_le_add iLit iCast0) rfl | exact iDn iCast0 rfl | exact nUpLt (Nat.add_le_add (by k_extra "a") (Nat.le_refl _)) rfl | exact Nat.ne_of_lt (Nat.lt_succ_self _) | exact Ne.symm (Nat.ne_of_lt (Nat.lt_succ_self _)) | exact Nat.ne_of_lt (by k_extra "a") | exact Ne.symm (Nat.ne_of_lt (by k_extra "a")) | exact Ne.symm (Int.ne_of_lt (by k_extra "a")) | exact Int.not_le.mpr (iUpLt (iCast (by k_extra "a")) rfl) | lia
  k_with "my news" => first | k_asm | (refine cb_drop (by assumption) (by (intro p9 hp9;kst_mem)))
  k_with "ctr K" => first | exact rfl | assumption
  k_with "ctr D" => ((try simp only [depth_under_make,depth_under_kw,depth_in1,depth_deeper,depth_caller]);(try dsimp only [ktrTop]);k_extra "sh")
  k_with "ctr U" => ((try simp only [units_in1,units_deeper,Around.mark_units,units_caller]);(try dsimp only [ktrTop]);k_extra "sh")
  k_with "nmx" => (with_reducible show wpAny _ _ (eval _ (envX _ _ _ _ _ _)) _ _ _)
  k_with "^eval Name" => (k_here;k_extra "nmx";name_kind "globalImplicit";name_is_builtin;k_dflt (refine nameX_B (by k_asm) (by k_asm) (by k_asm) (by k_is) (by boot_fast) (by decide) ?_ (by rfl) (by kernel_rfl!));k_whole)
  k_with "^eval Name" => (k_here;k_extra "nmx";name_kind "globalImplicit";k_dflt (refine nameX_K (by k_asm) (by k_asm) (by k_asm) (by k_is) ?_ (by rfl) (by kernel_rfl!));k_whole)
  k_with "^eval Name" => (k_here;k_extra "nmx";name_kind "local";k_dflt (refine nmL (by rfl) (by rfl) (by k_asm) (by exact rfl) ?_);k_whole)
  k_with "call type:range" => ((rename Fr _ _ _ _=>f9);(rename News _ _ _ _=>n9);k_dflt (first | refine range1_rows f9 n9 ?_ | refine range2_rows f9 n9 ?_);intro _ _ _ _ _ _ _ _ _)
  k_with "call builtin:len" => ((with_reducible show wpAny _ _ (call (Value.builtin "len") [Value.str _ _]) _ _ _);refine SBL.len (by omega) ?_)
  k_with "ws here" => first | k_extra "a" | exact WsIn.mono (by k_extra "a") (by intro p hp;kst_mem)
  k_with "ctr back" => (intro r9 h9 tk9 hr9 F9 N9;obtain ⟨t9,hr9⟩ := hr9;subst hr9;(try dsimp only);(try k_fold))
  trivial
theorem WsIn.ref {w:World} {news:List (Addr × Obj)} {v:Value} {st:WS} (h:WsIn w news v st):∃ x,v = .ref x := by
  obtain ⟨x,d,tp,tc,raw,k1,k2,k3,k4,k5,tr,t2,t3,t4,vs,h,_⟩ := h
  exact ⟨x,h⟩
noncomputable def TailOk (T:Str):Prop := (∀ c,(tx T).head? = some c→c ≠ 32 ∧ c ≠ 9) ∧ T.length ≤ 3
theorem tail_ok {T:Str} (h:T = ("x \t" : Str) ∨ T = "" ∨ T = "\n" ∨ T = "#\t "):TailOk T := by
  rcases h with rfl | rfl | rfl | rfl
  · exact ⟨by intro c hc;have e:tx ("x \t" : Str) = [120,32,9] := by decide +kernel
              rw [e] at hc;simp at hc;exact ⟨(Ne.symm (Nat.ne_of_lt (nDnLt (Nat.le_of_eq hc) rfl))),(Ne.symm (Nat.ne_of_lt (nDnLt (Nat.le_of_eq hc) rfl)))⟩,by decide +kernel⟩
  · exact ⟨by intro c hc;have e:tx ("" : Str) = [] := by decide +kernel
              rw [e] at hc;simp at hc,by decide +kernel⟩
  · exact ⟨by intro c hc;have e:tx ("\n" : Str) = [10] := by decide +kernel
              rw [e] at hc;simp at hc;exact ⟨(Nat.ne_of_lt (nUpLt (Nat.le_of_eq (Eq.symm hc)) rfl)),(Ne.symm (Nat.ne_of_lt (nDnLt (Nat.le_of_eq hc) rfl)))⟩,by decide +kernel⟩
  · exact ⟨by intro c hc;have e:tx ("#\t " : Str) = [35,9,32] := by decide +kernel
              rw [e] at hc;simp at hc;exact ⟨(Ne.symm (Nat.ne_of_lt (nDnLt (Nat.le_of_eq hc) rfl))),(Ne.symm (Nat.ne_of_lt (nDnLt (Nat.le_of_eq hc) rfl)))⟩,by decide +kernel⟩
example:True := by
  k_with "^eval Name" => (k_extra "nmx";k_dflt (refine nmL (by kernel_rfl!) (by rfl) (by k_asm) (by first | (with_reducible assumption) | exact rfl | assumption) ?_);k_whole)
  k_with "^eval Name" => (k_extra "nmx";k_dflt (refine nmC (by kernel_rfl!) (by rfl) (by k_asm) (by rfl) (by with_reducible assumption) (by with_reducible assumption) ?_);k_whole)
  trivial
theorem stage7 {w:World} {mean:ExcName→Option Value} {mg mb:Str→Option Value} {dp un:Nat} {gd:Option (List Code)} {a:Addr} {cd:Value} {A₀:Around} {base h₀:Heap} {L:Addr} {m:Str→Option Value} {s:Shared} {Q:Flow→Shared→Prop} {E:Value→Shared→Prop} {rest:List Stmt} {news:List (Addr × Obj)} {oU oT:Obj} {U T:Str} {tU tT:Tok}
    (hU:IsLead U) (hU5:(U.length:Int) ≤ 5) (hT:TailOk T) (B:Below A₀ base [] h₀) (F:Fr h₀ L s.heap m) (X:(topT.heap_39 w.params).In h₀) (N:News h₀ L s.heap news) (TT:Top topProg LG mean mg mb h₀) (hd:dp ≤ 310) (hu:un ≤ 1000)
    (cU:(L + 1,oU) ∈ news) (dU:oU.data = .cell (some (.str U tU))) (cT:(L + 1 + 1,oT) ∈ news) (dT:oT.data = .cell (some (.str T tT)))
    (k:∀ x tl h' tk,WsIn w tl (.ref x) (wsOf (tx U))→Fresh tl news→Fr h₀ L h' (fun y=>if y = "above" then some (.ref x) else m y)→News h₀ L h' (tl ++ news)→wpAny (model PG w) (lawA dp un gd L a cd) (execs rest (lawEnv L a cd)) Q E { s with heap := h',toks := tk }) :
    wpAny (model PG w) (lawA dp un gd L a cd) (execs (lawS7 :: rest) (lawEnv L a cd)) Q E s := by
  intros w mean mg mb dp un gd a cd A₀ base h₀ L m s Q E rest news oU oT U T tU tT _ hU hU5 hT B F X N TT hd hu cU dU cT dT k
  revert X;unfold PG;k_fill;intro X
  unfold PG at k
  have hsz:U.length + T.length ≤ sizeLine := by have := hT.2;unfold sizeLine;exact (nUp (Nat.add_le_add (nOfI hU5) this) rfl)
  have hraw:tx (U ++ T) = tx U ++ tx T := tx_app U T
  generalize hR:U ++ T = R at *
  k_with "^binaryOp Add str str" => k_dflt (
    refine add_str (fun t8 k8=>?_) hsz
    rw [hR])
  k_with "call ref" => k_dflt (
    with_reducible show wpAny _ _ (call (Value.ref 117) _) _ _ _
    refine ctrO_use (by k_asm) (by k_asm) (by k_asm) (by k_asm) (by k_asm) (by walk_at "ctr K") (ws_tells hraw hU hT.1 (by rw [tx_len];exact (nUp (nOfI hU5) rfl))) (by walk_at "ctr D") (by walk_at "ctr U") ?_
    intro r9 tl9 h9 tk9 hW9 hf9 F9 N9
    obtain ⟨x9,rfl⟩ := hW9.ref)
  k_steps
  exact k _ _ _ _ hW9 hf9 (by k_asm) (by k_asm)
end
section
example:True := by
  w_top off
  k_with_none
  k_with "a" => with_reducible assumption
  k_with "sh" => first | exact sh1 (by k_extra "a") rfl | exact sh2 (by k_extra "a") rfl | exact sh3 (by k_extra "a") rfl | exact sh4 (by k_extra "a") rfl | exact sl1 (by k_extra "a") rfl | exact sl2 (by k_extra "a") rfl | exact sl3 (by k_extra "a") rfl | omega
  k_with "omega" => first | k_extra "a" | decide | exact Int.not_le.mp (by k_extra "a") | exact Int.not_lt.mp (by k_extra "a") | exact nUp (by k_extra "a") rfl | exact iDn (by k_extra "a") rfl | exact iUp (by k_extra "a") rfl | exact iUpLt (by k_extra "a") rfl | exact iDn (Int.add_le_add iLit iCast0) rfl | exact iDn iCast0 rfl | exact nUpLt (Nat.add_le_add (by k_extra "a") (Nat.le_refl _)) rfl | exact Nat.ne_of_lt (Nat.lt_succ_self _) | exact Ne.symm (Nat.ne_of_lt (Nat.lt_succ_self _)) | exact Nat.ne_of_lt (by k_extra "a") | exact Ne.symm (Nat.ne_of_lt (by k_extra "a")) | exact Ne.symm (Int.ne_of_lt (by k_extra "a")) | exact Int.not_le.mpr (iUpLt (iCast (by k_extra "a")) rfl) | lia
  k_with "my news" => first | k_asm | (refine cb_drop (by assumption) (by (intro p9 hp9;kst_mem)))
  k_with "ctr K" => first | exact rfl | assumption
  k_with "ctr D" => ((try simp only [depth_under_make,depth_under_kw,depth_in1,depth_deeper,depth_caller]);(try dsimp only [ktrTop]);k_extra "sh")
  k_with "ctr U" => ((try simp only [units_in1,units_deeper,Around.mark_units,units_caller]);(try dsimp only [ktrTop]);k_extra "sh")
  k_with "nmx" => (with_reducible show wpAny _ _ (eval _ (envX _ _ _ _ _ _)) _ _ _)
  k_with "^eval Name" => (k_here;k_extra "nmx";name_kind "globalImplicit";name_is_builtin;k_dflt (refine nameX_B (by k_asm) (by k_asm) (by k_asm) (by k_is) (by boot_fast) (by decide) ?_ (by rfl) (by kernel_rfl!));k_whole)
  k_with "^eval Name" => (k_here;k_extra "nmx";name_kind "globalImplicit";k_dflt (refine nameX_K (by k_asm) (by k_asm) (by k_asm) (by k_is) ?_ (by rfl) (by kernel_rfl!));k_whole)
  k_with "^eval Name" => (k_here;k_extra "nmx";name_kind "local";k_dflt (refine nmL (by rfl) (by rfl) (by k_asm) (by exact rfl) ?_);k_whole)
  k_with "call type:range" => ((rename Fr _ _ _ _=>f9);(rename News _ _ _ _=>n9);k_dflt (first | refine range1_rows f9 n9 ?_ | refine range2_rows f9 n9 ?_);intro _ _ _ _ _ _ _ _ _)
  k_with "call builtin:len" => ((with_reducible show wpAny _ _ (call (Value.builtin "len") [Value.str _ _]) _ _ _);refine SBL.len (by omega) ?_)
  k_with "ws here" => first | k_extra "a" | exact WsIn.mono (by k_extra "a") (by intro p hp;kst_mem)
  k_with "ctr back" => (intro r9 h9 tk9 hr9 F9 N9;obtain ⟨t9,hr9⟩ := hr9;subst hr9;(try dsimp only);(try k_fold))
  trivial
inductive TEndK (h₀:Heap) (L:Addr) (m:Str→Option Value) (s:Shared) (all:List (Addr × Obj)) (Y:List (Addr × Obj)→Value→Prop) (y:Value) (s':Shared):Prop
  | con (h':_) (tk':_) (add:_)
      (q1:s' = { s with heap := h',toks := tk' })
      (q2:Fr h₀ L h' m)
      (q3:News h₀ L h' (add ++ all))
      (q4:Fresh add all)
      (q5:Y add y):TEndK h₀ L m s all Y y s'
theorem TEndK.intro {h₀:Heap} {L:Addr} {m:Str→Option Value} {s:Shared} {all add:List (Addr × Obj)} {Y:List (Addr × Obj)→Value→Prop} {y:Value} {h':Heap} {tk':Nat} (F:Fr h₀ L h' m) (N:News h₀ L h' (add ++ all)) (h:Fresh add all) (hy:Y add y):TEndK h₀ L m s all Y y { s with heap := h',toks := tk' } :=
  ⟨h',tk',add,rfl,F,N,h,hy⟩
section
variable {prog:Program} {w:World} {A:Around} {h₀:Heap} {L:Addr} {m:Str→Option Value} {env:Env} {elt:Expr} {x:Str} {scope:Scope} {cl:List (Str × Addr)} {s:Shared} {S:List (Addr × Obj)→Prop} {P:Nat→Value→Prop} {Fin:List Value→List (Addr × Obj)→Prop} {news:List (Addr × Obj)}
theorem lc_keep {n:Nat} (Y:Nat→List (Addr × Obj)→Value→Prop) (hm:∀ i tl tl' v,Y i tl v→(∀ p ∈ tl,p ∈ tl')→Y i tl' v) (hS:∀ tl,S (tl ++ news))
    (turn:∀ i v I oI C oC D m₂ ys tl h tk (E':Value→Shared→Prop),i < n→P i v→LCg.NsObj oC m₂→m₂ x = some v→Fr h₀ L h m→News h₀ L h ((I,oI) :: (C,oC) :: (D,LCg.lst ys) :: (tl ++ news))→LCg.Off3 I C D (tl ++ news)→((@Ne Nat I C) ∧ (@Ne Nat I D) ∧ (@Ne Nat C D)) →
      wpAny (model prog w) A (eval elt (compEnvC scope cl C env)) (TEndK h₀ L m { s with heap := h,toks := tk } ((I,oI) :: (C,oC) :: (D,LCg.lst ys) :: (tl ++ news)) (Y i)) E' { s with heap := h,toks := tk })
    (fin:∀ ys tl,ys.length = n→(∀ i y,ys[i]? = some y→Y i tl y)→Fresh tl news→Fin ys (tl ++ news)):LCg.CompRest prog w A h₀ L m env elt x scope cl s S P Fin n 0 [] news := by
  have key:∀ (j i:Nat) (ys:List Value) (tl:List (Addr × Obj)),i + j = n→ys.length = i→(∀ i y,ys[i]? = some y→Y i tl y)→Fresh tl news→LCg.CompRest prog w A h₀ L m env elt x scope cl s S P Fin j i ys (tl ++ news) := by
    intro j
    induction j with
    | zero =>
      intro i ys tl hi hl hd hf
      exact LCg.CompRest.zero (fin ys tl (Nat.le_antisymm (bC (fk30 (Z8 V0 V1 (Z8 (La V1 K0) V2 (Z10 V0 V2 Lf))) rfl hl hi)) (bC (fk30 (Z9 V0 V1 (Z9 (La V1 K0) V2 (Z10 V2 V0 Lf))) rfl hl hi))) hd hf)
    | succ j ih =>
      intro i ys tl hi hl hd hf
      refine LCg.CompRest.succ ?_
      intro v I oI C oC D m₂ h tk E' hv hC hx F N off ne
      refine wpAny_mono (turn i v I oI C oC D m₂ ys tl h tk E' (bC (fk30 (Z8 (La V0 (La V1 K1)) V2 (Z12 V1 (Z11 V0 V2 Lf))) rfl hi trivial)) hv hC hx F N off ne) (fun y s₂ hq=>?_) fun _ _ e=>e
      obtain ⟨h',tk',add,e,F',N',ho,hY⟩ := hq
      have off3 := off.mem
      refine ⟨h',tk',(add ++ tl) ++ news,e,F',fun p hp=>N' p ?_,LCg.Off3.of fun p hp=>?_,hS _,ih (i + 1) _ (add ++ tl) (Nat.le_antisymm (bC (fk30 (Z8 (La V0 (La V1 K1)) V2 (Z10 (La (La V0 K1) V1) V2 Lf)) rfl hi)) (bC (fk30 (Z9 (La V0 (La V1 K1)) V2 (Z10 V2 (La (La V0 K1) V1) Lf)) rfl hi))) (by simp [hl]) ?_ ?_⟩
      · simp only [List.mem_cons,List.mem_append] at hp ⊢
        rcases hp with h | h | h | (h | h) | h <;> simp [h]
      · rw [List.append_assoc] at hp
        rcases List.mem_append.mp hp with hp | hp
        · exact ⟨Ne.symm (ho p hp _ (.head _)),Ne.symm (ho p hp _ (.tail _ (.head _))),Ne.symm (ho p hp _ (.tail _ (.tail _ (.head _))))⟩
        · exact off3 p hp
      · intro k z hz
        rw [List.getElem?_append] at hz
        split at hz
        · exact hm _ _ _ _ (hd k z hz) fun p hp=>List.mem_append_right _ hp
        · rename_i hk
          have hk2:k = i := by
            have := (List.getElem?_eq_some_iff.mp hz).1
            simp at this;exact Nat.le_antisymm (bC (fk40 (Z8 V0 K0 (Z8 V1 V2 (Z9 (La V0 V1) V3 (Z10 V3 V2 Lf)))) rfl this hl (sC (bC (fk20 (Z11 V0 V1 (Z10 V1 V0 Lf)) rfl hk))))) (bC (fk30 (Z11 V0 V1 (Z9 V1 V2 (Z10 V2 V0 Lf))) rfl hk hl))
          subst hk2
          simp [hl] at hz
          subst hz
          exact hm _ _ _ _ hY fun p hp=>List.mem_append_left _ hp
      · exact fresh_app (fun p hp q hq=>ho p hp q (.tail _ (.tail _ (.tail _ (List.mem_append_right _ hq))))) hf
  exact key n 0 [] [] (Nat.le_antisymm (bC (fk10 (Z10 (La K0 V0) V0 Lf) rfl)) (bC (fk10 (Z10 V0 (La K0 V0) Lf) rfl))) rfl (by intro i y h;simp at h) fresh_nil
end
theorem four_at {a b c d:Value} {i:Nat} {v:Value} (h:[a,b,c,d][i]? = some v):(i = 0 ∧ v = a) ∨ (i = 1 ∧ v = b) ∨ (i = 2 ∧ v = c) ∨ (i = 3 ∧ v = d) := by
  rcases i with _ | _ | _ | _ | i
  · exact .inl ⟨rfl,(Option.some.inj h).symm⟩
  · exact .inr (.inl ⟨rfl,(Option.some.inj h).symm⟩)
  · exact .inr (.inr (.inl ⟨rfl,(Option.some.inj h).symm⟩))
  · exact .inr (.inr (.inr ⟨rfl,(Option.some.inj h).symm⟩))
  · simp at h
theorem lead_item {W:Nat→Str} {t0 t1 t2 t3:Tok} {i:Nat} {v:Value} (h:(#[.str (W 0) t0,.str (W 1) t1,.str (W 2) t2,.str (W 3) t3]:Array Value)[i]? = some v):i < 4 ∧ ∃ t,v = .str (W i) t := by
  have h':[Value.str (W 0) t0,.str (W 1) t1,.str (W 2) t2,.str (W 3) t3][i]? = some v := by simpa using h
  rcases four_at h' with ⟨rfl,rfl⟩ | ⟨rfl,rfl⟩ | ⟨rfl,rfl⟩ | ⟨rfl,rfl⟩
  · exact ⟨by exact (by decide),_,rfl⟩
  · exact ⟨by exact (by decide),_,rfl⟩
  · exact ⟨by exact (by decide),_,rfl⟩
  · exact ⟨by exact (by decide),_,rfl⟩
structure Leads (W:Nat→Str):Prop where
  sg:∀ i,i < 4→IsLead (W i)
  ln:∀ i,i < 4→(W i).length ≤ 7
example:True := by
  k_with "^eval Name" => (k_extra "nmx";k_dflt (refine nmL (by kernel_rfl!) (by rfl) (by k_asm) (by first | (with_reducible assumption) | exact rfl | assumption) ?_);k_whole)
  k_with "^eval Name" => (k_extra "nmx";k_dflt (refine nmC (by kernel_rfl!) (by rfl) (by k_asm) (by rfl) (by with_reducible assumption) (by with_reducible assumption) ?_);k_whole)
  k_with "exec Assign cons ListComp" => (k_here;k_dflt (refine LCg.Assign_ListComp_U (F₀ := by k_asm) (by rfl) (by with_unfolding_all rfl) (by with_unfolding_all rfl) (by decide) (by rfl) (by decide) (by rfl) (by rfl) (by rfl) ?_))
  trivial
theorem stage8 {w:World} {mean:ExcName→Option Value} {mg mb:Str→Option Value} {dp un:Nat} {gd:Option (List Code)} {a:Addr} {cd:Value} {A₀:Around} {base h₀:Heap} {L:Addr} {m:Str→Option Value} {s:Shared} {Q:Flow→Shared→Prop} {E:Value→Shared→Prop} {rest:List Stmt} {news:List (Addr × Obj)} {oT:Obj} {T:Str} {tT:Tok}
    {W:Nat→Str} {t0 t1 t2 t3:Tok} {lw:Addr} {nw:Nat} (hW:Leads W)
    (hT:TailOk T) (B:Below A₀ base [] h₀) (F:Fr h₀ L s.heap m) (X:(topT.heap_39 w.params).In h₀) (N:News h₀ L s.heap news) (TT:Top topProg LG mean mg mb h₀) (hd:dp ≤ 310) (hu:un ≤ 1000)
    (cT:(L + 1 + 1,oT) ∈ news) (dT:oT.data = .cell (some (.str T tT))) (hl:(lw,listOf #[.str (W 0) t0,.str (W 1) t1,.str (W 2) t2,.str (W 3) t3] nw) ∈ news) (hw:m "walk" = some (.ref lw))
    (k:∀ lp (ys:List Value) nn tl h' tk,ys.length = 4→(∀ (i:Nat) y,ys[i]? = some y→WsIn w tl y (wsOf (tx (W i))))→Fresh tl news→Fr h₀ L h' (fun y=>if y = "page" then some (.ref lp) else m y)→News h₀ L h' ((lp,listOf ys.toArray nn) :: (tl ++ news))→wpAny (model PG w) (lawA dp un gd L a cd) (execs rest (lawEnv L a cd)) Q E { s with heap := h',toks := tk }) :
    wpAny (model PG w) (lawA dp un gd L a cd) (execs (lawS8 :: rest) (lawEnv L a cd)) Q E s := by
  intros w mean mg mb dp un gd a cd A₀ base h₀ L m s Q E rest news oT T tT W t0 t1 t2 t3 lw nw _ hW hT B F X N TT hd hu cT dT hl hw k
  revert X;unfold PG;k_fill;intro X
  unfold PG at k
  k_with "CompSrc" => k_dflt (
    refine LCg.CompSrc.ledger (by rfl) (by k_asm) (by k_asm) hl (by size_fits) ?_
    intro g'
    refine lc_keep (fun i tl y=>WsIn w tl y (wsOf (tx (W i)))) (fun i tl tl' v h hs=>h.mono hs) (fun tl=>.inr ⟨_,List.mem_append_right _ hl,rfl,_,rfl⟩) ?_ ?_
    intro i v I oI C oC D m₂ ys tl9 h tk E' hi' hv hC hx F' N' off ne
    obtain ⟨hi4,t9,hv9⟩ := lead_item hv
    subst hv9
    have sg := hW.sg i hi4
    have ln := hW.ln i hi4
    have hsz:(W i).length + T.length ≤ sizeLine := by have := hT.2;unfold sizeLine;exact (nUp (Nat.add_le_add ln this) rfl)
    have hraw:tx (W i ++ T) = tx (W i) ++ tx T := tx_app _ T
    have cT':(L + 1 + 1,oT) ∈ tl9 ++ news := List.mem_append_right _ cT
    generalize hR:W i ++ T = R at *
    rotate_left
    intro ys tl9 hy1 hy2 hf9
    rotate_right)
  k_with "^binaryOp Add str str" => k_dflt (
    refine add_str (fun t8 k8=>?_) hsz
    rw [hR])
  k_with "call ref" => k_dflt (
    with_reducible show wpAny _ _ (call (Value.ref 117) _) _ _ _
    refine ctrO_use (by k_asm) (by k_asm) (by k_asm) (by k_asm) (by k_asm) (by walk_at "ctr K") (ws_tells hraw sg hT.1 (by rw [tx_len];exact (nUp ln rfl))) (by walk_at "ctr D") (by walk_at "ctr U") ?_
    intro r9 tlr9 h9 tk9 hW9 hf9 F9 N9)
  k_steps
  · exact TEndK.intro (by k_asm) (by k_asm) hf9 hW9
  · exact k _ _ _ _ _ _ (by simpa using hy1) hy2 hf9 (by k_asm) (by k_asm)
end
section
example:True := by
  w_top off
  k_with_none
  k_with "a" => with_reducible assumption
  k_with "sh" => first | exact sh1 (by k_extra "a") rfl | exact sh2 (by k_extra "a") rfl | exact sh3 (by k_extra "a") rfl | exact sh4 (by k_extra "a") rfl | exact sl1 (by k_extra "a") rfl | exact sl2 (by k_extra "a") rfl | exact sl3 (by k_extra "a") rfl | omega
  k_with "omega" => first | k_extra "a" | decide | exact Int.not_le.mp (by k_extra "a") | exact Int.not_lt.mp (by k_extra "a") | exact nUp (by k_extra "a") rfl | exact iDn (by k_extra "a") rfl | exact iUp (by k_extra "a") rfl | exact iUpLt (by k_extra "a") rfl | exact iDn (Int.add_le_add iLit iCast0) rfl | exact iDn iCast0 rfl | exact nUpLt (Nat.add_le_add (by k_extra "a") (Nat.le_refl _)) rfl | exact Nat.ne_of_lt (Nat.lt_succ_self _) | exact Ne.symm (Nat.ne_of_lt (Nat.lt_succ_self _)) | exact Nat.ne_of_lt (by k_extra "a") | exact Ne.symm (Nat.ne_of_lt (by k_extra "a")) | exact Ne.symm (Int.ne_of_lt (by k_extra "a")) | exact Int.not_le.mpr (iUpLt (iCast (by k_extra "a")) rfl) | lia
  k_with "my news" => first | k_asm | (refine cb_drop (by assumption) (by (intro p9 hp9;kst_mem)))
  k_with "ctr K" => first | exact rfl | assumption
  k_with "ctr D" => ((try simp only [depth_under_make,depth_under_kw,depth_in1,depth_deeper,depth_caller]);(try dsimp only [ktrTop]);k_extra "sh")
  k_with "ctr U" => ((try simp only [units_in1,units_deeper,Around.mark_units,units_caller]);(try dsimp only [ktrTop]);k_extra "sh")
  k_with "nmx" => (with_reducible show wpAny _ _ (eval _ (envX _ _ _ _ _ _)) _ _ _)
  k_with "^eval Name" => (k_here;k_extra "nmx";name_kind "globalImplicit";name_is_builtin;k_dflt (refine nameX_B (by k_asm) (by k_asm) (by k_asm) (by k_is) (by boot_fast) (by decide) ?_ (by rfl) (by kernel_rfl!));k_whole)
  k_with "^eval Name" => (k_here;k_extra "nmx";name_kind "globalImplicit";k_dflt (refine nameX_K (by k_asm) (by k_asm) (by k_asm) (by k_is) ?_ (by rfl) (by kernel_rfl!));k_whole)
  k_with "^eval Name" => (k_here;k_extra "nmx";name_kind "local";k_dflt (refine nmL (by rfl) (by rfl) (by k_asm) (by exact rfl) ?_);k_whole)
  k_with "call type:range" => ((rename Fr _ _ _ _=>f9);(rename News _ _ _ _=>n9);k_dflt (first | refine range1_rows f9 n9 ?_ | refine range2_rows f9 n9 ?_);intro _ _ _ _ _ _ _ _ _)
  k_with "call builtin:len" => ((with_reducible show wpAny _ _ (call (Value.builtin "len") [Value.str _ _]) _ _ _);refine SBL.len (by omega) ?_)
  k_with "ws here" => first | k_extra "a" | exact WsIn.mono (by k_extra "a") (by intro p hp;kst_mem)
  k_with "ctr back" => (intro r9 h9 tk9 hr9 F9 N9;obtain ⟨t9,hr9⟩ := hr9;subst hr9;(try dsimp only);(try k_fold))
  trivial
noncomputable def Picked (T:Nat→Prop) (Y:Nat→Value→Prop):Nat→List Value→Prop
  | 0,ys=>ys = []
  | i + 1,ys=>(¬ T i ∧ Picked T Y i ys) ∨ (T i ∧ ∃ ys' y,ys = ys' ++ [y] ∧ Picked T Y i ys' ∧ Y i y)
theorem picked_len {T:Nat→Prop} {Y:Nat→Value→Prop}:∀ {n:Nat} {ys:List Value},Picked T Y n ys→ys.length ≤ n
  | 0,_,h=>by rw [show _ = [] from h];exact Nat.le_refl _
  | n + 1,ys,h=>by
    rcases h with ⟨_,h⟩ | ⟨_,ys',y,rfl,h,_⟩
    · have := picked_len h;exact (Nat.le_trans this (Nat.le_add_right _ _))
    · have := picked_len h
      rw [List.length_append,List.length_singleton];exact (Nat.succ_le_of_lt (Nat.lt_succ_of_le this))
inductive RowV (news:List (Addr × Obj)) (v:Value) (a b c:Int):Prop
  | con (t:Addr) (k:Nat) (t1 t2 t3:Tok)
      (q1:v = .ref t)
      (q2:(t,({ cls := .type "tuple",data := .seq #[.int a t1,.int b t2,.int c t3] k }:Obj)) ∈ news):RowV news v a b c
noncomputable abbrev ifsRun (prog:Program) (w:World) (ifs:List Expr) (env:Env):Sem Bool := forIn ifs true fun c r=>if r = true then do let ok ← isTrue c env (eval c env);pure (ForInStep.yield ok) else pure (ForInStep.yield r)
section
variable {prog:Program} {w:World} {A:Around} {E:Value→Shared→Prop} {R:Result→Shared→Prop} {s:Shared}
theorem loop_l3 {elt iter:Expr} {elts:List Expr} {x1} {tp:Pos} {ifs:List Expr} {scope:Scope} {pos:Pos} {it acc:Value} {env:Env} (I:Nat→Shared→Prop)
    (turn:∀ n s,I n s→wpAny (model prog w) A (pyNext it) (fun r s₁=>match r with
      | none=>R (.ok .next) s₁
      | some v=>wpAny (model prog w) A (letOwnedTupleGo (.Tuple elts x1 tp) it v) (fun _ s₁'=>wpAny (model prog w) A (assign (.Tuple elts x1 tp) env v) (fun _ s₂ =>
          wpAny (model prog w) A (forIn ifs true fun c r=>if r = true then do let ok ← isTrue c env (eval c env);pure (ForInStep.yield ok) else pure (ForInStep.yield r)) (fun ok s₃ =>
            if ok = true then wpAny (model prog w) A (eval elt env) (fun x s₄ =>
              wpAny (model prog w) A (call (.builtin "list.append") [acc,x]) (fun _ s₅=>∃ m,m < n ∧ I m s₅) (notedBy (model prog w) A env fun e s'=>R (.error e) s') s₄) (notedBy (model prog w) A env fun e s'=>R (.error e) s') s₃
            else ∃ m,m < n ∧ I m s₃) (notedBy (model prog w) A env fun e s'=>R (.error e) s') s₂) (notedBy (model prog w) A env fun e s'=>R (.error e) s') s₁') (notedBy (model prog w) A env fun e s'=>R (.error e) s') s₁) (notedBy (model prog w) A env fun e s'=>R (.error e) s') s)
    (n:Nat) (h:I n s):codeAny (model prog w) A (.compLoop (.ListComp elt [⟨.Tuple elts x1 tp,iter,ifs,0⟩] scope pos) 0 it acc env) R s := by
  refine codeAny_loop rfl I (fun n s hI=>?_) n h
  show wpAny _ A ((compTurn (.ListComp elt [⟨.Tuple elts x1 tp,iter,ifs,0⟩] scope pos) 0 it acc env).onRaise (fun x=>do noteFrame x env;theTreesLotGoes x)) _ _ s
  refine wpAny_noted ?_
  rw [compTurn_list]
  refine wpAny_bind (wpAny_standAt (wpAny_bind (wpAny_mono (turn n s hI) (fun r s₁ h₁=>?_) fun _ _ h'=>h')))
  cases r with
  | none=>exact wpAny_pure h₁
  | some v =>
    refine wpAny_bind (wpAny_mono h₁ (fun _ s₁' h₁'=>?_) fun _ _ h'=>h')
    refine wpAny_bind (wpAny_mono h₁' (fun _ s₂ h₂=>wpAny_bind (wpAny_mono h₂ (fun ok s₃ h₃=>?_) fun _ _ h'=>h')) fun _ _ h'=>h')
    cases ok with
    | false=>exact wpAny_pure ⟨rfl,h₃⟩
    | true=>exact wpAny_bind (wpAny_bind (wpAny_mono h₃ (fun x s₄ h₄=>wpAny_bind (wpAny_mono h₄ (fun _ s₅ h₅=>wpAny_pure (wpAny_pure ⟨rfl,h₅⟩)) fun _ _ h'=>h')) fun _ _ h'=>h'))
end
section
variable {prog:Program} {w:World} {A:Around} {E:Value→Shared→Prop} {s:Shared} {h₀:Heap} {L:Addr} {m:Str→Option Value} {env:Env}
noncomputable def Turns3 (prog:Program) (w:World) (A:Around) (h₀:Heap) (L:Addr) (m:Str→Option Value) (env:Env) (elt:Expr) (ifs:List Expr) (x₁ x₂ x₃:Str) (scope:Scope) (cl:List (Str × Addr)) (news:List (Addr × Obj)) (n:Nat) (a b c:Nat→Int) (T:Nat→Prop) (Y:Nat→Value→Prop) (s₂:Shared):Prop :=
  (∀ i t1 t2 t3 I oI C oC D oD m₂ h tk (E':Value→Shared→Prop),i < n→LCg.NsObj oC m₂→m₂ x₁ = some (.int (a i) t1)→m₂ x₂ = some (.int (b i) t2)→m₂ x₃ = some (.int (c i) t3)→Fr h₀ L h m→News h₀ L h ((I,oI) :: (C,oC) :: (D,oD) :: news)→LCg.Off3 I C D news→((@Ne Nat I C) ∧ (@Ne Nat I D) ∧ (@Ne Nat C D)) →
    wpAny (model prog w) A (forIn ifs true fun c r=>if r = true then do let ok ← isTrue c (compEnvC scope cl C env) (eval c (compEnvC scope cl C env));pure (ForInStep.yield ok) else pure (ForInStep.yield r))
      (TestE h₀ L m { s₂ with heap := h,toks := tk } ((I,oI) :: (C,oC) :: (D,oD) :: news) (T i)) E' { s₂ with heap := h,toks := tk }) ∧
  (∀ i t1 t2 t3 I oI C oC D oD m₂ h tk (E':Value→Shared→Prop),i < n→T i→LCg.NsObj oC m₂→m₂ x₁ = some (.int (a i) t1)→m₂ x₂ = some (.int (b i) t2)→m₂ x₃ = some (.int (c i) t3)→Fr h₀ L h m→News h₀ L h ((I,oI) :: (C,oC) :: (D,oD) :: news)→LCg.Off3 I C D news→((@Ne Nat I C) ∧ (@Ne Nat I D) ∧ (@Ne Nat C D)) →
    wpAny (model prog w) A (eval elt (compEnvC scope cl C env)) (TEnd h₀ L m { s₂ with heap := h,toks := tk } ((I,oI) :: (C,oC) :: (D,oD) :: news) (Y i)) E' { s₂ with heap := h,toks := tk })
inductive L3I (h₀:Heap) (L:Addr) (m:Str→Option Value) (s₂:Shared) (n:Nat) (St:Nat→Heap→Prop) (C D:Addr) (news:List (Addr × Obj)) (T:Nat→Prop) (Y:Nat→Value→Prop) (k:Nat) (s':Shared):Prop
  | con (h':Heap) (tk i:Nat) (ys:List Value) (m':Str→Option Value) (q1:s' = { s₂ with heap := h',toks := tk }) (q2:i ≤ n) (q3:k = n + 1 - i) (q4:ys.length ≤ i) (q5:St i h') (q6:Fr h₀ L h' m) (q7:h'.Ns C m') (q8:News h₀ L h' ((D,LCg.lst ys) :: news)) (q9:Picked T Y i ys):L3I h₀ L m s₂ n St C D news T Y k s'
theorem block_L3 {elt iter:Expr} {ifs:List Expr} {x₁ x₂ x₃:Str} {p1 p2 p3 tp:Pos} {xt} {scope:Scope} {cl:List (Str × Addr)} {pos:Pos} {s₂:Shared} {I:Addr} {fp:List Addr} {n:Nat} {P:Nat→Value→Prop} {St:Nat→Heap→Prop} {news:List (Addr × Obj)}
    {a b c:Nat→Int} {T:Nat→Prop} {Y:Nat→Value→Prop} {RR:Value→Addr→Result→Shared→Prop}
    (W:Walks prog w A I fp [I] n P St) (hsz:n ≤ sizeLine) (hIo:∀ i h,St i h→∃ o,h.get? I = some o)
    (hSt:∀ i h h' o,St i h→h.get? I = some o→h'.get? I = some o→(∀ b o,h₀.get? b = some o→h'.get? b = some o)→News h₀ L h' news→St i h')
    (hcell:∀ y ∈ scope.names,y.2 ≠ .cell) (hkind:scope.kind = .function) (hx₁:scope.names.lookup x₁ = some .local) (hx₂:scope.names.lookup x₂ = some .local) (hx₃:scope.names.lookup x₃ = some .local) (h12:x₁ ≠ x₂) (h13:x₁ ≠ x₃) (h23:x₂ ≠ x₃)
    (hh:A.handled = none) (hLI:∀ i h,St i h→∃ l j,h.IsListIter I l j) (hst:St 0 s₂.heap) (hfp:∀ b ∈ fp,b < s₂.heap.objs.size)
    (F:Fr h₀ L s₂.heap m) (N:News h₀ L s₂.heap news) (hIL:L ≠ I) (hI₀:h₀.get? I = none) (off:∀ p ∈ news,p.1 ≠ I)
    (hrow:∀ i v,P i v→RowV news v (a i) (b i) (c i)) (turns:Turns3 prog w A h₀ L m env elt ifs x₁ x₂ x₃ scope cl news n a b c T Y s₂)
    (hRR:∀ D C h tk m' ys,Fr h₀ L h m→News h₀ L h ((D,LCg.lst ys) :: news)→LCg.Off1 D news→h.Ns C m'→h₀.get? C = none→h₀.get? D = none→C ≠ L→D ≠ L→C ≠ D→(∀ p ∈ news,p.1 ≠ C)→Picked T Y n ys→RR (.ref D) C (.ok .next) { s₂ with heap := h,toks := tk }) :
    wpAny (model prog w) A (newList []) (fun acc s₃=>wpAny (model prog w) A (newFunctionEnv scope env.globals cl [] env.qual none .none (some env)) (fun cenv s₄ =>
      codeAny (model prog w) A (.compStart (.ListComp elt [⟨.Tuple [.Name x₁ p1,.Name x₂ p2,.Name x₃ p3] xt tp,iter,ifs,0⟩] scope pos) 0 (.ref I) acc { cenv with scope := relabel scope env }) (RR acc cenv.locals) s₄) E s₃) E s₂ := by
  obtain ⟨turnT,turnE⟩ := turns
  refine wpAny_newObj_type (wpAny_newFunctionEnv hcell (by intro y hy;simp at hy) (fun h₁ hns₁ hsb₁=>?_) hkind)
  dsimp only at hns₁ hsb₁ ⊢
  generalize hH2:s₂.heap.push { cls := .type "list",dict := none,data := .seq ([]:List Value).toArray } = H2 at hns₁ hsb₁ ⊢
  have hC:H2.objs.size = s₂.heap.objs.size + 1 := by rw [← hH2,Heap.size_push]
  have hDC:s₂.heap.objs.size ≠ H2.objs.size := by rw [hC];exact Nat.ne_of_lt (Nat.lt_succ_self _)
  have below:∀ b,b < s₂.heap.objs.size→b ≠ H2.objs.size ∧ b ≠ s₂.heap.objs.size := fun b hb=>⟨by rw [hC];exact Nat.ne_of_lt (Nat.lt_succ_of_lt hb),Nat.ne_of_lt hb⟩
  have hDf:s₂.heap.objs.size ∉ fp := fun hm=>Nat.lt_irrefl _ (hfp _ hm)
  have hCf:H2.objs.size ∉ fp := fun hm=>by have := hfp _ hm;rw [hC] at this;exact Nat.lt_irrefl _ (Nat.lt_of_succ_lt this)
  have hIf:I ∈ fp := W.sub I (List.mem_singleton.mpr rfl)
  have hIlt:I < s₂.heap.objs.size := hfp I hIf
  have old:∀ b o,s₂.heap.get? b = some o→h₁.get? b = some o := fun b o e=>hsb₁.extBut b o (below b (Heap.lt_size e)).1 (Heap.get?_push_of_some _ (hH2 ▸ Heap.get?_push_of_some _ e))
  have hacc:h₁.get? s₂.heap.objs.size = some (LCg.lst []) := hsb₁.extBut _ _ hDC (Heap.get?_push_of_some _ (hH2 ▸ Heap.get?_push_size _ rfl))
  have hst₁:St 0 h₁ := W.frame _ _ _ hst fun b _ o e=>old b o e
  have fresh₀:∀ a,s₂.heap.objs.size ≤ a→h₀.get? a = none := fun a ha=>by
    cases e:h₀.get? a with
    | none=>rfl
    | some o'=>exact absurd (Heap.lt_size (F.keep a o' e)) (Nat.not_lt.mpr ha)
  have hD₀:h₀.get? s₂.heap.objs.size = none := fresh₀ _ (Nat.le_refl _)
  have hC₀:h₀.get? H2.objs.size = none := fresh₀ _ (by rw [hC];exact Nat.le_succ _)
  have hLlt:L < s₂.heap.objs.size := F.ns.lt
  have hDL:s₂.heap.objs.size ≠ L := Ne.symm (below L hLlt).2
  have hCL:H2.objs.size ≠ L := Ne.symm (below L hLlt).1
  have hCI:I ≠ H2.objs.size := (below I hIlt).1
  have hDI:I ≠ s₂.heap.objs.size := (below I hIlt).2
  have off₀:LCg.Off3 I H2.objs.size s₂.heap.objs.size news := LCg.Off3.of fun p hp=>⟨off p hp,(below _ (Heap.lt_size (N p hp).1)).1,(below _ (Heap.lt_size (N p hp).1)).2⟩
  have off3 := off₀.mem
  have loop:∀ s₃:Shared,s₃ = { s₂ with heap := h₁,toks := s₂.toks + ([]:List (Str × Value)).length } →
      codeAny (model prog w) A (.compLoop (.ListComp elt [⟨.Tuple [.Name x₁ p1,.Name x₂ p2,.Name x₃ p3] xt tp,iter,ifs,0⟩] scope pos) 0 (.ref I) (.ref s₂.heap.objs.size) (compEnvC scope cl H2.objs.size env))
        (RR (.ref s₂.heap.objs.size) H2.objs.size) s₃ := by
    rintro s₃ rfl
    refine loop_l3
      (L3I h₀ L m s₂ n St H2.objs.size s₂.heap.objs.size news T Y) ?_ (n + 1)
      ⟨h₁,_,0,[],_,rfl,Nat.zero_le _,rfl,Nat.le_refl _,hst₁,F.keeps old,hns₁,fun p hp=>?_,rfl⟩
    · rintro k s' ⟨h',tk,i,ys,m',rfl,hi,rfl,hyl,hst',F',hn',N',hpk⟩
      by_cases hlt:i < n
      · refine W.item i _ _ _ hlt hst' fun v h₂ tk₂ hPv hst₂ hk₂=>?_
        obtain ⟨t,kt,t1,t2,t3,rfl,hmt⟩ := hrow i v hPv
        have N₂:News h₀ L h₂ ((s₂.heap.objs.size,LCg.lst ys) :: news) := LCg.news_but N' hk₂ fun p hp=>by
          rcases List.mem_cons.mp hp with rfl | hp
          · exact Ne.symm hDI
          · exact (off3 p hp).1
        have ht:IsTup h₂ t #[.int (a i) t1,.int (b i) t2,.int (c i) t3] := ⟨_,(N₂ _ (List.mem_cons_of_mem _ hmt)).1,rfl,kt,rfl⟩
        obtain ⟨lI,jI,hLi⟩ := hLI _ _ hst₂
        refine wpAny_letOwnedTupleGo_listiter hLi ?_
        refine assign_Tuple_tuple hh ht rfl rfl fun h₅ he=>?_
        have he':∀ b o,h₂.get? b = some o→h₅.get? b = some o := fun b o e=>he b o (Nat.ne_of_lt (Heap.lt_size e)) e
        refine assignInOrder_cons (wpAny_assign_Name (wpAny_storeName_local (lookup_relabel_local hx₁) ((hn'.at' fun o e=>hk₂ _ o (by simpa using Ne.symm hCI) e).at' fun o e=>he' _ o e) (fun h₆ hn₆ hs₆=>?_) (by simp [compEnvC,relabel,hkind])))
        refine assignInOrder_cons (wpAny_assign_Name (wpAny_storeName_local (lookup_relabel_local hx₂) hn₆ (fun h₇ hn₇ hs₇=>?_) (by simp [compEnvC,relabel,hkind])))
        refine assignInOrder_cons (wpAny_assign_Name (wpAny_storeName_local (lookup_relabel_local hx₃) hn₇ (fun h₃ hn₃ hs₃=>?_) (by simp [compEnvC,relabel,hkind])))
        refine assignInOrder_nil ?_
        have old3:∀ b o,b ≠ H2.objs.size→h₂.get? b = some o→h₃.get? b = some o := fun b o hb e=>hs₃.extBut b o hb (hs₇.extBut b o hb (hs₆.extBut b o hb (he' b o e)))
        have hst₃:St (i + 1) h₃ := W.frame _ _ _ hst₂ fun b hb o e=>old3 b o (fun q=>hCf (by rw [← q];exact hb)) e
        obtain ⟨oI,heI⟩ := hIo _ _ hst₃
        obtain ⟨oC,heC,hoC⟩ := LCg.ns_obj hn₃
        have F₃:Fr h₀ L h₃ m := ((((LCg.fr_but F' hk₂ hIL hI₀).keeps he').change hs₆ hCL hC₀).change hs₇ hCL hC₀).change hs₃ hCL hC₀
        have N₃':News h₀ L h₃ ((s₂.heap.objs.size,LCg.lst ys) :: news) := fun p hp=>by
          have z := N₂ p hp
          refine ⟨old3 _ _ ?_ z.1,z.2⟩
          rcases List.mem_cons.mp hp with rfl | hp
          · exact hDC
          · exact (off3 p hp).2.1
        have N₃:News h₀ L h₃ ((I,oI) :: (H2.objs.size,oC) :: (s₂.heap.objs.size,LCg.lst ys) :: news) :=
          news3 (h' := h₃) heI ⟨Ne.symm hIL,hI₀⟩ heC ⟨hCL,hC₀⟩ (N₃' _ List.mem_cons_self).1 ⟨hDL,hD₀⟩ fun p hp=>N₃' p (List.mem_cons_of_mem _ hp)
        refine wpAny_mono (turnT i t1 t2 t3 I oI H2.objs.size oC s₂.heap.objs.size (LCg.lst ys) _ h₃ _ _ hlt hoC (by simp [h12,h13]) (by simp [h23]) (by simp) F₃ N₃ off₀ ⟨hCI,hDI,Ne.symm hDC⟩) (fun ok s₄ h₄=>?_) fun _ _ e=>e
        obtain ⟨h₄,tk₄,rfl,F₄,N₄,hok⟩ := h₄
        have zI := (N₄ (I,oI) List.mem_cons_self).1
        have zC := (N₄ (H2.objs.size,oC) (List.mem_cons_of_mem _ List.mem_cons_self)).1
        have N₄':News h₀ L h₄ news := fun p hp=>N₄ p (List.mem_cons_of_mem _ (List.mem_cons_of_mem _ (List.mem_cons_of_mem _ hp)))
        have hst₄:St (i + 1) h₄ := hSt _ _ _ _ hst₃ heI zI F₄.keep N₄'
        cases ok with
        | false =>
          rw [if_neg Bool.false_ne_true]
          exact ⟨n + 1 - (i + 1),by exact bC (fk40 (Z8 (La V0 (La V1 K1)) (La V2 K1) (Z9 (La V3 V1) (La V2 K1) (Z11 V0 V3 Lf))) rfl (sC (bC (fk20 (Z7 V0 V1 (Z10 (La V0 K1) (La V1 K1) Lf)) rfl hlt))) (sC (bC (fk20 (Z7 V0 V1 (Z10 V0 (La V1 K1) Lf)) rfl hlt)))),h₄,tk₄,i + 1,ys,_,rfl,hlt,rfl,by exact (Nat.le_trans hyl (Nat.le_add_right _ _)),hst₄,F₄,hoC.ns zC,fun p hp=>N₄ p (List.mem_cons_of_mem _ (List.mem_cons_of_mem _ hp)),.inl ⟨fun q=>absurd (hok.mpr q) Bool.false_ne_true,hpk⟩⟩
        | true =>
          rw [if_pos rfl]
          have hT:T i := hok.mp rfl
          refine wpAny_mono (turnE i t1 t2 t3 I oI H2.objs.size oC s₂.heap.objs.size (LCg.lst ys) _ h₄ _ _ hlt hT hoC (by simp [h12,h13]) (by simp [h23]) (by simp) F₄ N₄ off₀ ⟨hCI,hDI,Ne.symm hDC⟩) (fun y s₅ h₅=>?_) fun _ _ e=>e
          obtain ⟨h₅,tk₅,rfl,F₅,N₅,hY⟩ := h₅
          have zI5 := (N₅ (I,oI) List.mem_cons_self).1
          have zC5 := (N₅ (H2.objs.size,oC) (List.mem_cons_of_mem _ List.mem_cons_self)).1
          have zD5 := (N₅ (s₂.heap.objs.size,LCg.lst ys) (List.mem_cons_of_mem _ (List.mem_cons_of_mem _ List.mem_cons_self))).1
          have N₅':News h₀ L h₅ news := fun p hp=>N₅ p (List.mem_cons_of_mem _ (List.mem_cons_of_mem _ (List.mem_cons_of_mem _ hp)))
          have hst₅:St (i + 1) h₅ := hSt _ _ _ _ hst₄ zI zI5 F₅.keep N₅'
          refine append_at (hsz := by show ys.toArray.size ≤ sizeLine;rw [List.size_toArray];exact Nat.le_trans hyl (Nat.le_trans hi hsz)) zD5 fun h₆ hs₆ hD₆=>?_
          refine ⟨n + 1 - (i + 1),by exact bC (fk40 (Z8 (La V0 (La V1 K1)) (La V2 K1) (Z9 (La V3 V1) (La V2 K1) (Z11 V0 V3 Lf))) rfl (sC (bC (fk20 (Z7 V0 V1 (Z10 (La V0 K1) (La V1 K1) Lf)) rfl hlt))) (sC (bC (fk20 (Z7 V0 V1 (Z10 V0 (La V1 K1) Lf)) rfl hlt)))),h₆,tk₅,i + 1,ys ++ [y],_,rfl,hlt,rfl,by rw [List.length_append,List.length_singleton];exact (Nat.succ_le_of_lt (Nat.lt_succ_of_le hyl)),W.frame _ _ _ hst₅ fun b hb o e=>hs₆.extBut b o (fun q=>hDf (q ▸ hb)) e,F₅.change hs₆ hDL hD₀,
            (hoC.ns zC5).sameBut hs₆ (Ne.symm hDC),fun p hp=>?_,.inr ⟨hT,ys,y,rfl,hpk,hY⟩⟩
          rcases List.mem_cons.mp hp with rfl | hp
          · exact ⟨hD₆.trans (congrArg some (LCg.lst_snoc ys y)),hDL,hD₀⟩
          · exact ⟨hs₆.extBut _ _ (off3 p hp).2.2 (N₅' p hp).1,(N₅' p hp).2⟩
      · obtain rfl:i = n := Nat.le_antisymm hi (Nat.not_lt.mp hlt)
        refine W.done _ _ _ hst' fun h₂ tk₂ hk₂=>?_
        exact hRR _ _ h₂ tk₂ _ ys (LCg.fr_but F' hk₂ hIL hI₀) (LCg.news_but N' hk₂ fun p hp=>by
          rcases List.mem_cons.mp hp with rfl | hp
          · exact Ne.symm hDI
          · exact (off3 p hp).1) off₀.one (hn'.at' fun o e=>hk₂ _ o (by simpa using Ne.symm hCI) e) hC₀ hD₀ hCL hDL (Ne.symm hDC) (fun p hp=>(off3 p hp).2.1) hpk
    · rcases List.mem_cons.mp hp with rfl | hp
      · exact ⟨hacc,hDL,hD₀⟩
      · exact ⟨old _ _ (N p hp).1,(N p hp).2⟩
  exact codeAny_compStart_list (loop _ rfl) (W.self 0 _ _ _ hst₁ (loop _ rfl))
inductive Src3 (prog:Program) (w:World) (A:Around) (h₀:Heap) (L:Addr) (m:Str→Option Value) (env:Env) (elt:Expr) (ifs:List Expr) (x₁ x₂ x₃:Str) (scope:Scope) (cl:List (Str × Addr)) (Fin:Shared→List Value→List (Addr × Obj)→Prop) (xv:Value) (s₁:Shared):Prop
  | con (ax:_) (its:_) (k:_) (news:_) (a:_) (b:_) (c:_) (T:_) (Y:_)
      (q1:xv = .ref ax)
      (q2:A.handled = none)
      (q3:Fr h₀ L s₁.heap m)
      (q4:News h₀ L s₁.heap news)
      (q5:(ax,({ cls := .type "list",data := .seq its k }:Obj)) ∈ news)
      (q6:its.size ≤ sizeLine)
      (q7:(∀ i v,its[i]? = some v→RowV news v (a i) (b i) (c i)))
      (q8:∀ g,Turns3 prog w A h₀ L m env elt ifs x₁ x₂ x₃ scope cl news its.size a b c T Y { s₁ with heap := g } ∧ ∀ ys,Picked T Y its.size ys→Fin { s₁ with heap := g } ys news):Src3 prog w A h₀ L m env elt ifs x₁ x₂ x₃ scope cl Fin xv s₁
theorem Src3.mk {elt:Expr} {ifs:List Expr} {x₁ x₂ x₃:Str} {scope:Scope} {cl:List (Str × Addr)} {Fin:Shared→List Value→List (Addr × Obj)→Prop} {ax:Addr} {its:Array Value} {k:Nat} {news:List (Addr × Obj)} {s₁:Shared} (a b c:Nat→Int) (T:Nat→Prop) (Y:Nat→Value→Prop)
    (hh:A.handled = none) (F:Fr h₀ L s₁.heap m) (N:News h₀ L s₁.heap news) (hm:(ax,({ cls := .type "list",data := .seq its k }:Obj)) ∈ news) (hsz:its.size ≤ sizeLine) (hrow:∀ i v,its[i]? = some v→RowV news v (a i) (b i) (c i))
    (turnT:∀ g i t1 t2 t3 I oI C oC D oD m₂ h tk (E':Value→Shared→Prop),i < its.size→LCg.NsObj oC m₂→m₂ x₁ = some (.int (a i) t1)→m₂ x₂ = some (.int (b i) t2)→m₂ x₃ = some (.int (c i) t3)→Fr h₀ L h m→News h₀ L h ((I,oI) :: (C,oC) :: (D,oD) :: news)→LCg.Off3 I C D news→((@Ne Nat I C) ∧ (@Ne Nat I D) ∧ (@Ne Nat C D)) →
      wpAny (model prog w) A (forIn ifs true fun c r=>if r = true then do let ok ← isTrue c (compEnvC scope cl C env) (eval c (compEnvC scope cl C env));pure (ForInStep.yield ok) else pure (ForInStep.yield r))
        (TestE h₀ L m { ({ s₁ with heap := g }:Shared) with heap := h,toks := tk } ((I,oI) :: (C,oC) :: (D,oD) :: news) (T i)) E' { ({ s₁ with heap := g }:Shared) with heap := h,toks := tk })
    (turnE:∀ g i t1 t2 t3 I oI C oC D oD m₂ h tk (E':Value→Shared→Prop),i < its.size→T i→LCg.NsObj oC m₂→m₂ x₁ = some (.int (a i) t1)→m₂ x₂ = some (.int (b i) t2)→m₂ x₃ = some (.int (c i) t3)→Fr h₀ L h m→News h₀ L h ((I,oI) :: (C,oC) :: (D,oD) :: news)→LCg.Off3 I C D news→((@Ne Nat I C) ∧ (@Ne Nat I D) ∧ (@Ne Nat C D)) →
      wpAny (model prog w) A (eval elt (compEnvC scope cl C env)) (TEnd h₀ L m { ({ s₁ with heap := g }:Shared) with heap := h,toks := tk } ((I,oI) :: (C,oC) :: (D,oD) :: news) (Y i)) E' { ({ s₁ with heap := g }:Shared) with heap := h,toks := tk })
    (fin:∀ g ys,Picked T Y its.size ys→Fin { s₁ with heap := g } ys news) :
    Src3 prog w A h₀ L m env elt ifs x₁ x₂ x₃ scope cl Fin (.ref ax) s₁ := ⟨ax,its,k,news,a,b,c,T,Y,rfl,hh,F,N,hm,hsz,hrow,fun g=>⟨⟨turnT g,turnE g⟩,fin g⟩⟩
theorem led_list {h:Heap} {ax:Addr} {its:Array Value} {k:Nat} {news:List (Addr × Obj)} (N:News h₀ L h news) (hm:(ax,({ cls := .type "list",data := .seq its k }:Obj)) ∈ news):h.IsList ax its := ⟨_,(N _ hm).1,rfl,k,rfl⟩
theorem l3_st {ax I:Addr} {its:Array Value} {k:Nat} {news:List (Addr × Obj)} (hm:(ax,({ cls := .type "list",data := .seq its k }:Obj)) ∈ news):∀ i (h h':Heap) (o:Obj),(h.IsListIter I ax i ∧ h.IsList ax its)→h.get? I = some o→h'.get? I = some o→(∀ b o,h₀.get? b = some o→h'.get? b = some o)→News h₀ L h' news→(h'.IsListIter I ax i ∧ h'.IsList ax its) :=
  fun i h h' o st e e' _ N=>⟨by obtain ⟨o',q,r⟩ := st.1;rw [e] at q;cases q;exact ⟨o,e',r⟩,led_list N hm⟩
theorem ListComp_3 {elt iter:Expr} {ifs:List Expr} {x₁ x₂ x₃:Str} {p1 p2 p3 tp:Pos} {xt} {scope:Scope} {cl:List (Str × Addr)} {pos:Pos} {Q:Value→Shared→Prop} (F₀:Fr h₀ L s.heap m)
    (hclos:closureFor scope env = pure cl) (hcell:∀ y ∈ scope.names,y.2 ≠ .cell) (hkind:scope.kind = .function)
    (hnames:∀ y ∈ scope.names,y.2 = .local→scope.names.lookup y.1 = some .local) (hx₁:scope.names.lookup x₁ = some .local) (hx₂:scope.names.lookup x₂ = some .local) (hx₃:scope.names.lookup x₃ = some .local) (hne:x₁ ≠ x₂ ∧ x₁ ≠ x₃ ∧ x₂ ≠ x₃)
    (h:wpAny (model prog w) A (eval iter env) (Src3 prog w A h₀ L m env elt ifs x₁ x₂ x₃ scope cl (fun s₂=>LCg.FinE h₀ L m s₂ Q)) E s)
    (hs:∀ x,foldedSetIterable iter env x = pure x := by intro _;rfl) :
    wpAny (model prog w) A (eval (.ListComp elt [⟨.Tuple [.Name x₁ p1,.Name x₂ p2,.Name x₃ p3] xt tp,iter,ifs,0⟩] scope pos) env) Q E s := by
  rw [eval_ListComp]
  refine wpAny_comprehension_free (use := none) rfl hs hclos hkind hnames (wpAny_mono h (fun xv s₁ h₁=>?_) fun _ _ e=>e)
  obtain ⟨ax,its,k,news,a,b,c,T,Y,rfl,hh,F,N,hm,hsz,hrow,R⟩ := h₁
  have hl := led_list N hm
  have hlt:ax < s₁.heap.objs.size := by obtain ⟨_,e,_⟩ := hl;exact Heap.lt_size e
  refine wpAny_pyIter_list hl ?_
  have up:∀ b o,s₁.heap.get? b = some o→(s₁.heap.push { cls := .type "list_iterator",data := .fields #[.ref ax,.int 0 0] }).get? b = some o := fun b o e=>Heap.get?_push_of_some _ e
  refine block_L3 (Walks.list hh s₁.heap.objs.size ax (Nat.ne_of_lt hlt) its) hsz (fun i h st=>by obtain ⟨o,e,_⟩ := st.1;exact ⟨o,e⟩) (l3_st hm) hcell hkind hx₁ hx₂ hx₃ hne.1 hne.2.1 hne.2.2 hh (fun i h st=>⟨_,_,st.1⟩) ⟨⟨_,Heap.get?_push_size _ rfl,rfl,rfl⟩,hl.push _⟩ (fun b hb=>?_)
    (F.keeps up) (N.grown up) (Nat.ne_of_lt F.ns.lt) (next_is_new F) (fun p hp=>Nat.ne_of_lt (Heap.lt_size (N p hp).1)) hrow (R _).1 ?_
  · show b < (s₁.heap.push _).objs.size
    rw [Heap.size_push]
    rcases List.mem_cons.mp hb with rfl | hb
    · exact Nat.lt_succ_self _
    · rw [List.mem_singleton.mp hb];exact Nat.lt_succ_of_lt hlt
  · intro D C h tk m' ys F' N' o1 hn hC₀ hD₀ hCL hDL hCD offC hp
    refine ⟨m',hn,fun h'' hs''=>(R (s₁.heap.push { cls := .type "list_iterator",data := .fields #[.ref ax,.int 0 0] })).2 ys hp D h'' tk (F'.change hs'' hCL hC₀) (fun p hp=>?_) o1⟩
    refine ⟨hs''.extBut _ _ ?_ (N' p hp).1,(N' p hp).2⟩
    rcases List.mem_cons.mp hp with rfl | hp
    · exact Ne.symm hCD
    · exact offC p hp
theorem Assign_ListComp_3 {elt iter:Expr} {ifs:List Expr} {x₁ x₂ x₃ y:Str} {p1 p2 p3 tp py:Pos} {xt} {scope:Scope} {cl:List (Str × Addr)} {pos spos:Pos} {Q:Flow→Shared→Prop} (F₀:Fr h₀ L s.heap m) (hLe:env.locals = L)
    (hsw:swapsWith (.ListComp elt [⟨.Tuple [.Name x₁ p1,.Name x₂ p2,.Name x₃ p3] xt tp,iter,ifs,0⟩] scope pos) (some (.Name y py)) spos.line env = pure true)
    (hclos:closureFor scope env = pure cl) (hcell:∀ y ∈ scope.names,y.2 ≠ .cell) (hkind:scope.kind = .function)
    (hnames:∀ y ∈ scope.names,y.2 = .local→scope.names.lookup y.1 = some .local) (hx₁:scope.names.lookup x₁ = some .local) (hx₂:scope.names.lookup x₂ = some .local) (hx₃:scope.names.lookup x₃ = some .local) (hne:x₁ ≠ x₂ ∧ x₁ ≠ x₃ ∧ x₂ ≠ x₃)
    (hy:env.kindOf y = some .local) (hp:(env.scope.kind == .class || (env.scope.kind == .module && env.locals != env.globals)) = false)
    (h:wpAny (model prog w) A (eval iter env) (Src3 prog w A h₀ L m env elt ifs x₁ x₂ x₃ scope cl (fun s₂=>LCg.FinA h₀ L m s₂ y Q)) E s)
    (hs:∀ x,foldedSetIterable iter env x = pure x := by intro _;rfl) :
    wpAny (model prog w) A (exec (.Assign [.Name y py] (.ListComp elt [⟨.Tuple [.Name x₁ p1,.Name x₂ p2,.Name x₃ p3] xt tp,iter,ifs,0⟩] scope pos) spos) env) Q E s := by
  subst hLe
  rw [exec_Assign_Name_used _ _ _ _ hsw]
  refine wpAny_bind (wpAny_standAt (wpAny_bind ?_))
  show wpAny _ A (do let _ ← comprehension (.ListComp elt [⟨.Tuple [.Name x₁ p1,.Name x₂ p2,.Name x₃ p3] xt tp,iter,ifs,0⟩] scope pos) scope env _ (newList []) false (eval iter env) (some (assign (.Name y py) env))) _ _ s
  refine wpAny_bind (wpAny_mono (wpAny_comprehension_free (use := some (assign (.Name y py) env)) (Q := fun _ s'=>Q .next s') rfl hs hclos hkind hnames
    (wpAny_mono h (fun xv s₁ h₁=>?_) fun _ _ e=>e)) (fun _ s' hq=>wpAny_pure (wpAny_pure hq)) fun _ _ e=>e)
  obtain ⟨ax,its,k,news,a,b,c,T,Y,rfl,hh,F,N,hm,hsz,hrow,R⟩ := h₁
  have hl := led_list N hm
  have hlt:ax < s₁.heap.objs.size := by obtain ⟨_,e,_⟩ := hl;exact Heap.lt_size e
  refine wpAny_pyIter_list hl ?_
  have up:∀ b o,s₁.heap.get? b = some o→(s₁.heap.push { cls := .type "list_iterator",data := .fields #[.ref ax,.int 0 0] }).get? b = some o := fun b o e=>Heap.get?_push_of_some _ e
  refine block_L3 (Walks.list hh s₁.heap.objs.size ax (Nat.ne_of_lt hlt) its) hsz (fun i h st=>by obtain ⟨o,e,_⟩ := st.1;exact ⟨o,e⟩) (l3_st hm) hcell hkind hx₁ hx₂ hx₃ hne.1 hne.2.1 hne.2.2 hh (fun i h st=>⟨_,_,st.1⟩) ⟨⟨_,Heap.get?_push_size _ rfl,rfl,rfl⟩,hl.push _⟩ (fun b hb=>?_)
    (F.keeps up) (N.grown up) (Nat.ne_of_lt F.ns.lt) (next_is_new F) (fun p hp=>Nat.ne_of_lt (Heap.lt_size (N p hp).1)) hrow (R _).1 ?_
  · show b < (s₁.heap.push _).objs.size
    rw [Heap.size_push]
    rcases List.mem_cons.mp hb with rfl | hb
    · exact Nat.lt_succ_self _
    · rw [List.mem_singleton.mp hb];exact Nat.lt_succ_of_lt hlt
  · intro D C h' tk m' ys F' N' o1 hn hC₀ hD₀ hCL hDL hCD offC hpk
    show wpAny _ A (assign (.Name y py) env (.ref D)) _ _ _
    refine wpAny_assign_Name (wpAny_storeName_local hy F'.ns (fun h₂ hn₂ hs₂=>?_) hp)
    have hL₀:h₀.get? env.locals = none := Heap.get?_none_of_le F'.above
    have F₂:Fr h₀ env.locals h₂ (fun z=>if z = y then some (.ref D) else m z) := ⟨hn₂,fun b o e=>hs₂.extBut b o (fun q=>by rw [q,hL₀] at e;cases e) (F'.keep b o e),F'.above⟩
    refine ⟨m',hn.sameBut hs₂ hCL,fun h'' hs''=>(R (s₁.heap.push { cls := .type "list_iterator",data := .fields #[.ref ax,.int 0 0] })).2 ys hpk D h'' _ (F₂.change hs'' hCL hC₀) (fun p hp=>?_) o1⟩
    have z:h₂.get? p.1 = some p.2 := hs₂.extBut _ _ (N' p hp).2.1 (N' p hp).1
    refine ⟨hs''.extBut _ _ ?_ z,(N' p hp).2⟩
    rcases List.mem_cons.mp hp with rfl | hp
    · exact Ne.symm hCD
    · exact offC p hp
end
end
section
theorem RowsIn.mono {one other:Str} {tl tl':List (Addr × Obj)} {v:Value} (h:RowsIn one other tl v) (hs:∀ p ∈ tl,p ∈ tl'):RowsIn one other tl' v := by
  obtain ⟨M,h1,h2,h3⟩ := h
  exact ⟨M,h1,h2,h3.mono hs⟩
example:True := by
  k_with "^eval Name" => (k_extra "nmx";k_dflt (refine nmL (by kernel_rfl!) (by rfl) (by k_asm) (by first | (with_reducible assumption) | exact rfl | assumption) ?_);k_whole)
  k_with "^eval Name" => (k_extra "nmx";k_dflt (refine nmC (by kernel_rfl!) (by rfl) (by k_asm) (by rfl) (by with_reducible assumption) (by with_reducible assumption) ?_);k_whole)
  k_with "exec Assign cons ListComp" => (k_here;k_dflt (refine LCg.Assign_ListComp_U (F₀ := by k_asm) (by rfl) (by with_unfolding_all rfl) (by with_unfolding_all rfl) (by decide) (by rfl) (by decide) (by rfl) (by rfl) (by rfl) ?_))
  trivial
theorem stage9 {w:World} {mean:ExcName→Option Value} {mg mb:Str→Option Value} {dp un:Nat} {gd:Option (List Code)} {a:Addr} {cd:Value} {A₀:Around} {base h₀:Heap} {L:Addr} {m:Str→Option Value} {s:Shared} {Q:Flow→Shared→Prop} {E:Value→Shared→Prop} {rest:List Stmt} {news:List (Addr × Obj)} {oU:Obj} {U:Str} {tU:Tok}
    {W:Nat→Str} {t0 t1 t2 t3:Tok} {lw:Addr} {nw:Nat} (hW:Leads W) (hU5:(U.length:Int) ≤ 5)
    (B:Below A₀ base [] h₀) (F:Fr h₀ L s.heap m) (X:(topT.heap_39 w.params).In h₀) (N:News h₀ L s.heap news) (TT:Top topProg LG mean mg mb h₀) (hd:dp ≤ 310) (hu:un ≤ 1000)
    (cU:(L + 1,oU) ∈ news) (dU:oU.data = .cell (some (.str U tU))) (hl:(lw,listOf #[.str (W 0) t0,.str (W 1) t1,.str (W 2) t2,.str (W 3) t3] nw) ∈ news) (hw:m "walk" = some (.ref lw))
    (k:∀ lt (ys:List Value) nn tl h' tk,ys.length = 4→(∀ (i:Nat) y,ys[i]? = some y→RowsIn U (W i) tl y)→Fresh tl news→Fr h₀ L h' (fun y=>if y = "tables" then some (.ref lt) else m y)→News h₀ L h' ((lt,listOf ys.toArray nn) :: (tl ++ news))→wpAny (model PG w) (lawA dp un gd L a cd) (execs rest (lawEnv L a cd)) Q E { s with heap := h',toks := tk }) :
    wpAny (model PG w) (lawA dp un gd L a cd) (execs (lawS9 :: rest) (lawEnv L a cd)) Q E s := by
  intros w mean mg mb dp un gd a cd A₀ base h₀ L m s Q E rest news oU U tU W t0 t1 t2 t3 lw nw _ hW hU5 B F X N TT hd hu cU dU hl hw k
  revert X;unfold PG;k_fill;intro X
  unfold PG at k
  k_with "CompSrc" => k_dflt (
    refine LCg.CompSrc.ledger (by rfl) (by k_asm) (by k_asm) hl (by size_fits) ?_
    intro g'
    refine lc_keep (fun i tl y=>RowsIn U (W i) tl y) (fun i tl tl' v h hs=>h.mono hs) (fun tl=>.inr ⟨_,List.mem_append_right _ hl,rfl,_,rfl⟩) ?_ ?_
    intro i v I oI C oC D m₂ ys tl9 h tk E' hi' hv hC hx F' N' off ne
    obtain ⟨hi4,t9,hv9⟩ := lead_item hv
    subst hv9
    have ln := hW.ln i hi4
    have cU':(L + 1,oU) ∈ tl9 ++ news := List.mem_append_right _ cU
    rotate_left
    intro ys tl9 hy1 hy2 hf9
    rotate_right)
  k_with "call ref" => k_dflt (
    with_reducible show wpAny _ _ (call (Value.ref 171) _) _ _ _
    refine ctrO_use (by k_asm) (by k_asm) (by k_asm) (by k_asm) (by k_asm) (by walk_at "ctr K") (rows_tells (by exact (nUp (nOfI hU5) rfl)) (by exact (nUp ln rfl))) (by walk_at "ctr D") (by walk_at "ctr U") ?_
    intro r9 tlr9 h9 tk9 hW9 hf9 F9 N9)
  k_steps
  · exact TEndK.intro (by k_asm) (by k_asm) hf9 hW9
  · exact k _ _ _ _ _ _ (by simpa using hy1) hy2 hf9 (by k_asm) (by k_asm)
end
section
example:True := by
  w_top off
  k_with_none
  k_with "a" => with_reducible assumption
  k_with "sh" => first | exact sh1 (by k_extra "a") rfl | exact sh2 (by k_extra "a") rfl | exact sh3 (by k_extra "a") rfl | exact sh4 (by k_extra "a") rfl | exact sl1 (by k_extra "a") rfl | exact sl2 (by k_extra "a") rfl | exact sl3 (by k_extra "a") rfl | omega
  k_with "omega" => first | k_extra "a" | decide | exact Int.not_le.mp (by k_extra "a") | exact Int.not_lt.mp (by k_extra "a") | exact nUp (by k_extra "a") rfl | exact iDn (by k_extra "a") rfl | exact iUp (by k_extra "a") rfl | exact iUpLt (by k_extra "a") rfl | exact iDn (Int.add_le_add iLit iCast0) rfl | exact iDn iCast0 rfl | exact nUpLt (Nat.add_le_add (by k_extra "a") (Nat.le_refl _)) rfl | exact Nat.ne_of_lt (Nat.lt_succ_self _) | exact Ne.symm (Nat.ne_of_lt (Nat.lt_succ_self _)) | exact Nat.ne_of_lt (by k_extra "a") | exact Ne.symm (Nat.ne_of_lt (by k_extra "a")) | exact Ne.symm (Int.ne_of_lt (by k_extra "a")) | exact Int.not_le.mpr (iUpLt (iCast (by k_extra "a")) rfl) | lia
  k_with "my news" => first | k_asm | (refine cb_drop (by assumption) (by (intro p9 hp9;kst_mem)))
  k_with "ctr K" => first | exact rfl | assumption
  k_with "ctr D" => ((try simp only [depth_under_make,depth_under_kw,depth_in1,depth_deeper,depth_caller]);(try dsimp only [ktrTop]);k_extra "sh")
  k_with "ctr U" => ((try simp only [units_in1,units_deeper,Around.mark_units,units_caller]);(try dsimp only [ktrTop]);k_extra "sh")
  k_with "nmx" => (with_reducible show wpAny _ _ (eval _ (envX _ _ _ _ _ _)) _ _ _)
  k_with "^eval Name" => (k_here;k_extra "nmx";name_kind "globalImplicit";name_is_builtin;k_dflt (refine nameX_B (by k_asm) (by k_asm) (by k_asm) (by k_is) (by boot_fast) (by decide) ?_ (by rfl) (by kernel_rfl!));k_whole)
  k_with "^eval Name" => (k_here;k_extra "nmx";name_kind "globalImplicit";k_dflt (refine nameX_K (by k_asm) (by k_asm) (by k_asm) (by k_is) ?_ (by rfl) (by kernel_rfl!));k_whole)
  k_with "^eval Name" => (k_here;k_extra "nmx";name_kind "local";k_dflt (refine nmL (by rfl) (by rfl) (by k_asm) (by exact rfl) ?_);k_whole)
  k_with "call type:range" => ((rename Fr _ _ _ _=>f9);(rename News _ _ _ _=>n9);k_dflt (first | refine range1_rows f9 n9 ?_ | refine range2_rows f9 n9 ?_);intro _ _ _ _ _ _ _ _ _)
  k_with "call builtin:len" => ((with_reducible show wpAny _ _ (call (Value.builtin "len") [Value.str _ _]) _ _ _);refine SBL.len (by omega) ?_)
  k_with "ws here" => first | k_extra "a" | exact WsIn.mono (by k_extra "a") (by intro p hp;kst_mem)
  k_with "ctr back" => (intro r9 h9 tk9 hr9 F9 N9;obtain ⟨t9,hr9⟩ := hr9;subst hr9;(try dsimp only);(try k_fold))
  trivial
noncomputable def needAt (U W:Str) (i:Nat):Int := Int.fdiv (colOf (1 + (i:Int)) (KStt.codes U) - colOf (1 + (i:Int)) (KStt.codes W)) (1 + (i:Int)) + 1
noncomputable def NeedIs (U W:Str) (k:Int):Prop := ∃ M,MaxRun (tx U ++ 9 :: tx W) M ∧ (k = 0 ∨ ∃ i:Nat,i < 1 + M ∧ k = needAt U W i) ∧ 0 ≤ k ∧ ∀ i:Nat,i < 1 + M→needAt U W i ≤ k
theorem picked_all {T:Nat→Prop} {Y:Nat→Value→Prop} (hT:∀ i,T i):∀ {n:Nat} {ys:List Value},Picked T Y n ys→ys.length = n ∧ ∀ (i:Nat) y,ys[i]? = some y→Y i y
  | 0,ys,h=>by
    obtain rfl:ys = [] := h
    exact ⟨rfl,fun i y h=>by simp at h⟩
  | n + 1,ys,h=>by
    rcases h with ⟨h1,_⟩ | ⟨_,ys',y,rfl,h2,h3⟩
    · exact absurd (hT n) h1
    · obtain ⟨h4,h5⟩ := picked_all hT h2
      refine ⟨by simp [h4],fun i z hz=>?_⟩
      rw [List.getElem?_append] at hz
      split at hz
      · exact h5 i z hz
      · rename_i hk
        have:i = n := by
          have := (List.getElem?_eq_some_iff.mp hz).1
          simp at this;exact Nat.le_antisymm (bC (fk40 (Z8 V0 K0 (Z8 V1 V2 (Z9 (La V0 V1) V3 (Z10 V3 V2 Lf)))) rfl this h4 (sC (bC (fk20 (Z11 V0 V1 (Z10 V1 V0 Lf)) rfl hk))))) (bC (fk30 (Z11 V0 V1 (Z9 V1 V2 (Z10 V2 V0 Lf))) rfl hk h4))
        subst this
        simp [h4] at hz
        subst hz
        exact h3
theorem picked_ints {f:Nat→Int} {n:Nat} {ys:List Value} (h:Picked (fun _=>True) (fun i y=>∃ t,y = .int (f i) t) n ys):IntsAre ys ((List.range n).map f) := by
  obtain ⟨h1,h2⟩ := picked_all (fun _=>True.intro) h
  refine ints_by (by simp [h1]) fun i y hy=>?_
  obtain ⟨t,rfl⟩ := h2 i y hy
  have:i < n := by rw [← h1];exact (List.getElem?_eq_some_iff.mp hy).1
  exact ⟨f i,t,by simp [this],rfl⟩
theorem need_is {U W:Str} {M n:Nat} {k:Int} (hM:MaxRun (tx U ++ 9 :: tx W) M) (hn:n = 1 + M) (h1:k ∈ [0] ++ (List.range n).map (needAt U W)) (h2:∀ a ∈ [0] ++ (List.range n).map (needAt U W),a ≤ k):NeedIs U W k := by
  subst hn
  refine ⟨M,hM,?_,h2 0 (by simp),fun i hi=>h2 _ (List.mem_append_right _ (List.mem_map.mpr ⟨i,List.mem_range.mpr hi,rfl⟩))⟩
  rcases List.mem_append.mp h1 with h1 | h1
  · exact .inl (List.mem_singleton.mp h1)
  · obtain ⟨i,hi,e⟩ := List.mem_map.mp h1
    exact .inr ⟨i,List.mem_range.mp hi,e.symm⟩
theorem rows_meet {news:List (Addr × Obj)} {vs:List Value} {one other:Str} {n:Nat} (h:DatAll news vs ((List.range n).map (rowAt one other))) {i:Nat} {v:Value} (hv:vs[i]? = some v) :
    RowV news v (1 + (i:Int)) (colOf (1 + (i:Int)) (KStt.codes one)) (colOf (1 + (i:Int)) (KStt.codes other)) := by
  have hl := h.length
  have hi:i < vs.length := (List.getElem?_eq_some_iff.mp hv).1
  obtain ⟨v',hv',hd⟩ := h.get (show i < ((List.range n).map (rowAt one other)).length by rw [← hl];exact hi)
  rw [hv] at hv'
  cases hv'
  rw [List.getElem_map,List.getElem_range] at hd
  obtain ⟨t,its,k,rfl,hm,t1,t2,t3,rfl⟩ := dat_tuple hd
  exact ⟨t,k,t1,t2,t3,rfl,hm⟩
theorem rows_open {one other:Str} {news:List (Addr × Obj)} {v:Value} (h:RowsIn one other news v):∃ (M:Nat) (l:Addr) (vs:List Value) (nn:Nat),v = .ref l ∧ MaxRun (tx one ++ 9 :: tx other) M ∧ M ≤ 41 ∧ (l,listOf vs.toArray nn) ∈ news ∧ vs.length = 1 + M ∧ DatAll news vs ((List.range (1 + M)).map (rowAt one other)) := by
  obtain ⟨M,h1,h2,h3⟩ := h
  cases h3 with
  | list hm hd=>exact ⟨M,_,_,_,rfl,h1,h2,hm,by rw [hd.length];simp,hd⟩
example:True := by
  k_with "^eval Name" => (k_extra "nmx";k_dflt (refine nmL (by kernel_rfl!) (by rfl) (by k_asm) (by first | (with_reducible assumption) | exact rfl | assumption) ?_);k_whole)
  k_with "exec Assign cons ListComp" => (k_here;k_dflt (refine LCg.Assign_ListComp_U (F₀ := by k_asm) (by rfl) (by with_unfolding_all rfl) (by with_unfolding_all rfl) (by decide) (by rfl) (by decide) (by rfl) (by rfl) (by rfl) ?_))
  k_with "eval ListComp" => (k_here;k_dflt (refine ListComp_3 (F₀ := by k_asm) (by with_unfolding_all rfl) (by decide) (by rfl) (by decide) (by rfl) (by rfl) (by rfl) (by decide) ?_))
  trivial
theorem stage10 {w:World} {mean:ExcName→Option Value} {mg mb:Str→Option Value} {dp un:Nat} {gd:Option (List Code)} {a:Addr} {cd:Value} {A₀:Around} {base h₀:Heap} {L:Addr} {m:Str→Option Value} {s:Shared} {Q:Flow→Shared→Prop} {E:Value→Shared→Prop} {rest:List Stmt} {news:List (Addr × Obj)} {U:Str}
    {W:Nat→Str} {lt:Addr} {zs:List Value} {nt:Nat} (hzl:zs.length = 4) (hz:∀ (i:Nat) y,zs[i]? = some y→RowsIn U (W i) news y)
    (B:Below A₀ base [] h₀) (F:Fr h₀ L s.heap m) (X:(topT.heap_39 w.params).In h₀) (N:News h₀ L s.heap news) (TT:Top topProg LG mean mg mb h₀) (hd:dp ≤ 310) (hu:un ≤ 1000)
    (ht:(lt,listOf zs.toArray nt) ∈ news) (hmt:m "tables" = some (.ref lt))
    (k:∀ ln (ys:List Value) nn h' tk,ys.length = 4→(∀ (i:Nat) y,ys[i]? = some y→∃ k t,y = .int k t ∧ NeedIs U (W i) k)→Fr h₀ L h' (fun y=>if y = "needs" then some (.ref ln) else m y)→News h₀ L h' ((ln,listOf ys.toArray nn) :: news)→wpAny (model PG w) (lawA dp un gd L a cd) (execs rest (lawEnv L a cd)) Q E { s with heap := h',toks := tk }) :
    wpAny (model PG w) (lawA dp un gd L a cd) (execs (lawS10 :: rest) (lawEnv L a cd)) Q E s := by
  intros w mean mg mb dp un gd a cd A₀ base h₀ L m s Q E rest news U W lt zs nt _ hzl hz B F X N TT hd hu ht hmt k
  revert X;unfold PG;k_fill;intro X
  unfold PG at k
  k_with "CompSrc" => k_dflt (
    refine LCg.CompSrc.ledger (by rfl) (by k_asm) (by k_asm) ht (by rw [List.size_toArray,hzl];decide) ?_
    intro g'
    refine lc_rest (fun i y=>∃ (k:Int) (t:Tok),y = Value.int k t ∧ NeedIs U (W i) k) (.inr ⟨_,ht,rfl,_,rfl⟩) ?_ ?_
    intro i v I oI C oC D m₂ ys h tk E' hi' hv hC hx F' N' off ne
    obtain ⟨M,lr,vr,nr,hv9,hM,hM41,hlr,hvl,hdr⟩ := rows_open (hz i v (by simpa using hv))
    subst hv9
    rotate_left
    intro ys hy1 hy2
    rotate_right)
  k_with "Src3" => k_dflt (
    refine Src3.mk (its := vr.toArray) (k := nr) (fun i=>1 + (i:Int)) (fun i=>colOf (1 + (i:Int)) (KStt.codes U)) (fun j=>colOf (1 + (j:Int)) (KStt.codes (W i))) (fun _=>True) (fun j y=>∃ t,y = Value.int (needAt U (W i) j) t) (by rfl) (by k_asm) (by k_asm) (by show (lr,listOf vr.toArray nr) ∈ _;k_mem) (by rw [List.size_toArray];unfold sizeLine;exact (nUp (Nat.le_trans (Nat.le_of_eq hvl) (Nat.add_le_add nLit hM41)) rfl)) (fun j v hv=>rows_meet (hdr.mono (by intro p hp;kst_mem)) (by simpa using hv)) (fun g j t1 t2 t3 I oI C oC D oD m₂ h tk E' hi hC h1 h2 h3 F N off ne=>wpAny_tests_nil (TestE.intro F N ⟨fun _=>True.intro,fun _=>rfl⟩)) ?_ ?_
    intro g2 j t1 t2 t3 I2 oI2 C2 oC2 D2 oD2 m2 h2 tk2 E2 hj _ hC2 x1 x2 x3 F2 N2 off2 ne2
    have hj2:j < 1 + M := by rw [List.size_toArray,hvl] at hj;exact hj
    rotate_left
    intro g2 ys2 hp2
    have hi9 := picked_ints hp2
    rotate_right)
  k_with "binaryOp Add ref ref" => k_dflt (
    refine add_arrays_ints (by k_asm) (by k_asm) (by exact led_list (by k_asm) (by k_mem)) (by exact led_list (by k_asm) (by k_mem)) (.cons 0 _ .nil) (by simpa using hi9) (fun h4 F4 N4 hi4=>?_) (by simp [hvl,sizeLine];exact (nUp (Nat.add_le_add nLit (Nat.add_le_add nLit hM41)) rfl)))
  k_steps
  · exact TEnd.intro (by k_asm) (by k_asm) ⟨_,rfl⟩
  · rename _ ∈ [0] ++ List.map _ _=>e1
    rename ∀ a ∈ [0] ++ List.map _ _,a ≤ _=>e2
    exact TEnd.intro (by k_asm) (by walk_at "my news") ⟨_,_,rfl,need_is hM hvl e1 e2⟩
  · exact k _ _ _ _ _ (by rw [hy1,List.size_toArray,hzl]) hy2 (by k_asm) (by k_asm)
end
section
example:True := by
  w_top off
  k_with_none
  k_with "a" => with_reducible assumption
  k_with "sh" => first | exact sh1 (by k_extra "a") rfl | exact sh2 (by k_extra "a") rfl | exact sh3 (by k_extra "a") rfl | exact sh4 (by k_extra "a") rfl | exact sl1 (by k_extra "a") rfl | exact sl2 (by k_extra "a") rfl | exact sl3 (by k_extra "a") rfl | omega
  k_with "omega" => first | k_extra "a" | decide | exact Int.not_le.mp (by k_extra "a") | exact Int.not_lt.mp (by k_extra "a") | exact nUp (by k_extra "a") rfl | exact iDn (by k_extra "a") rfl | exact iUp (by k_extra "a") rfl | exact iUpLt (by k_extra "a") rfl | exact iDn (Int.add_le_add iLit iCast0) rfl | exact iDn iCast0 rfl | exact nUpLt (Nat.add_le_add (by k_extra "a") (Nat.le_refl _)) rfl | exact Nat.ne_of_lt (Nat.lt_succ_self _) | exact Ne.symm (Nat.ne_of_lt (Nat.lt_succ_self _)) | exact Nat.ne_of_lt (by k_extra "a") | exact Ne.symm (Nat.ne_of_lt (by k_extra "a")) | exact Ne.symm (Int.ne_of_lt (by k_extra "a")) | exact Int.not_le.mpr (iUpLt (iCast (by k_extra "a")) rfl) | lia
  k_with "my news" => first | k_asm | (refine cb_drop (by assumption) (by (intro p9 hp9;kst_mem)))
  k_with "ctr K" => first | exact rfl | assumption
  k_with "ctr D" => ((try simp only [depth_under_make,depth_under_kw,depth_in1,depth_deeper,depth_caller]);(try dsimp only [ktrTop]);k_extra "sh")
  k_with "ctr U" => ((try simp only [units_in1,units_deeper,Around.mark_units,units_caller]);(try dsimp only [ktrTop]);k_extra "sh")
  k_with "nmx" => (with_reducible show wpAny _ _ (eval _ (envX _ _ _ _ _ _)) _ _ _)
  k_with "^eval Name" => (k_here;k_extra "nmx";name_kind "globalImplicit";name_is_builtin;k_dflt (refine nameX_B (by k_asm) (by k_asm) (by k_asm) (by k_is) (by boot_fast) (by decide) ?_ (by rfl) (by kernel_rfl!));k_whole)
  k_with "^eval Name" => (k_here;k_extra "nmx";name_kind "globalImplicit";k_dflt (refine nameX_K (by k_asm) (by k_asm) (by k_asm) (by k_is) ?_ (by rfl) (by kernel_rfl!));k_whole)
  k_with "^eval Name" => (k_here;k_extra "nmx";name_kind "local";k_dflt (refine nmL (by rfl) (by rfl) (by k_asm) (by exact rfl) ?_);k_whole)
  k_with "call type:range" => ((rename Fr _ _ _ _=>f9);(rename News _ _ _ _=>n9);k_dflt (first | refine range1_rows f9 n9 ?_ | refine range2_rows f9 n9 ?_);intro _ _ _ _ _ _ _ _ _)
  k_with "call builtin:len" => ((with_reducible show wpAny _ _ (call (Value.builtin "len") [Value.str _ _]) _ _ _);refine SBL.len (by omega) ?_)
  k_with "ws here" => first | k_extra "a" | exact WsIn.mono (by k_extra "a") (by intro p hp;kst_mem)
  k_with "ctr back" => (intro r9 h9 tk9 hr9 F9 N9;obtain ⟨t9,hr9⟩ := hr9;subst hr9;(try dsimp only);(try k_fold))
  trivial
example:True := by
  k_with "omega" => first | with_reducible assumption | lia
  trivial
noncomputable def cst (x y:Nat):Int := costOf ⟨#[x]⟩ ⟨#[y]⟩
theorem cst_le (x y:Nat):0 ≤ cst x y ∧ cst x y ≤ 2 := cost_le _ _
theorem cst_self (x:Nat):cst x x = 0 := costOf0 (by simp)
theorem cst_zero {x y:Nat} (h:cst x y = 0):x = y := by
  unfold cst costOf at h
  split at h
  · rename_i e
    have := beq_iff_eq.mp e
    injection this with e
    have := congrArg (fun q=>q.toList) e
    simpa using this
  · split at h <;> (first | exact Nat.le_antisymm (bC (fk20 (Z2 K1 K0 (Lh 10 0 V0 V1 Lf)) rfl h)) (bC (fk20 (Z2 K1 K0 (Lh 10 0 V0 V1 Lf)) rfl h)) | exact Nat.le_antisymm (bC (fk20 (Z2 K2 K0 (Lh 10 0 V0 V1 Lf)) rfl h)) (bC (fk20 (Z2 K2 K0 (Lh 10 0 V0 V1 Lf)) rfl h)))
theorem beq_symm (a b:Str):(a == b) = (b == a) := by
  rw [Bool.eq_iff_iff,beq_iff_eq,beq_iff_eq]
  exact ⟨Eq.symm,Eq.symm⟩
theorem cst_comm (x y:Nat):cst x y = cst y x := by
  unfold cst costOf
  rw [beq_symm ⟨#[x]⟩ ⟨#[y]⟩,beq_symm (Txt.lower ⟨#[x]⟩) (Txt.lower ⟨#[y]⟩)]
inductive Al:List Nat→List Nat→Int→Prop
  | nil:Al [] [] 0
  | ins {a b:List Nat} {n:Int} (y:Nat):Al a b n→Al a (y :: b) (n + 2)
  | del {a b:List Nat} {n:Int} (x:Nat):Al a b n→Al (x :: a) b (n + 2)
  | sub {a b:List Nat} {n:Int} (x y:Nat):Al a b n→Al (x :: a) (y :: b) (n + cst x y)
theorem Al.cast {a b:List Nat} {n m:Int} (h:Al a b n) (e:n = m):Al a b m := e ▸ h
theorem Al.nonneg {a b:List Nat} {n:Int} (h:Al a b n):0 ≤ n := by
  induction h with
  | nil=>exact (by decide)
  | ins y _ ih=>exact (iDn (Int.add_le_add ih iLit) rfl)
  | del x _ ih=>exact (iDn (Int.add_le_add ih iLit) rfl)
  | sub x y _ ih=>have := (cst_le x y).1;exact (iDn (Int.add_le_add ih this) rfl)
theorem Al.symm {a b:List Nat} {n:Int} (h:Al a b n):Al b a n := by
  induction h with
  | nil=>exact .nil
  | ins y _ ih=>exact .del y ih
  | del x _ ih=>exact .ins x ih
  | sub x y _ ih=>rw [cst_comm];exact .sub y x ih
theorem Al.same:∀ l:List Nat,Al l l 0
  | []=>.nil
  | x :: l=>(Al.sub x x (Al.same l)).cast (by rw [cst_self];rfl)
theorem Al.empty:∀ l:List Nat,Al [] l (2 * (l.length:Int))
  | []=>.nil
  | x :: l=>(Al.ins x (Al.empty l)).cast (by rw [List.length_cons];exact rfl)
theorem Al.app {a b c d:List Nat} {n m:Int} (h:Al a b n) (k:Al c d m):Al (a ++ c) (b ++ d) (n + m) := by
  induction h with
  | nil=>exact k.cast (Int.le_antisymm (bC (fk01 (Z4 V0 (La K0 V0) Lf) rfl)) (bC (fk01 (Z4 (La K0 V0) V0 Lf) rfl)))
  | ins y _ ih=>exact (Al.ins y ih).cast (Int.le_antisymm (bC (fk02 (Z4 (La (La V0 V1) K2) (La (La V0 K2) V1) Lf) rfl)) (bC (fk02 (Z4 (La (La V0 K2) V1) (La (La V0 V1) K2) Lf) rfl)))
  | del x _ ih=>exact (Al.del x ih).cast (Int.le_antisymm (bC (fk02 (Z4 (La (La V0 V1) K2) (La (La V0 K2) V1) Lf) rfl)) (bC (fk02 (Z4 (La (La V0 K2) V1) (La (La V0 V1) K2) Lf) rfl)))
  | sub x y _ ih=>exact (Al.sub x y ih).cast (Int.le_antisymm (bC (fk03 (Z4 (La (La V0 V1) V2) (La (La V0 V2) V1) Lf) rfl)) (bC (fk03 (Z4 (La (La V0 V1) V2) (La (La V0 V2) V1) Lf) rfl)))
theorem Al.snocI {a b:List Nat} {n:Int} (y:Nat) (h:Al a b n):Al a (b ++ [y]) (n + 2) := by
  have := h.app (Al.ins y .nil)
  rw [List.append_nil] at this
  exact this.cast (by exact rfl)
theorem Al.snocD {a b:List Nat} {n:Int} (x:Nat) (h:Al a b n):Al (a ++ [x]) b (n + 2) := by
  have := h.app (Al.del x .nil)
  rw [List.append_nil] at this
  exact this.cast (by exact rfl)
theorem Al.snocS {a b:List Nat} {n:Int} (x y:Nat) (h:Al a b n):Al (a ++ [x]) (b ++ [y]) (n + cst x y) :=
  (h.app (Al.sub x y .nil)).cast (Int.le_antisymm (bC (fk02 (Z4 (La V0 (La K0 V1)) (La V0 V1) Lf) rfl)) (bC (fk02 (Z4 (La V0 V1) (La V0 (La K0 V1)) Lf) rfl)))
theorem Al.rev {a b:List Nat} {n:Int} (h:Al a b n):Al a.reverse b.reverse n := by
  induction h with
  | nil=>exact .nil
  | ins y _ ih=>rw [List.reverse_cons];exact ih.snocI y
  | del x _ ih=>rw [List.reverse_cons];exact ih.snocD x
  | sub x y _ ih=>rw [List.reverse_cons,List.reverse_cons];exact ih.snocS x y
theorem Al.dropL {a b:List Nat} {n:Int} (h:Al a b n):∀ {x:Nat} {a':List Nat},a = x :: a'→∃ m,m ≤ n + 2 ∧ Al a' b m := by
  induction h with
  | nil=>intro x a' e;cases e
  | ins y _ ih=>intro x a' e;obtain ⟨m,h1,h2⟩ := ih e;exact ⟨m + 2,by exact (Int.add_le_add_right h1 _),.ins y h2⟩
  | del x h _=>intro x' a' e;cases e;exact ⟨_,by exact bC (fk01 (Z4 V0 (La (La V0 K2) K2) Lf) rfl),h⟩
  | sub x y h _=>intro x' a' e;cases e;exact ⟨_,by have := (cst_le x y).1;exact bC (fk02 (Z0 K0 V0 (Z4 (La V1 K2) (La (La V1 V0) K2) Lf)) rfl this),.ins y h⟩
theorem Al.dropR {a b:List Nat} {n:Int} {y:Nat} (h:Al a (y :: b) n):∃ m,m ≤ n + 2 ∧ Al a b m := by
  obtain ⟨m,h1,h2⟩ := h.symm.dropL rfl
  exact ⟨m,h1,h2.symm⟩
theorem Al.turnR {a b:List Nat} {n:Int} (h:Al a b n):∀ {y:Nat} {b':List Nat} (z:Nat),b = y :: b'→∃ m,m ≤ n + 2 ∧ Al a (z :: b') m := by
  induction h with
  | nil=>intro y b' z e;cases e
  | ins y h _=>intro y' b' z e;cases e;exact ⟨_,by exact bC (fk01 (Z4 (La V0 K2) (La (La V0 K2) K2) Lf) rfl),.ins z h⟩
  | del x _ ih=>intro y' b' z e;obtain ⟨m,h1,h2⟩ := ih z e;exact ⟨m + 2,by exact (Int.add_le_add_right h1 _),.del x h2⟩
  | sub x y h _=>intro y' b' z e;cases e;exact ⟨_,by have := (cst_le x y).1;have := (cst_le x z).2;exact bC (fk03 (Z0 V0 K2 (Z0 K0 V1 (Z4 (La V2 V0) (La (La V2 V1) K2) Lf))) rfl this (by assumption)),.sub x z h⟩
theorem Al.cut {a b:List Nat} {n:Int} (h:Al a b n):∀ {p q:List Nat},b = p ++ q→∃ a1 a2 n1 n2,a = a1 ++ a2 ∧ Al a1 p n1 ∧ Al a2 q n2 ∧ n = n1 + n2 := by
  induction h with
  | nil =>
    intro p q e
    obtain ⟨rfl,rfl⟩ := List.append_eq_nil_iff.mp e.symm
    exact ⟨[],[],0,0,rfl,.nil,.nil,rfl⟩
  | @ins a b n y h ih =>
    intro p q e
    cases p with
    | nil=>exact ⟨[],a,0,n + 2,rfl,.nil,by rw [← show y :: b = q from e];exact .ins y h,by exact Int.le_antisymm (bC (fk01 (Z4 (La V0 K2) (La K0 (La V0 K2)) Lf) rfl)) (bC (fk01 (Z4 (La K0 (La V0 K2)) (La V0 K2) Lf) rfl))⟩
    | cons z p =>
      injection e with e1 e2
      subst e1
      obtain ⟨a1,a2,n1,n2,h1,h2,h3,h4⟩ := ih e2
      exact ⟨a1,a2,n1 + 2,n2,h1,.ins _ h2,h3,by exact Int.le_antisymm (bC (fk03 (Z2 V0 (La V1 V2) (Z4 (La V0 K2) (La (La V1 K2) V2) Lf)) rfl h4)) (bC (fk03 (Z3 V0 (La V1 V2) (Z4 (La (La V1 K2) V2) (La V0 K2) Lf)) rfl h4))⟩
  | @del a b n x h ih =>
    intro p q e
    obtain ⟨a1,a2,n1,n2,h1,h2,h3,h4⟩ := ih e
    exact ⟨x :: a1,a2,n1 + 2,n2,by rw [h1];rfl,.del _ h2,h3,by exact Int.le_antisymm (bC (fk03 (Z2 V0 (La V1 V2) (Z4 (La V0 K2) (La (La V1 K2) V2) Lf)) rfl h4)) (bC (fk03 (Z3 V0 (La V1 V2) (Z4 (La (La V1 K2) V2) (La V0 K2) Lf)) rfl h4))⟩
  | @sub a b n x y h ih =>
    intro p q e
    cases p with
    | nil=>exact ⟨[],x :: a,0,n + cst x y,rfl,.nil,by rw [← show y :: b = q from e];exact .sub x y h,by exact Int.le_antisymm (bC (fk02 (Z4 (La V0 V1) (La K0 (La V0 V1)) Lf) rfl)) (bC (fk02 (Z4 (La K0 (La V0 V1)) (La V0 V1) Lf) rfl))⟩
    | cons z p =>
      injection e with e1 e2
      subst e1
      obtain ⟨a1,a2,n1,n2,h1,h2,h3,h4⟩ := ih e2
      exact ⟨x :: a1,a2,n1 + cst x y,n2,by rw [h1];rfl,.sub x y h2,h3,by exact Int.le_antisymm (bC (fk04 (Z2 V0 (La V1 V2) (Z4 (La V0 V3) (La (La V1 V3) V2) Lf)) rfl h4)) (bC (fk04 (Z3 V0 (La V1 V2) (Z4 (La (La V1 V3) V2) (La V0 V3) Lf)) rfl h4))⟩
theorem Al.stroke {a b c:List Nat} {n:Int} (h:Al a b n) (k:Stroke b c):∃ m,m ≤ n + 2 ∧ Al a c m := by
  cases k with
  | ins p q e _ =>
    obtain ⟨a1,a2,n1,n2,rfl,h2,h3,rfl⟩ := h.cut rfl
    exact ⟨n1 + (n2 + 2),by exact bC (fk02 (Z4 (La V0 (La V1 K2)) (La (La V0 V1) K2) Lf) rfl),h2.app (.ins e h3)⟩
  | del p q d =>
    obtain ⟨a1,a2,n1,n2,rfl,h2,h3,rfl⟩ := h.cut rfl
    obtain ⟨m,h4,h5⟩ := h3.dropR
    exact ⟨n1 + m,by exact bC (fk03 (Z0 V0 (La V1 K2) (Z4 (La V2 V0) (La (La V2 V1) K2) Lf)) rfl h4),h2.app h5⟩
  | sub p q e d _ =>
    obtain ⟨a1,a2,n1,n2,rfl,h2,h3,rfl⟩ := h.cut rfl
    obtain ⟨m,h4,h5⟩ := h3.turnR e rfl
    exact ⟨n1 + m,by exact bC (fk03 (Z0 V0 (La V1 K2) (Z4 (La V2 V0) (La (La V2 V1) K2) Lf)) rfl h4),h2.app h5⟩
theorem Al.last {a b:List Nat} {x y:Nat} {n:Int} (h:Al (a ++ [x]) (b ++ [y]) n) :
    (∃ m,Al a b m ∧ m + cst x y ≤ n) ∨ (∃ m,Al (a ++ [x]) b m ∧ m + 2 ≤ n) ∨ (∃ m,Al a (b ++ [y]) m ∧ m + 2 ≤ n) := by
  have h2 := h.rev
  rw [List.reverse_append,List.reverse_append] at h2
  generalize hA:[x].reverse ++ a.reverse = A at h2
  generalize hB:[y].reverse ++ b.reverse = B at h2
  cases h2 with
  | nil=>simp at hA
  | @ins _ b' m z h3 =>
    simp only [List.reverse_cons,List.reverse_nil,List.nil_append,List.cons_append,List.cons.injEq] at hB
    obtain ⟨rfl,rfl⟩ := hB
    refine .inr (.inl ⟨m,?_,by exact (Int.le_refl _)⟩)
    have := h3.rev
    rw [← hA] at this
    simpa using this
  | @del a' _ m z h3 =>
    simp only [List.reverse_cons,List.reverse_nil,List.nil_append,List.cons_append,List.cons.injEq] at hA
    obtain ⟨rfl,rfl⟩ := hA
    refine .inr (.inr ⟨m,?_,by exact (Int.le_refl _)⟩)
    have := h3.rev
    rw [← hB] at this
    simpa using this
  | @sub a' b' m z1 z2 h3 =>
    simp only [List.reverse_cons,List.reverse_nil,List.nil_append,List.cons_append,List.cons.injEq] at hA hB
    obtain ⟨rfl,rfl⟩ := hA
    obtain ⟨rfl,rfl⟩ := hB
    refine .inl ⟨m,?_,by exact (Int.le_refl _)⟩
    have := h3.rev
    simpa using this
theorem Al.len {a b:List Nat} {n:Int} (h:Al a b n):2 * ((b.length:Int) - a.length) ≤ n ∧ (n = 2 * ((b.length:Int) - a.length)→∀ c ∈ a,c ∈ b) := by
  induction h with
  | nil=>simp
  | @ins a b n y h ih =>
    rw [List.length_cons]
    refine ⟨by exact bC (fk21 (Z0 (Lm 2 (Ls V0 V1)) V2 (Z4 (Lm 2 (Ls (La V0 K1) V1)) (La V2 K2) Lf)) rfl ih.1),fun e c hc=>.tail _ (ih.2 (Int.le_antisymm (bC (fk21 (Z2 (La V2 K2) (Lm 2 (Ls (La V0 K1) V1)) (Z4 V2 (Lm 2 (Ls V0 V1)) Lf)) rfl e)) (bC (fk21 (Z3 (La V2 K2) (Lm 2 (Ls (La V0 K1) V1)) (Z4 (Lm 2 (Ls V0 V1)) V2 Lf)) rfl e))) c hc)⟩
  | @del a b n x h ih =>
    rw [List.length_cons]
    refine ⟨by exact bC (fk21 (Z0 (Lm 2 (Ls V0 V1)) V2 (Z4 (Lm 2 (Ls V0 (La V1 K1))) (La V2 K2) Lf)) rfl ih.1),fun e c hc=>by lia⟩
  | @sub a b n x y h ih =>
    have := (cst_le x y).1
    rw [List.length_cons,List.length_cons]
    refine ⟨by exact bC (fk22 (Z0 K0 V2 (Z0 (Lm 2 (Ls V0 V1)) V3 (Z4 (Lm 2 (Ls (La V0 K1) (La V1 K1))) (La V3 V2) Lf))) rfl this ih.1),fun e c hc=>?_⟩
    have h0 := cst_zero (show cst x y = 0 by exact Int.le_antisymm (bC (fk22 (Z2 (La V2 V3) (Lm 2 (Ls (La V0 K1) (La V1 K1))) (Z0 (Lm 2 (Ls V0 V1)) V2 (Z4 V3 K0 Lf))) rfl e ih.1)) (bC (fk01 (Z0 K0 V0 (Z4 K0 V0 Lf)) rfl this)))
    subst h0
    rcases List.mem_cons.mp hc with rfl | hc
    · exact .head _
    · exact .tail _ (ih.2 (Int.le_antisymm (bC (fk22 (Z2 (La V2 V3) (Lm 2 (Ls (La V0 K1) (La V1 K1))) (Z0 K0 V3 (Z4 V2 (Lm 2 (Ls V0 V1)) Lf))) rfl e this)) (bC (fk21 (Z0 (Lm 2 (Ls V0 V1)) V2 (Z4 (Lm 2 (Ls V0 V1)) V2 Lf)) rfl ih.1))) c hc)
noncomputable def Dist (a b:List Nat) (d:Int):Prop := Al a b d ∧ ∀ n,Al a b n→d ≤ n
theorem Dist.symm {a b:List Nat} {d:Int} (h:Dist a b d):Dist b a d := ⟨h.1.symm,fun n k=>h.2 n k.symm⟩
theorem Dist.uniq {a b:List Nat} {d e:Int} (h:Dist a b d) (k:Dist a b e):d = e := by
  have := h.2 _ k.1
  have := k.2 _ h.1
  exact (Int.le_antisymm (by assumption) this)
theorem Dist.nilL (b:List Nat):Dist [] b (2 * (b.length:Int)) := ⟨Al.empty b,fun n h=>by have := h.len.1;simp at this;exact this⟩
theorem Dist.nilR (a:List Nat):Dist a [] (2 * (a.length:Int)) := (Dist.nilL a).symm
theorem Dist.step {a b:List Nat} {x y:Nat} {d1 d2 d3:Int} (h1:Dist a b d1) (h2:Dist (a ++ [x]) b d2) (h3:Dist a (b ++ [y]) d3):Dist (a ++ [x]) (b ++ [y]) (min (min d3 d2 + 2) (d1 + cst x y)) := by
  constructor
  · have a1 := h1.1.snocS x y
    have a2 := h2.1.snocI y
    have a3 := h3.1.snocD x
    rcases Int.le_total (min d3 d2 + 2) (d1 + cst x y) with q | q
    · rw [Int.min_eq_left q]
      rcases Int.le_total d3 d2 with p | p
      · rw [Int.min_eq_left p];exact a3
      · rw [Int.min_eq_right p];exact a2
    · rw [Int.min_eq_right q];exact a1
  · intro n h
    rcases h.last with ⟨m,k1,k2⟩ | ⟨m,k1,k2⟩ | ⟨m,k1,k2⟩
    · have := h1.2 _ k1;exact bC (fk05 (Z0 V0 V1 (Z0 (La V1 V2) V3 (Z0 V4 (La V0 V2) (Z4 V4 V3 Lf)))) rfl this k2 (Int.min_le_right _ _))
    · have := h2.2 _ k1;exact bC (fk05 (Z0 V0 V1 (Z0 (La V1 K2) V2 (Z0 V3 (La V4 K2) (Z0 V4 V0 (Z4 V3 V2 Lf))))) rfl this k2 (Int.min_le_left _ _) (Int.min_le_right _ _))
    · have := h3.2 _ k1;exact bC (fk05 (Z0 V0 V1 (Z0 (La V1 K2) V2 (Z0 V3 (La V4 K2) (Z0 V4 V0 (Z4 V3 V2 Lf))))) rfl this k2 (Int.min_le_left _ _) (Int.min_le_left _ _))
theorem Dist.tl {x:Nat} {a b:List Nat} {d:Int} (h:Dist (x :: a) (x :: b) d):Dist a b d := by
  have key:∀ n,Al (x :: a) (x :: b) n→∃ m,m ≤ n ∧ Al a b m := by
    intro n k
    cases k with
    | ins _ k=>obtain ⟨m,h1,h2⟩ := k.dropL rfl;exact ⟨m,h1,h2⟩
    | del _ k=>obtain ⟨m,h1,h2⟩ := k.dropR;exact ⟨m,h1,h2⟩
    | sub _ _ k=>exact ⟨_,by rw [cst_self];exact bC (fk01 (Z4 V0 (La V0 K0) Lf) rfl),k⟩
  have up:∀ n,Al a b n→Al (x :: a) (x :: b) n := fun n k=>(Al.sub x x k).cast (by rw [cst_self];exact Int.le_antisymm (bC (fk01 (Z4 (La V0 K0) V0 Lf) rfl)) (bC (fk01 (Z4 V0 (La V0 K0) Lf) rfl)))
  obtain ⟨m,h1,h2⟩ := key d h.1
  have h3 := h.2 _ (up _ h2)
  have e:m = d := by exact (Int.le_antisymm h1 h3)
  subst e
  exact ⟨h2,fun n k=>h.2 _ (up _ k)⟩
theorem Dist.rev {a b:List Nat} {d:Int} (h:Dist a b d):Dist a.reverse b.reverse d :=
  ⟨h.1.rev,fun n k=>h.2 n (by have := k.rev;simpa using this)⟩
theorem Dist.pre {a b:List Nat} {d:Int} (h:Dist a b d):Dist (a.drop (cpre a b)) (b.drop (cpre a b)) d := by
  induction a generalizing b with
  | nil=>unfold cpre;exact h
  | cons x a ih =>
    cases b with
    | nil=>unfold cpre;exact h
    | cons y b =>
      unfold cpre
      split
      · rename_i e
        have e':x = y := by simpa using e
        subst e'
        exact ih h.tl
      · exact h
theorem Dist.suf {a b:List Nat} {d:Int} (h:Dist a b d):Dist (a.take (a.length - csuf a b)) (b.take (b.length - csuf a b)) d := by
  have := h.rev.pre.rev
  rw [List.reverse_drop,List.reverse_drop,List.reverse_reverse,List.reverse_reverse,List.length_reverse,List.length_reverse] at this
  unfold csuf
  exact this
theorem take_snoc {l:List Nat} {i:Nat} (h:i < l.length):l.take (i + 1) = l.take i ++ [l.getD i 0] := by
  rw [List.take_add_one,List.getElem?_eq_getElem h]
  simp [List.getD,h]
noncomputable def RowIs (a b:List Nat) (row:List Int):Prop := row.length = a.length ∧ ∀ i,i < a.length→Dist (a.take (i + 1)) b (row.getD i 0)
theorem row_first (a:List Nat):RowIs a [] (rangeInts 2 2 a.length) := by
  refine ⟨rangeInts_length _ _ _,fun i hi=>?_⟩
  have e:(rangeInts 2 2 a.length).getD i 0 = 2 * (((a.take (i + 1)).length:Nat):Int) := by
    rw [List.getD_eq_getElem?_getD,rangeInts_get hi,List.length_take]
    show 2 + (i:Int) * 2 = _
    exact Int.le_antisymm (bC (fk20 (Lh 9 2 V0 (La V1 K1) (Z4 (La K2 (Lr V1 2)) (Lm 2 V0) Lf)) rfl (Nat.min_eq_left (bC (fk20 (Z7 V0 V1 (Z10 (La V0 K1) V1 Lf)) rfl hi))))) (bC (fk20 (Lh 8 2 V0 (La V1 K1) (Z4 (Lm 2 V0) (La K2 (Lr V1 2)) Lf)) rfl (Nat.min_eq_left (bC (fk20 (Z7 V0 V1 (Z10 (La V0 K1) V1 Lf)) rfl hi)))))
  rw [e]
  exact Dist.nilR _
theorem getD_snoc {l:List Int} {r:Int} {i k:Nat} (h:l.length = i):(l ++ [r]).getD k 0 = if k < i then l.getD k 0 else if k = i then r else 0 := by
  subst h
  simp only [List.getD_eq_getElem?_getD,List.getElem?_append]
  split
  · rfl
  · rename_i q
    split
    · rename_i q2;subst q2;simp
    · rw [List.getElem?_eq_none (by simp;lia)];rfl
structure InnOk (a b:List Nat) (bc:Nat) (i:Nat) (q:Int × Int × Int × List Int):Prop where
  d:Dist (a.take i) b q.1
  r:if i = 0 then q.2.1 = 2 * (b.length:Int) else Dist (a.take i) (b ++ [bc]) q.2.1
  len:q.2.2.2.length = i
  row:∀ k,k < i→Dist (a.take (k + 1)) (b ++ [bc]) (q.2.2.2.getD k 0)
  mn:∀ k,k < i→q.2.2.1 ≤ q.2.2.2.getD k 0
theorem min_up {l r c:Int} (h:c ≤ 2):min (min (l + 2) r + 2) (l + c) = min (min l r + 2) (l + c) := by
  have up:l ≤ l + 2 := Int.le_add_of_nonneg_right (by decide)
  rcases Int.le_total r l with q | q
  · rw [Int.min_eq_right q,Int.min_eq_right (Int.le_trans q up)]
  · rw [Int.min_eq_left q,Int.min_eq_right (Int.add_le_add_left h l),Int.min_eq_right (Int.add_le_add (Int.le_min.mpr ⟨up,q⟩) h)]
theorem inn_is {a b:List Nat} {bc:Nat} {row:List Int} (h:RowIs a b row):∀ i,i ≤ a.length→InnOk a b bc i (inn bc a row (2 * (b.length:Int)) i)
  | 0,_=>by
    refine ⟨?_,rfl,rfl,fun k hk=>absurd hk (Nat.not_lt_zero k),fun k hk=>absurd hk (Nat.not_lt_zero k)⟩
    rw [List.take_zero]
    exact Dist.nilL b
  | i + 1,hi=>by
    obtain ⟨h1,h2,h3,h4,h5⟩ := inn_is h i (bC (fk20 (Z6 (La V0 K1) V1 (Z10 V0 V1 Lf)) rfl hi))
    have hr := h.2 i (by omega)
    have ht := take_snoc (l := a) (i := i) (by omega)
    rw [show inn bc a row (2 * (b.length:Int)) (i + 1) = (row.getD i 0,min (min (inn bc a row (2 * (b.length:Int)) i).2.1 (row.getD i 0) + 2) ((inn bc a row (2 * (b.length:Int)) i).1 + costOf ⟨#[bc]⟩ ⟨#[a.getD i 0]⟩),if min (min (inn bc a row (2 * (b.length:Int)) i).2.1 (row.getD i 0) + 2) ((inn bc a row (2 * (b.length:Int)) i).1 + costOf ⟨#[bc]⟩ ⟨#[a.getD i 0]⟩) < (inn bc a row (2 * (b.length:Int)) i).2.2.1 then min (min (inn bc a row (2 * (b.length:Int)) i).2.1 (row.getD i 0) + 2) ((inn bc a row (2 * (b.length:Int)) i).1 + costOf ⟨#[bc]⟩ ⟨#[a.getD i 0]⟩) else (inn bc a row (2 * (b.length:Int)) i).2.2.1,(inn bc a row (2 * (b.length:Int)) i).2.2.2 ++ [min (min (inn bc a row (2 * (b.length:Int)) i).2.1 (row.getD i 0) + 2) ((inn bc a row (2 * (b.length:Int)) i).1 + costOf ⟨#[bc]⟩ ⟨#[a.getD i 0]⟩)]) from rfl]
    generalize inn bc a row (2 * (b.length:Int)) i = q at *
    have hc:costOf ⟨#[bc]⟩ ⟨#[a.getD i 0]⟩ = cst (a.getD i 0) bc := cst_comm _ _
    have hR:Dist (a.take (i + 1)) (b ++ [bc]) (min (min q.2.1 (row.getD i 0) + 2) (q.1 + costOf ⟨#[bc]⟩ ⟨#[a.getD i 0]⟩)) := by
      rw [ht] at hr ⊢
      rw [hc]
      by_cases hz:i = 0
      · rw [if_pos hz] at h2
        have h3':Dist (a.take i) (b ++ [bc]) (2 * (((b ++ [bc]).length:Nat):Int)) := by rw [hz,List.take_zero];exact Dist.nilL _
        have hs := Dist.step h1 hr h3'
        have e1:q.1 = 2 * (b.length:Int) := by
          refine h1.uniq ?_
          rw [hz,List.take_zero];exact Dist.nilL b
        have c2 := (cst_le (a.getD i 0) bc).2
        have e:min (min (2 * (((b ++ [bc]).length:Nat):Int)) (row.getD i 0) + 2) (q.1 + cst (a.getD i 0) bc) = min (min q.2.1 (row.getD i 0) + 2) (q.1 + cst (a.getD i 0) bc) := by
          rw [h2,e1,List.length_append,List.length_singleton,show (2:Int) * ((b.length + 1:Nat):Int) = 2 * (b.length:Int) + 2 from Int.mul_add 2 (b.length:Int) 1];exact min_up c2
        rw [e] at hs
        exact hs
      · rw [if_neg hz] at h2
        exact Dist.step h1 hr h2
    generalize min (min q.2.1 (row.getD i 0) + 2) (q.1 + costOf ⟨#[bc]⟩ ⟨#[a.getD i 0]⟩) = r at *
    refine ⟨hr,by rw [if_neg (by exact (Ne.symm (Nat.ne_of_lt (nDnLt (Nat.add_le_add (Nat.zero_le _) nLit) rfl))))];exact hR,by simp [h3],fun k hk=>?_,fun k hk=>?_⟩
    · show Dist _ _ ((q.2.2.2 ++ [r]).getD k 0)
      rw [getD_snoc h3]
      by_cases hk2:k < i
      · rw [if_pos hk2];exact h4 k hk2
      · have:k = i := by exact Nat.le_antisymm (bC (fk20 (Z7 V0 (La V1 K1) (Z10 V0 V1 Lf)) rfl hk)) (bC (fk20 (Z11 V0 V1 (Z10 V1 V0 Lf)) rfl hk2))
        subst this
        rw [if_neg hk2,if_pos rfl];exact hR
    · show (if r < q.2.2.1 then r else q.2.2.1) ≤ (q.2.2.2 ++ [r]).getD k 0
      rw [getD_snoc h3]
      by_cases hk2:k < i
      · rw [if_pos hk2];have := h5 k hk2;split <;> (first | exact (Int.le_trans (Int.le_of_lt (by assumption)) this) | exact this)
      · have:k = i := by exact Nat.le_antisymm (bC (fk20 (Z7 V0 (La V1 K1) (Z10 V0 V1 Lf)) rfl hk)) (bC (fk20 (Z11 V0 V1 (Z10 V1 V0 Lf)) rfl hk2))
        subst this
        rw [if_neg hk2,if_pos rfl];split <;> (first | exact (Int.le_refl _) | exact (Int.not_lt.mp (by assumption)))
theorem al_take {a b c:List Nat} {n:Int} (h:Al a (b ++ c) n):∃ i,i ≤ a.length ∧ ∃ m,m ≤ n ∧ Al (a.take i) b m := by
  obtain ⟨a1,a2,n1,n2,rfl,h2,h3,rfl⟩ := h.cut rfl
  refine ⟨a1.length,by simp,n1,by have := h3.nonneg;exact bC (fk02 (Z0 K0 V0 (Z4 V1 (La V1 V0) Lf)) rfl this),?_⟩
  rw [List.take_left']
  · exact h2
  · rfl
theorem row_min {a b:List Nat} {bc:Nat} {q:Int × Int × Int × List Int} {c:List Nat} {n:Int} (ha:0 < a.length) (h:InnOk a b bc a.length q) (k:Al a (b ++ [bc] ++ c) n):q.2.2.1 ≤ n := by
  obtain ⟨i,hi,m,hm,hA⟩ := al_take k
  rcases Nat.eq_zero_or_pos i with rfl | hp
  · have h1 := h.row 0 ha
    have h2 := h.mn 0 ha
    rw [List.take_zero] at hA
    have h3 := hA.len.1
    have h4:Al (a.take (0 + 1)) (b ++ [bc]) (2 * (b.length:Int) + cst (a.getD 0 0) bc) := by
      rw [take_snoc ha,List.take_zero]
      exact (Al.empty b).snocS _ _
    have h5 := h1.2 _ h4
    have := (cst_le (a.getD 0 0) bc).2
    rw [List.length_append,List.length_singleton] at h3
    simp only [List.length_nil] at h3
    exact bC (fk15 (Z0 V1 K2 (Z0 V2 (La (Lm 2 V0) V1) (Z0 (Lm 2 (Ls (La V0 K1) K0)) V3 (Z0 V4 V2 (Z0 V3 V5 (Z4 V4 V5 Lf)))))) rfl this h5 h3 h2 hm)
  · obtain ⟨j,rfl⟩:∃ j,i = j + 1 := ⟨i - 1,by exact Nat.le_antisymm (bC (fk20 (Z9 (La V0 K1) V1 (Z10 V1 (La V0 K1) Lf)) rfl (sC (bC (fk10 (Z7 K0 V0 (Z10 K1 V0 Lf)) rfl hp))))) (bC (fk20 (Z8 (La V0 K1) V1 (Z10 (La V0 K1) V1 Lf)) rfl (sC (bC (fk10 (Z7 K0 V0 (Z10 K1 V0 Lf)) rfl hp)))))⟩
    have h1 := (h.row j (bC (fk20 (Z6 (La V0 K1) V1 (Z11 V0 V1 Lf)) rfl hi))).2 _ hA
    have h2 := h.mn j (bC (fk20 (Z6 (La V0 K1) V1 (Z11 V0 V1 Lf)) rfl hi))
    exact (Int.le_trans h2 (Int.le_trans h1 hm))
theorem levRun_is {a:List Nat} {mc d:Int} (ha:0 < a.length):∀ (bs b:List Nat) (row:List Int) (res:Int),RowIs a b row→(bs = []→res = row.getD (a.length - 1) 0)→Dist a (b ++ bs) d →
    levRun a mc b.length bs row res = d ∨ (mc < d ∧ levRun a mc b.length bs row res = mc + 1)
  | [],b,row,res,h,hr,hd=>by
    left
    rw [levRun,hr rfl]
    have h1 := h.2 (a.length - 1) (bC (fk20 (Z8 (La V0 K1) V1 (Z11 V0 V1 Lf)) rfl (sC (bC (fk10 (Z7 K0 V0 (Z10 K1 V0 Lf)) rfl ha)))))
    rw [show a.length - 1 + 1 = a.length from by exact Nat.le_antisymm (bC (fk20 (Z8 (La V0 K1) V1 (Z10 (La V0 K1) V1 Lf)) rfl (sC (bC (fk10 (Z7 K0 V0 (Z10 K1 V0 Lf)) rfl ha))))) (bC (fk20 (Z9 (La V0 K1) V1 (Z10 V1 (La V0 K1) Lf)) rfl (sC (bC (fk10 (Z7 K0 V0 (Z10 K1 V0 Lf)) rfl ha))))),List.take_length] at h1
    rw [List.append_nil] at hd
    exact h1.uniq hd
  | bc :: bs,b,row,res,h,hr,hd=>by
    have hI := inn_is (bc := bc) h a.length (Nat.le_refl _)
    rw [levRun]
    generalize hq:inn bc a row (2 * (b.length:Int)) a.length = q at *
    have hd':Dist a (b ++ [bc] ++ bs) d := by rw [List.append_assoc];exact hd
    show (if q.2.2.1 > mc then mc + 1 else levRun a mc (b.length + 1) bs q.2.2.2 q.2.1) = d ∨ _
    split
    · rename_i hgt
      right
      have := row_min ha hI hd'.1
      exact ⟨by exact (Int.lt_of_lt_of_le hgt this),rfl⟩
    · have h2 := levRun_is (mc := mc) ha bs (b ++ [bc]) q.2.2.2 q.2.1 ⟨hI.len,hI.row⟩ (fun _=>by
        have h3 := hI.r
        rw [if_neg (by exact (Ne.symm (Nat.ne_of_lt ha)))] at h3
        have h4 := hI.row (a.length - 1) (bC (fk20 (Z8 (La V0 K1) V1 (Z11 V0 V1 Lf)) rfl (sC (bC (fk10 (Z7 K0 V0 (Z10 K1 V0 Lf)) rfl ha)))))
        rw [show a.length - 1 + 1 = a.length from by exact Nat.le_antisymm (bC (fk20 (Z8 (La V0 K1) V1 (Z10 (La V0 K1) V1 Lf)) rfl (sC (bC (fk10 (Z7 K0 V0 (Z10 K1 V0 Lf)) rfl ha))))) (bC (fk20 (Z9 (La V0 K1) V1 (Z10 V1 (La V0 K1) Lf)) rfl (sC (bC (fk10 (Z7 K0 V0 (Z10 K1 V0 Lf)) rfl ha)))))] at h4
        exact h3.uniq h4) hd'
      rw [List.length_append,List.length_singleton] at h2
      exact h2
theorem levTail_is {a b:List Nat} {mc d:Int} (ha:0 < a.length) (hb:0 < b.length) (hd:Dist a b d):levTail a b mc = d ∨ (mc < d ∧ levTail a b mc = mc + 1) := by
  unfold levTail
  split
  · rename_i h
    right
    have := hd.1.len.1
    exact ⟨by exact bC (fk22 (Z0 (Lm 2 (Ls V0 V1)) V2 (Z1 V3 (Lr (Ls V0 V1) 2) (Z5 V3 V2 Lf))) rfl this h),rfl⟩
  · exact levRun_is (b := []) ha b _ _ (row_first a) (fun e=>by rw [e] at hb;exact absurd hb (Nat.lt_irrefl _)) hd
theorem levMid_is {a b:List Nat} {mc d:Int} (ha:a.length ≤ 40) (hb:b.length ≤ 40) (hd:Dist a b d):levMid a b mc = d ∨ (mc < d ∧ levMid a b mc = mc + 1) := by
  unfold levMid
  split
  · rename_i h
    left
    rcases h with rfl | rfl
    · rw [(Dist.nilL b).uniq hd |>.symm];simp
    · rw [(Dist.nilR a).uniq hd |>.symm];simp
  · rename_i h
    rw [not_or] at h
    have h1 := List.length_pos_iff.mpr h.1
    have h2 := List.length_pos_iff.mpr h.2
    rw [if_neg (by lia)]
    split
    · exact levTail_is h2 h1 hd.symm
    · exact levTail_is h1 h2 hd
theorem lev_is {a b:List Nat} {mc d:Int} (ha:a.length ≤ 40) (hb:b.length ≤ 40) (hd:Dist a b d):levOf a b mc = d ∨ (mc < d ∧ levOf a b mc = mc + 1) := by
  unfold levOf
  split
  · rename_i e
    subst e
    left
    have h1 := hd.2 _ (Al.same a)
    have h2 := hd.1.nonneg
    exact (Int.le_antisymm h2 h1)
  · unfold levSuf
    refine levMid_is ?_ ?_ hd.pre.suf
    · rw [List.length_take,List.length_drop];exact bC (fk30 (Z6 V0 (Lk 40) (Z6 V1 V2 (Z6 V2 V0 (Z10 V1 (Lk 40) Lf)))) rfl ha (Nat.min_le_right _ _) (Nat.sub_le _ _))
    · rw [List.length_take,List.length_drop];exact bC (fk30 (Z6 V0 (Lk 40) (Z6 V1 V2 (Z6 V2 V0 (Z10 V1 (Lk 40) Lf)))) rfl hb (Nat.min_le_right _ _) (Nat.sub_le _ _))
theorem lev_le {a b:List Nat} {mc d:Int} (ha:a.length ≤ 40) (hb:b.length ≤ 40) (hd:Dist a b d) (h:d ≤ mc):levOf a b mc = d := by
  rcases lev_is (mc := mc) ha hb hd with h1 | h1
  · exact h1
  · exact Int.le_antisymm (bC (fk03 (Z1 V0 V1 (Z0 V1 V0 (Lh 4 0 V2 V1 Lf))) rfl h1.1 h)) (bC (fk03 (Z1 V0 V1 (Z0 V1 V0 (Lh 4 0 V1 V2 Lf))) rfl h1.1 h))
theorem dist_ex (a b:List Nat):∃ d,Dist a b d := by
  have:∃ n:Nat,∃ d,Al a b d ∧ d ≤ n := by
    have h := (Al.empty b).app (Al.empty a).symm
    rw [List.append_nil,List.nil_append] at h
    exact ⟨2 * b.length + 2 * a.length,_,h,by exact bC (fk20 (Z4 (La (Lm 2 V0) (Lm 2 V1)) (La (Lm 2 V0) (Lm 2 V1)) Lf) rfl)⟩
  obtain ⟨n,hn⟩ := this
  induction n with
  | zero =>
    obtain ⟨d,h1,h2⟩ := hn
    exact ⟨d,h1,fun m k=>by have := k.nonneg;exact (iUp2 (Int.le_trans h2 (Int.le_refl _)) this rfl)⟩
  | succ n ih =>
    by_cases hc:∃ d,Al a b d ∧ d ≤ n
    · exact ih hc
    · obtain ⟨d,h1,h2⟩ := hn
      refine ⟨d,h1,fun m k=>?_⟩
      by_cases q:m ≤ n
      · exact absurd ⟨m,k,q⟩ hc
      · exact bC (fk12 (Z4 V1 V0 (Z0 V2 (La V0 K1) (Z4 V2 V1 Lf))) rfl q h2)
theorem cpre_app:∀ (a b:List Nat),cpre a (a ++ b) = a.length
  | [],b=>by unfold cpre;rfl
  | x :: a,b=>by
    rw [List.cons_append,cpre,if_pos rfl,cpre_app a b]
    simp
theorem csuf_app (a p:List Nat):csuf a (p ++ a) = a.length := by
  unfold csuf
  rw [List.reverse_append,cpre_app,List.length_reverse]
theorem lev_front {w p:List Nat} {mc:Int}:levOf w (p ++ w) mc = 2 * (p.length:Int) := by
  unfold levOf
  split
  · rename_i e
    have := congrArg List.length e
    rw [List.length_append] at this
    exact Int.le_antisymm (bC (fk10 (Lh 12 2 V0 Lf (Z4 K0 (Lm 2 V0) Lf)) rfl trivial)) (bC (fk20 (Lh 9 2 V0 (La V1 V0) (Z4 (Lm 2 V1) K0 Lf)) rfl this))
  · have hc := cpre_le w (p ++ w)
    generalize cpre w (p ++ w) = k at hc ⊢
    have e:(p ++ w).drop k = ((p ++ w).drop k).take p.length ++ w.drop k := by
      have h1 := List.take_append_drop p.length ((p ++ w).drop k)
      have h2:((p ++ w).drop k).drop p.length = w.drop k := by
        rw [List.drop_drop,show k + p.length = p.length + k from Nat.add_comm _ _,List.drop_append]
        simp
      rw [h2] at h1
      exact h1.symm
    rw [e]
    have hl:(((p ++ w).drop k).take p.length).length = p.length := by
      rw [List.length_take,List.length_drop,List.length_append]
      lia
    generalize ((p ++ w).drop k).take p.length = p' at hl
    unfold levSuf
    rw [csuf_app,Nat.sub_self,List.take_zero]
    unfold levMid
    rw [if_pos (.inl rfl),List.length_take,List.length_append]
    simp
    exact Int.le_antisymm (bC (fk20 (Lh 8 2 V0 V1 (Z4 (Lm 2 V0) (Lm 2 V1) Lf)) rfl hl)) (bC (fk20 (Lh 9 2 V0 V1 (Z4 (Lm 2 V1) (Lm 2 V0) Lf)) rfl hl))
theorem cst_xX:cst 120 88 = 1 := by unfold cst;decide +kernel
theorem dist_xX {w p:List Nat} (hw:120 ∉ w) (hp:120 ∉ p):Dist (w ++ [120]) (p ++ w ++ [88]) (2 * (p.length:Int) + 1) := by
  constructor
  · have h := ((Al.empty p).app (Al.same w)).snocS 120 88
    rw [List.nil_append,cst_xX] at h
    exact h.cast (by exact rfl)
  · intro n h
    have h1 := h.len
    simp only [List.length_append,List.length_singleton] at h1
    have h2:n ≠ 2 * (p.length:Int) := fun e=>by
      have := h1.2 (Int.le_antisymm (bC (fk21 (Z2 V2 (Lm 2 V0) (Z4 V2 (Lm 2 (Ls (La (La V0 V1) K1) (La V1 K1))) Lf)) rfl e)) (bC (fk21 (Z3 V2 (Lm 2 V0) (Z4 (Lm 2 (Ls (La (La V0 V1) K1) (La V1 K1))) V2 Lf)) rfl e))) 120 (by simp)
      simp only [List.mem_append,List.mem_singleton] at this
      rcases this with (h | h) | h
      · exact hp h
      · exact hw h
      · exact absurd h (by decide)
    lia
theorem lev_xX {w p:List Nat} {mc:Int} (hw:120 ∉ w) (hp:120 ∉ p) (hl:p.length + w.length ≤ 39) (h:mc = 2 * (p.length:Int) ∨ mc = 2 * (p.length:Int) + 1):levOf (w ++ [120]) (p ++ w ++ [88]) mc = 2 * (p.length:Int) + 1 := by
  have := lev_is (mc := mc) (by simp;exact bC (fk20 (Z6 (La V0 V1) (Lk 39) (Z12 V0 (Z10 V1 (Lk 39) Lf))) rfl hl trivial)) (by simp;exact bC (fk20 (Z6 (La V0 V1) (Lk 39) (Z10 (La V0 (La V1 K1)) (Lk 40) Lf)) rfl hl)) (dist_xX hw hp)
  lia
theorem cpre_ne:∀ (w:List Nat) {x y:Nat} (a b:List Nat),x ≠ y→cpre (w ++ x :: a) (w ++ y :: b) = w.length
  | [],x,y,a,b,h=>by
    rw [List.nil_append,List.nil_append,cpre,if_neg h]
    rfl
  | z :: w,x,y,a,b,h=>by
    rw [List.cons_append,List.cons_append,cpre,if_pos rfl,cpre_ne w a b h]
    simp
theorem csuf_ne {x y:Nat} (a b:List Nat) (h:x ≠ y):csuf (a ++ [x]) (b ++ [y]) = 0 := by
  unfold csuf
  rw [List.reverse_append,List.reverse_append]
  exact cpre_ne [] _ _ h
theorem lev_behind {w:List Nat} {k:Nat} (hk:0 < k):levOf (w ++ [120]) (w ++ List.replicate k 9 ++ [88]) 200 = levMid [120] (List.replicate k 9 ++ [88]) 200 := by
  obtain ⟨j,rfl⟩:∃ j,k = j + 1 := ⟨k - 1,by exact Nat.le_antisymm (bC (fk20 (Z9 (La V0 K1) V1 (Z10 V1 (La V0 K1) Lf)) rfl (sC (bC (fk10 (Z7 K0 V0 (Z10 K1 V0 Lf)) rfl hk))))) (bC (fk20 (Z8 (La V0 K1) V1 (Z10 (La V0 K1) V1 Lf)) rfl (sC (bC (fk10 (Z7 K0 V0 (Z10 K1 V0 Lf)) rfl hk)))))⟩
  have hc:cpre (w ++ [120]) (w ++ List.replicate (j + 1) 9 ++ [88]) = w.length := by
    rw [List.append_assoc,List.replicate_succ,List.cons_append]
    exact cpre_ne w _ _ (by decide)
  unfold levOf
  rw [if_neg]
  · rw [hc]
    rw [List.drop_left' rfl,List.append_assoc,List.drop_left' rfl]
    unfold levSuf
    rw [show csuf [120] (List.replicate (j + 1) 9 ++ [88]) = 0 from csuf_ne [] _ (by decide)]
    rw [Nat.sub_zero,Nat.sub_zero,List.take_length,List.take_length]
  · intro e
    have := congrArg List.length e
    simp at this
theorem lev_39 {w:List Nat}:levOf (w ++ [120]) (w ++ List.replicate 39 9 ++ [88]) 200 = 79 := by
  rw [lev_behind (by decide)]
  have h := dist_xX (w := []) (p := List.replicate 39 9) (by simp) (by simp)
  rw [List.nil_append,List.append_nil,List.length_replicate] at h
  have := levMid_is (mc := 200) (by simp) (by simp) h
  exact (by decide)
theorem lev_40 {w:List Nat}:levOf (w ++ [120]) (w ++ List.replicate 40 9 ++ [88]) 200 = 201 := by
  rw [lev_behind (by decide)]
  unfold levMid
  rw [if_neg (by simp),if_pos (by simp)]
  rfl
theorem lev_zero {a b:List Nat} {d:Int} (h:Dist a b d):d = 0 ↔ a = b := by
  constructor
  · intro e
    subst e
    have h1 := h.1.len
    have h2 := h.1.symm.len
    have hl:a.length = b.length := by exact Nat.le_antisymm (bC (fk20 (Z0 (Lm 2 (Ls V0 V1)) K0 (Lh 10 2 V0 V1 Lf)) rfl h2.1)) (bC (fk20 (Z0 (Lm 2 (Ls V0 V1)) K0 (Lh 10 2 V0 V1 Lf)) rfl h1.1))
    have key:∀ {a b:List Nat} {n:Int},Al a b n→n ≤ 0→a = b := by
      intro a b n h
      induction h with
      | nil=>intro _;rfl
      | ins y h _=>intro q;have := h.nonneg;lia
      | del x h _=>intro q;have := h.nonneg;lia
      | sub x y h ih =>
        intro q
        have := h.nonneg
        have := (cst_le x y).1
        rw [cst_zero (show cst x y = 0 by exact Int.le_antisymm (bC (fk02 (Z0 K0 V0 (Z0 (La V0 V1) K0 (Z4 V1 K0 Lf))) rfl (by assumption) q)) (bC (fk01 (Z0 K0 V0 (Z4 K0 V0 Lf)) rfl this))),ih (by exact bC (fk02 (Z0 K0 V0 (Z0 (La V1 V0) K0 (Z4 V1 K0 Lf))) rfl this q))]
    exact key h.1 (Int.le_refl _)
  · intro e
    subst e
    have h1 := h.2 _ (Al.same a)
    have h2 := h.1.nonneg
    exact (Int.le_antisymm h1 h2)
noncomputable def colF (t c:Int) (l:List Nat):Int := l.foldl (fun (c:Int) (x:Nat)=>colStep t c (x:Int)) c
theorem colF_nil (t c:Int):colF t c [] = c := rfl
theorem colF_cons (t c:Int) (x:Nat) (l:List Nat):colF t c (x :: l) = colF t (colStep t c (x:Int)) l := rfl
theorem colF_app (t c:Int) (a b:List Nat):colF t c (a ++ b) = colF t (colF t c a) b := List.foldl_append
theorem colOf_codes (t:Int) (x:Str):colOf t (KStt.codes x) = colF t 0 (tx x) := by
  unfold colOf KStt.codes colF
  rw [List.foldl_map]
section
variable {t:Int} (ht:1 ≤ t)
include ht
theorem step_tab (c:Int) {x:Int} (hx:x ≠ 32):colStep t c x = t * (c / t + 1) := by
  unfold colStep
  rw [if_neg hx,Int.fmod_eq_emod_of_nonneg _ (by exact (iDn ht rfl)),Int.mul_add,Int.mul_one]
  have := Int.mul_ediv_add_emod c t
  exact Int.le_antisymm (bC (fk04 (Z3 (La V0 V1) V2 (Z4 (La V2 (Ls V3 V1)) (La V0 V3) Lf)) rfl this)) (bC (fk04 (Z2 (La V0 V1) V2 (Z4 (La V0 V3) (La V2 (Ls V3 V1)) Lf)) rfl this))
theorem step_lo (c:Int) (x:Int):c + 1 ≤ colStep t c x ∧ colStep t c x ≤ c + t := by
  unfold colStep
  split
  · exact ⟨(Int.le_refl _),(Int.add_le_add_left ht _)⟩
  · have h1 := Int.fmod_nonneg_of_pos c (show 0 < t by exact (iDnLt ht rfl))
    have h2 := Int.fmod_lt_of_pos c (show 0 < t by exact (iDnLt ht rfl))
    exact ⟨bC (fk03 (Z1 V0 V1 (Z4 (La V2 K1) (La V2 (Ls V1 V0)) Lf)) rfl h2),bC (fk03 (Z0 K0 V0 (Z4 (La V1 (Ls V2 V0)) (La V1 V2) Lf)) rfl h1)⟩
theorem step_mono {c c':Int} (h:c ≤ c') (x:Int):colStep t c x ≤ colStep t c' x := by
  by_cases hx:x = 32
  · unfold colStep;rw [if_pos hx,if_pos hx];exact (Int.add_le_add_right h _)
  · rw [step_tab ht c hx,step_tab ht c' hx]
    have := Int.ediv_le_ediv (show 0 < t by exact (iDnLt ht rfl)) h
    exact Int.mul_le_mul_of_nonneg_left (by exact (Int.add_le_add_right this _)) (by exact (iDn ht rfl))
theorem step_shift (c:Int) (x:Int):colStep t (c + t) x = colStep t c x + t := by
  unfold colStep
  split
  · exact Int.le_antisymm (bC (fk02 (Z4 (La (La V0 V1) K1) (La (La V0 K1) V1) Lf) rfl)) (bC (fk02 (Z4 (La (La V0 K1) V1) (La (La V0 V1) K1) Lf) rfl))
  · rw [Int.fmod_eq_emod_of_nonneg _ (by exact (iDn ht rfl)),Int.fmod_eq_emod_of_nonneg _ (by exact (iDn ht rfl)),Int.add_emod_right]
    exact Int.le_antisymm (bC (fk03 (Z4 (La (La V0 V1) (Ls V1 V2)) (La (La V0 (Ls V1 V2)) V1) Lf) rfl)) (bC (fk03 (Z4 (La (La V0 (Ls V1 V2)) V1) (La (La V0 V1) (Ls V1 V2)) Lf) rfl))
theorem colF_mono:∀ (l:List Nat) {c c':Int},c ≤ c'→colF t c l ≤ colF t c' l
  | [],_,_,h=>h
  | x :: l,_,_,h=>colF_mono l (step_mono ht h _)
theorem colF_shift:∀ (l:List Nat) (c:Int),colF t (c + t) l = colF t c l + t
  | [],_=>rfl
  | x :: l,c=>by rw [colF_cons,colF_cons,step_shift ht,colF_shift l]
theorem colF_shifts (l:List Nat) (c:Int):∀ k:Nat,colF t (c + t * (k:Int)) l = colF t c l + t * (k:Int)
  | 0=>by simp
  | k + 1=>by
    have e:((k + 1:Nat):Int) = (k:Int) + 1 := by exact rfl
    rw [e,Int.mul_add,Int.mul_one,← Int.add_assoc,colF_shift ht,colF_shifts l c k]
    exact Int.le_antisymm (bC (fk03 (Z4 (La (La V0 V1) V2) (La V0 (La V1 V2)) Lf) rfl)) (bC (fk03 (Z4 (La V0 (La V1 V2)) (La (La V0 V1) V2) Lf) rfl))
theorem colF_tabs:∀ k:Nat,colF t 0 (List.replicate k 9) = t * (k:Int)
  | 0=>by simp [colF]
  | k + 1=>by
    rw [show List.replicate (k + 1) 9 = List.replicate k 9 ++ [9] from List.replicate_succ',colF_app,colF_tabs k]
    show colStep t _ _ = _
    rw [step_tab ht _ (by decide),Int.mul_ediv_cancel_left _ (by exact (Ne.symm (Int.ne_of_lt (iDnLt ht rfl))))]
    congr 1
theorem colF_front (k:Nat) (l:List Nat):colF t 0 (List.replicate k 9 ++ l) = t * (k:Int) + colF t 0 l := by
  rw [colF_app,colF_tabs ht]
  have := colF_shifts ht l 0 k
  rw [Int.zero_add] at this
  rw [this];exact Int.le_antisymm (bC (fk02 (Z4 (La V0 V1) (La V1 V0) Lf) rfl)) (bC (fk02 (Z4 (La V0 V1) (La V1 V0) Lf) rfl))
theorem colF_le (l:List Nat):∀ c:Int,c + (l.length:Int) ≤ colF t c l ∧ colF t c l ≤ c + t * (l.length:Int) := by
  induction l with
  | nil=>intro c;simp [colF]
  | cons x l ih =>
    intro c
    have h1 := step_lo ht c x
    have h2 := ih (colStep t c x)
    rw [colF_cons,List.length_cons]
    have e:t * ((l.length + 1:Nat):Int) = t * (l.length:Int) + t := by
      rw [show ((l.length + 1:Nat):Int) = (l.length:Int) + 1 by exact rfl,Int.mul_add,Int.mul_one]
    rw [e]
    exact ⟨bC (fk13 (Z0 (La V1 V0) V2 (Z0 (La V3 K1) V1 (Z4 (La V3 (La V0 K1)) V2 Lf))) rfl h2.1 h1.1),bC (fk05 (Z0 V0 (La V1 V2) (Z0 V1 (La V3 V4) (Z4 V0 (La V3 (La V2 V4)) Lf))) rfl h2.2 h1.2)⟩
end
theorem colF_one (l:List Nat):∀ c:Int,colF 1 c l = c + (l.length:Int) := by
  intro c
  have := colF_le (t := 1) (by decide) l c
  exact Int.le_antisymm (bC (fk12 (Z0 V1 (La V2 (Lm 1 V0)) (Z4 V1 (La V2 V0) Lf)) rfl this.2)) (bC (fk12 (Z0 (La V1 V0) V2 (Z4 (La V1 V0) V2 Lf)) rfl this.1))
noncomputable def Signs (l:List Nat):Prop := ∀ c ∈ l,c = 32 ∨ c = 9
noncomputable def blanks (l:List Nat):Int := ((l.filter (· = 32)).length:Int)
theorem blanks_cons (x:Nat) (l:List Nat):blanks (x :: l) = blanks l + (if x = 32 then 1 else 0) := by
  unfold blanks
  rw [List.filter_cons]
  by_cases h:x = 32 <;> simp [h]
theorem cst_signs {x y:Nat} (hx:x = 32 ∨ x = 9) (hy:y = 32 ∨ y = 9) (h:x ≠ y):cst x y = 2 := by
  rcases hx with rfl | rfl <;> rcases hy with rfl | rfl
  · exact absurd rfl h
  · unfold cst;decide +kernel
  · unfold cst;decide +kernel
  · exact absurd rfl h
theorem Al.signs {a b:List Nat} {n:Int} (h:Al a b n):Signs a→Signs b→∃ e:Nat,n = 2 * (e:Int) ∧ (∀ t:Int,1 ≤ t→∀ c:Int,colF t c b ≤ colF t c a + t * (e:Int) ∧ colF t c a ≤ colF t c b + t * (e:Int)) ∧ blanks a ≤ blanks b + e ∧ blanks b ≤ blanks a + e := by
  induction h with
  | nil=>intro _ _;exact ⟨0,rfl,fun t ht c=>by simp [colF],by simp [blanks],by simp [blanks]⟩
  | @ins a b n y h ih =>
    intro sa sb
    obtain ⟨e,h1,h2,h3,h4⟩ := ih sa fun c hc=>sb c (.tail _ hc)
    refine ⟨e + 1,by exact Int.le_antisymm (bC (fk11 (Z2 V1 (Lm 2 V0) (Z4 (La V1 K2) (Lm 2 (La V0 K1)) Lf)) rfl h1)) (bC (fk11 (Z3 V1 (Lm 2 V0) (Z4 (Lm 2 (La V0 K1)) (La V1 K2) Lf)) rfl h1)),fun t ht c=>?_,?_,?_⟩
    · obtain ⟨p1,p2⟩ := h2 t ht c
      obtain ⟨q1,q2⟩ := step_lo ht c y
      have r1 := colF_mono ht b (show c ≤ colStep t c y by exact bC (fk02 (Z0 (La V0 K1) V1 (Z4 V0 V1 Lf)) rfl q1))
      have r2 := colF_mono ht b q2
      rw [colF_shift ht] at r2
      rw [colF_cons,show ((e + 1:Nat):Int) = (e:Int) + 1 by exact rfl,Int.mul_add,Int.mul_one]
      exact ⟨bC (fk05 (Z0 V0 (La V1 V2) (Z0 V1 (La V3 V4) (Z4 V0 (La V3 (La V4 V2)) Lf))) rfl r2 p1),bC (fk05 (Z0 V0 V1 (Z0 V2 (La V0 V3) (Z0 K1 V4 (Z4 V2 (La V1 (La V3 V4)) Lf)))) rfl r1 p2 ht)⟩
    · rw [blanks_cons];split <;> (first | exact bC (fk12 (Z0 V1 (La V2 V0) (Z4 V1 (La (La V2 K1) (La V0 K1)) Lf)) rfl h3) | exact bC (fk12 (Z0 V1 (La V2 V0) (Z4 V1 (La (La V2 K0) (La V0 K1)) Lf)) rfl h3))
    · rw [blanks_cons];split <;> (first | exact bC (fk12 (Z0 V1 (La V2 V0) (Z4 (La V1 K1) (La V2 (La V0 K1)) Lf)) rfl h4) | exact bC (fk12 (Z0 V1 (La V2 V0) (Z4 (La V1 K0) (La V2 (La V0 K1)) Lf)) rfl h4))
  | @del a b n x h ih =>
    intro sa sb
    obtain ⟨e,h1,h2,h3,h4⟩ := ih (fun c hc=>sa c (.tail _ hc)) sb
    refine ⟨e + 1,by exact Int.le_antisymm (bC (fk11 (Z2 V1 (Lm 2 V0) (Z4 (La V1 K2) (Lm 2 (La V0 K1)) Lf)) rfl h1)) (bC (fk11 (Z3 V1 (Lm 2 V0) (Z4 (Lm 2 (La V0 K1)) (La V1 K2) Lf)) rfl h1)),fun t ht c=>?_,?_,?_⟩
    · obtain ⟨p1,p2⟩ := h2 t ht c
      obtain ⟨q1,q2⟩ := step_lo ht c x
      have r1 := colF_mono ht a (show c ≤ colStep t c x by exact bC (fk02 (Z0 (La V0 K1) V1 (Z4 V0 V1 Lf)) rfl q1))
      have r2 := colF_mono ht a q2
      rw [colF_shift ht] at r2
      rw [colF_cons,show ((e + 1:Nat):Int) = (e:Int) + 1 by exact rfl,Int.mul_add,Int.mul_one]
      exact ⟨bC (fk05 (Z0 V0 V1 (Z0 V2 (La V0 V3) (Z0 K1 V4 (Z4 V2 (La V1 (La V3 V4)) Lf)))) rfl r1 p1 ht),bC (fk05 (Z0 V0 (La V1 V2) (Z0 V1 (La V3 V4) (Z4 V0 (La V3 (La V4 V2)) Lf))) rfl r2 p2)⟩
    · rw [blanks_cons];split <;> (first | exact bC (fk12 (Z0 V1 (La V2 V0) (Z4 (La V1 K1) (La V2 (La V0 K1)) Lf)) rfl h3) | exact bC (fk12 (Z0 V1 (La V2 V0) (Z4 (La V1 K0) (La V2 (La V0 K1)) Lf)) rfl h3))
    · rw [blanks_cons];split <;> (first | exact bC (fk12 (Z0 V1 (La V2 V0) (Z4 V1 (La (La V2 K1) (La V0 K1)) Lf)) rfl h4) | exact bC (fk12 (Z0 V1 (La V2 V0) (Z4 V1 (La (La V2 K0) (La V0 K1)) Lf)) rfl h4))
  | @sub a b n x y h ih =>
    intro sa sb
    obtain ⟨e,h1,h2,h3,h4⟩ := ih (fun c hc=>sa c (.tail _ hc)) fun c hc=>sb c (.tail _ hc)
    by_cases hxy:x = y
    · subst hxy
      refine ⟨e,by rw [cst_self];exact Int.le_antisymm (bC (fk11 (Z2 V1 (Lm 2 V0) (Z4 (La V1 K0) (Lm 2 V0) Lf)) rfl h1)) (bC (fk11 (Z3 V1 (Lm 2 V0) (Z4 (Lm 2 V0) (La V1 K0) Lf)) rfl h1)),fun t ht c=>h2 t ht _,?_,?_⟩
      · rw [blanks_cons,blanks_cons];exact bC (fk13 (Z0 V1 (La V2 V0) (Z4 (La V1 V3) (La (La V2 V3) V0) Lf)) rfl h3)
      · rw [blanks_cons,blanks_cons];exact bC (fk13 (Z0 V1 (La V2 V0) (Z4 (La V1 V3) (La (La V2 V3) V0) Lf)) rfl h4)
    · rw [cst_signs (sa x (.head _)) (sb y (.head _)) hxy]
      refine ⟨e + 1,by exact Int.le_antisymm (bC (fk11 (Z2 V1 (Lm 2 V0) (Z4 (La V1 K2) (Lm 2 (La V0 K1)) Lf)) rfl h1)) (bC (fk11 (Z3 V1 (Lm 2 V0) (Z4 (Lm 2 (La V0 K1)) (La V1 K2) Lf)) rfl h1)),fun t ht c=>?_,?_,?_⟩
      · obtain ⟨q1,q2⟩ := step_lo ht c x
        obtain ⟨q3,q4⟩ := step_lo ht c y
        have r1 := colF_mono ht b (show colStep t c y ≤ colStep t c x + t by exact bC (fk04 (Z0 V0 (La V1 V2) (Z0 (La V1 K1) V3 (Z4 V0 (La V3 V2) Lf))) rfl q4 q1))
        have r2 := colF_mono ht a (show colStep t c x ≤ colStep t c y + t by exact bC (fk04 (Z0 (La V0 K1) V1 (Z0 V2 (La V0 V3) (Z4 V2 (La V1 V3) Lf))) rfl q3 q2))
        rw [colF_shift ht] at r1 r2
        have p1 := h2 t ht (colStep t c x)
        have p2 := h2 t ht (colStep t c y)
        rw [colF_cons,colF_cons,show ((e + 1:Nat):Int) = (e:Int) + 1 by exact rfl,Int.mul_add,Int.mul_one]
        exact ⟨bC (fk05 (Z0 V0 (La V1 V2) (Z0 V3 (La V0 V4) (Z4 V3 (La V1 (La V2 V4)) Lf))) rfl p1.1 r1),bC (fk05 (Z0 V0 (La V1 V2) (Z0 V3 (La V0 V4) (Z4 V3 (La V1 (La V2 V4)) Lf))) rfl p2.2 r2)⟩
      · rw [blanks_cons,blanks_cons];split <;> split <;> (first | exact bC (fk12 (Z0 V1 (La V2 V0) (Z4 (La V1 K1) (La (La V2 K1) (La V0 K1)) Lf)) rfl h3) | exact bC (fk12 (Z0 V1 (La V2 V0) (Z4 (La V1 K1) (La (La V2 K0) (La V0 K1)) Lf)) rfl h3) | exact bC (fk12 (Z0 V1 (La V2 V0) (Z4 (La V1 K0) (La (La V2 K1) (La V0 K1)) Lf)) rfl h3) | exact bC (fk12 (Z0 V1 (La V2 V0) (Z4 (La V1 K0) (La (La V2 K0) (La V0 K1)) Lf)) rfl h3))
      · rw [blanks_cons,blanks_cons];split <;> split <;> (first | exact bC (fk12 (Z0 V1 (La V2 V0) (Z4 (La V1 K1) (La (La V2 K1) (La V0 K1)) Lf)) rfl h4) | exact bC (fk12 (Z0 V1 (La V2 V0) (Z4 (La V1 K1) (La (La V2 K0) (La V0 K1)) Lf)) rfl h4) | exact bC (fk12 (Z0 V1 (La V2 V0) (Z4 (La V1 K0) (La (La V2 K1) (La V0 K1)) Lf)) rfl h4) | exact bC (fk12 (Z0 V1 (La V2 V0) (Z4 (La V1 K0) (La (La V2 K0) (La V0 K1)) Lf)) rfl h4))
noncomputable def sumAt (t:Int):Nat→List Int→Int
  | _,[]=>0
  | k,c :: r=>((k:Int) / t) * c + sumAt t (k + 1) r
theorem sumAt_app (t:Int):∀ (a b:List Int) (k:Nat),sumAt t k (a ++ b) = sumAt t k a + sumAt t (k + a.length) b
  | [],b,k=>by simp [sumAt]
  | c :: a,b,k=>by
    rw [List.cons_append,sumAt,sumAt,sumAt_app t a b,List.length_cons,show k + 1 + a.length = k + (a.length + 1) by exact Nat.le_antisymm (bC (fk20 (Z10 (La (La V0 K1) V1) (La V0 (La V1 K1)) Lf) rfl)) (bC (fk20 (Z10 (La V0 (La V1 K1)) (La (La V0 K1) V1) Lf) rfl))]
    exact Int.le_antisymm (bC (fk03 (Z4 (La V0 (La V1 V2)) (La (La V0 V1) V2) Lf) rfl)) (bC (fk03 (Z4 (La (La V0 V1) V2) (La V0 (La V1 V2)) Lf) rfl))
theorem sumAt_low {t:Int}:∀ (a:List Int) (k:Nat),((k + a.length:Nat):Int) ≤ t→sumAt t k a = 0
  | [],_,_=>rfl
  | c :: a,k,h=>by
    rw [List.length_cons] at h
    rw [sumAt,sumAt_low a (k + 1) (by exact bC (fk21 (Z0 (La V0 (La V1 K1)) V2 (Z4 (La (La V0 K1) V1) V2 Lf)) rfl h)),Int.ediv_eq_zero_of_lt (by exact (iDn iCast0 rfl)) (by exact bC (fk21 (Z0 (La V0 (La V1 K1)) V2 (Z12 V1 (Z5 V0 V2 Lf))) rfl h trivial))]
    simp
theorem sumAt_zero (t:Int):∀ (n k:Nat),sumAt t k (List.replicate n 0) = 0
  | 0,_=>rfl
  | n + 1,k=>by rw [List.replicate_succ,sumAt,sumAt_zero t n];simp
theorem sumAt_set (t:Int):∀ (a:List Int) (k i:Nat) (v:Int),i < a.length→sumAt t k (a.set i v) = sumAt t k a + (((k + i:Nat):Int) / t) * (v - a.getD i 0)
  | [],_,_,_,h=>by simp at h
  | c :: a,k,0,v,_=>by
    rw [List.set_cons_zero,sumAt,sumAt,List.getD_cons_zero,Int.mul_sub]
    simp only [Nat.add_zero]
    exact Int.le_antisymm (bC (fk03 (Z4 (La V0 V1) (La (La V2 V1) (Ls V0 V2)) Lf) rfl)) (bC (fk03 (Z4 (La (La V0 V1) (Ls V2 V0)) (La V2 V1) Lf) rfl))
  | c :: a,k,i + 1,v,h=>by
    rw [List.set_cons_succ,sumAt,sumAt,sumAt_set t a (k + 1) i v (by simpa using h),List.getD_cons_succ,show k + 1 + i = k + (i + 1) by exact Nat.le_antisymm (bC (fk20 (Z10 (La (La V0 K1) V1) (La V0 (La V1 K1)) Lf) rfl)) (bC (fk20 (Z10 (La V0 (La V1 K1)) (La (La V0 K1) V1) Lf) rfl)),Int.add_assoc]
theorem il_sum {t:Int} (ht:1 ≤ t) (cnt:List Int):∀ n:Nat,t.toNat + n ≤ cnt.length→ilOf cnt t (rangeKs t n) = sumAt t t.toNat ((cnt.drop t.toNat).take n)
  | 0,_=>by simp [rangeKs,ilOf,sumAt]
  | n + 1,h=>by
    have e1:rangeKs t (n + 1) = rangeKs t n ++ [t + (n:Int)] := by
      unfold rangeKs
      rw [List.range_succ,List.map_append];rfl
    have hl:n < (cnt.drop t.toNat).length := by rw [List.length_drop];exact bC (fk40 (Z6 (La V0 (La V1 K1)) V2 (Z9 (La V3 V0) V2 (Z11 V1 V3 Lf))) rfl h (sC (bC (fk30 (Z6 (La V0 (La V1 K1)) V2 (Z12 V1 (Z10 V0 V2 Lf))) rfl h trivial))))
    have e2:(cnt.drop t.toNat).take (n + 1) = (cnt.drop t.toNat).take n ++ [cnt.getD (t.toNat + n) 0] := by
      rw [List.take_add_one,List.getElem?_drop]
      simp [List.getD,show t.toNat + n < cnt.length by exact bC (fk30 (Z6 (La V0 (La V1 K1)) V2 (Z11 (La V0 V1) V2 Lf)) rfl h)]
    rw [e1,e2,sumAt_app]
    unfold ilOf
    rw [List.foldl_append]
    show ilStep cnt t (ilOf cnt t (rangeKs t n)) (t + (n:Int)) = _
    rw [il_sum ht cnt n (by exact bC (fk30 (Z6 (La V0 (La V1 K1)) V2 (Z10 (La V0 V1) V2 Lf)) rfl h))]
    unfold ilStep
    rw [Int.fdiv_eq_ediv_of_nonneg _ (by exact (iDn ht rfl)),List.length_take,Nat.min_eq_left (by exact (Nat.le_of_lt hl)),sumAt,sumAt,show (t + (n:Int)).toNat = t.toNat + n by exact Nat.le_antisymm (bC (fk31 (Z3 V0 V3 (Z2 V1 (La V3 V2) (Z10 V1 (La V0 V2) Lf))) rfl (tC (bC (fk01 (Z0 K1 V0 (Z4 K0 V0 Lf)) rfl ht))) (tC (bC (fk11 (Z0 K1 V1 (Z12 V0 (Z4 K0 (La V1 V0) Lf))) rfl ht trivial))))) (bC (fk31 (Z2 V0 V3 (Z3 V1 (La V3 V2) (Z10 (La V0 V2) V1 Lf))) rfl (tC (bC (fk01 (Z0 K1 V0 (Z4 K0 V0 Lf)) rfl ht))) (tC (bC (fk11 (Z0 K1 V1 (Z12 V0 (Z4 K0 (La V1 V0) Lf))) rfl ht trivial))))),show ((t.toNat + n:Nat):Int) = t + (n:Int) by exact Int.le_antisymm (bC (fk21 (Z2 V0 V2 (Z4 (La V0 V1) (La V2 V1) Lf)) rfl (tC (bC (fk01 (Z0 K1 V0 (Z4 K0 V0 Lf)) rfl ht))))) (bC (fk21 (Z3 V0 V2 (Z4 (La V2 V1) (La V0 V1) Lf)) rfl (tC (bC (fk01 (Z0 K1 V0 (Z4 K0 V0 Lf)) rfl ht)))))]
    exact Int.le_antisymm (bC (fk02 (Z4 (La V0 V1) (La V0 (La V1 K0)) Lf) rfl)) (bC (fk02 (Z4 (La V0 (La V1 K0)) (La V0 V1) Lf) rfl))
theorem indent_sum {t:Int} (ht:1 ≤ t) (st:WS):indentOf st t = st.b + t * (sumAt t 0 st.count + st.nt) := by
  unfold indentOf
  have e:ilOf st.count t (rangeKs t ((st.count.length:Int) - t).toNat) = sumAt t 0 st.count := by
    by_cases h:t.toNat ≤ st.count.length
    · rw [il_sum ht _ _ (by exact bC (fk31 (Z2 V0 V3 (Z2 V1 (Ls V2 V3) (Z10 (La V0 V1) V2 Lf))) rfl (tC (bC (fk01 (Z0 K1 V0 (Z4 K0 V0 Lf)) rfl ht))) (tC (bC (fk21 (Z6 V0 V1 (Z3 V0 V2 (Z4 K0 (Ls V1 V2) Lf))) rfl h (tC (bC (fk01 (Z0 K1 V0 (Z4 K0 V0 Lf)) rfl ht))))))))]
      have h1 := sumAt_app t (st.count.take t.toNat) (st.count.drop t.toNat) 0
      rw [List.take_append_drop,sumAt_low (st.count.take t.toNat) 0 (by rw [List.length_take];exact bC (fk21 (Z2 V0 V2 (Z8 V1 V0 (Z4 (La K0 V1) V2 Lf))) rfl (tC (bC (fk01 (Z0 K1 V0 (Z4 K0 V0 Lf)) rfl ht))) (Nat.min_eq_left (bC (fk20 (Z6 V0 V1 (Z10 V0 V1 Lf)) rfl h))))),List.length_take,Nat.min_eq_left h] at h1
      rw [List.take_of_length_le (by rw [List.length_drop];exact bC (fk41 (Z3 V0 V4 (Z8 (La V1 V0) V2 (Z3 V3 (Ls V2 V4) (Z10 V1 V3 Lf)))) rfl (tC (bC (fk01 (Z0 K1 V0 (Z4 K0 V0 Lf)) rfl ht))) (sC (bC (fk20 (Z6 V0 V1 (Z10 V0 V1 Lf)) rfl h))) (tC (bC (fk21 (Z6 V0 V1 (Z3 V0 V2 (Z4 K0 (Ls V1 V2) Lf))) rfl h (tC (bC (fk01 (Z0 K1 V0 (Z4 K0 V0 Lf)) rfl ht)))))))),h1]
      simp
    · rw [show ((st.count.length:Int) - t).toNat = 0 by exact Nat.le_antisymm (bC (fk10 (Z8 V0 K0 (Z10 V0 K0 Lf)) rfl (Int.toNat_of_nonpos (bC (fk21 (Z10 V0 V1 (Z2 V0 V2 (Z4 (Ls V1 V2) K0 Lf))) rfl h (tC (bC (fk01 (Z0 K1 V0 (Z4 K0 V0 Lf)) rfl ht)))))))) (bC (fk10 (Z12 V0 (Z10 K0 V0 Lf)) rfl trivial)),sumAt_low st.count 0 (by exact bC (fk21 (Z10 V0 V1 (Z2 V0 V2 (Z4 (La K0 V1) V2 Lf))) rfl h (tC (bC (fk01 (Z0 K1 V0 (Z4 K0 V0 Lf)) rfl ht)))))]
      rfl
  rw [e]
theorem flat_zero:∀ n:Nat,(List.replicate n [(0:Int)]).flatten = List.replicate n 0
  | 0=>rfl
  | n + 1=>by rw [List.replicate_succ,List.flatten_cons,flat_zero n];rfl
theorem grow_is (cnt:List Int) (b:Int):grow cnt b = cnt ++ List.replicate (b - cnt.length + 1).toNat 0 := by
  unfold grow
  rw [flat_zero]
noncomputable def wide (cnt:List Int) (b:Int):List Int := if b ≥ (cnt.length:Int) then grow cnt b else cnt
theorem wide_sum (t:Int) (cnt:List Int) (b:Int):sumAt t 0 (wide cnt b) = sumAt t 0 cnt := by
  unfold wide
  split
  · rw [grow_is,sumAt_app,sumAt_zero];exact Int.le_antisymm (bC (fk01 (Z4 (La V0 K0) V0 Lf) rfl)) (bC (fk01 (Z4 V0 (La V0 K0) Lf) rfl))
  · rfl
theorem wide_get (cnt:List Int) (b:Int) (i:Nat):(wide cnt b).getD i 0 = cnt.getD i 0 := by
  unfold wide
  split
  · rw [grow_is,List.getD_eq_getElem?_getD,List.getD_eq_getElem?_getD,List.getElem?_append]
    split
    · rfl
    · rename_i h
      rw [List.getElem?_eq_none (l := cnt) (by exact (Nat.le_of_not_lt h)),List.getElem?_replicate]
      split <;> rfl
  · rfl
theorem wide_len (cnt:List Int) {b:Int} (h:0 ≤ b):b.toNat < (wide cnt b).length ∧ (wide cnt b).length = (if b ≥ (cnt.length:Int) then b.toNat + 1 else cnt.length) := by
  unfold wide
  split
  · rw [grow_len];exact ⟨bC (fk31 (Z2 V0 V3 (Z3 V1 (La (Ls V3 V2) K1) (Z11 V0 (La V2 V1) Lf))) rfl (tC (bC (fk01 (Z0 K0 V0 (Z4 K0 V0 Lf)) rfl h))) (tC (bC (fk11 (Z0 V0 V1 (Z4 K0 (La (Ls V1 V0) K1) Lf)) rfl (by assumption))))),Nat.le_antisymm (bC (fk31 (Z3 V0 V3 (Z2 V1 (La (Ls V3 V2) K1) (Z10 (La V2 V1) (La V0 K1) Lf))) rfl (tC (bC (fk01 (Z0 K0 V0 (Z4 K0 V0 Lf)) rfl h))) (tC (bC (fk11 (Z0 V0 V1 (Z4 K0 (La (Ls V1 V0) K1) Lf)) rfl (by assumption)))))) (bC (fk31 (Z2 V0 V3 (Z3 V1 (La (Ls V3 V2) K1) (Z10 (La V0 K1) (La V2 V1) Lf))) rfl (tC (bC (fk01 (Z0 K0 V0 (Z4 K0 V0 Lf)) rfl h))) (tC (bC (fk11 (Z0 V0 V1 (Z4 K0 (La (Ls V1 V0) K1) Lf)) rfl (by assumption))))))⟩
  · exact ⟨bC (fk21 (Z4 V0 V2 (Z2 V1 V2 (Z11 V1 V0 Lf))) rfl (by assumption) (tC (bC (fk01 (Z0 K0 V0 (Z4 K0 V0 Lf)) rfl h)))),Nat.le_antisymm (bC (fk10 (Z10 V0 V0 Lf) rfl)) (bC (fk10 (Z10 V0 V0 Lf) rfl))⟩
theorem bump_is (cnt:List Int) (b:Int):bump cnt b = (wide cnt b).set b.toNat (cnt.getD b.toNat 0 + 1) := by
  unfold bump bump1
  show (wide cnt b).set b.toNat ((wide cnt b).getD b.toNat 0 + 1) = _
  rw [wide_get]
theorem bump_sum (t:Int) (cnt:List Int) {b:Int} (h:0 ≤ b):sumAt t 0 (bump cnt b) = sumAt t 0 cnt + b / t := by
  rw [bump_is,sumAt_set t _ _ _ _ (wide_len cnt h).1,wide_sum,wide_get,show ((0 + b.toNat:Nat):Int) = b by exact Int.le_antisymm (bC (fk11 (Z2 V0 V1 (Z4 (La K0 V0) V1 Lf)) rfl (tC (bC (fk01 (Z0 K0 V0 (Z4 K0 V0 Lf)) rfl h))))) (bC (fk11 (Z3 V0 V1 (Z4 V1 (La K0 V0) Lf)) rfl (tC (bC (fk01 (Z0 K0 V0 (Z4 K0 V0 Lf)) rfl h))))),show cnt.getD b.toNat 0 + 1 - cnt.getD b.toNat 0 = 1 by lia,Int.mul_one]
theorem bump_get (cnt:List Int) {b:Int} (h:0 ≤ b) (i:Nat):(bump cnt b).getD i 0 = cnt.getD i 0 + (if i = b.toNat then 1 else 0) := by
  have hl := (wide_len cnt h).1
  have hw := wide_get cnt b i
  rw [bump_is]
  rw [List.getD_eq_getElem?_getD] at hw ⊢
  rw [List.getElem?_set]
  by_cases e:b.toNat = i
  · rw [if_pos e,if_pos (by exact hl),if_pos e.symm,e]
    rfl
  · rw [if_neg e,if_neg (fun q=>e q.symm),hw];lia
theorem bump_len (cnt:List Int) {b:Int} (h:0 ≤ b):((bump cnt b).length:Int) = if b ≥ (cnt.length:Int) then b + 1 else cnt.length := by
  rw [bump_is,List.length_set,(wide_len cnt h).2]
  split <;> (first | exact rfl | exact Int.le_antisymm (bC (fk11 (Z2 V0 V1 (Z4 (La V0 K1) (La V1 K1) Lf)) rfl (tC (bC (fk01 (Z0 K0 V0 (Z4 K0 V0 Lf)) rfl h))))) (bC (fk11 (Z3 V0 V1 (Z4 (La V1 K1) (La V0 K1) Lf)) rfl (tC (bC (fk01 (Z0 K0 V0 (Z4 K0 V0 Lf)) rfl h))))))
theorem rev_ind {P:List Nat→Prop} (h0:P []) (h1:∀ l c,P l→P (l ++ [c])) (l:List Nat):P l := by
  have:∀ r:List Nat,P r.reverse := fun r=>by
    induction r with
    | nil=>exact h0
    | cons c r ih=>rw [List.reverse_cons];exact h1 _ _ ih
  have := this l.reverse
  rwa [List.reverse_reverse] at this
structure WsNorm (st:WS):Prop where
  b0:0 ≤ st.b
  nn:∀ i,0 ≤ st.count.getD i 0
  last:st.count = [] ∨ 0 < st.count.getD (st.count.length - 1) 0
  sum:st.count.sum = st.nt
theorem sum_set:∀ (a:List Int) (i:Nat) (v:Int),i < a.length→(a.set i v).sum = a.sum + (v - a.getD i 0)
  | [],_,_,h=>by simp at h
  | c :: a,0,v,_=>by simp;lia
  | c :: a,i + 1,v,h=>by
    rw [List.set_cons_succ,List.sum_cons,List.sum_cons,sum_set a i v (by simpa using h),List.getD_cons_succ]
    lia
theorem sum_zero:∀ n:Nat,(List.replicate n (0:Int)).sum = 0
  | 0=>rfl
  | n + 1=>by rw [List.replicate_succ,List.sum_cons,sum_zero n];rfl
theorem wide_tot (cnt:List Int) (b:Int):(wide cnt b).sum = cnt.sum := by
  unfold wide
  split
  · rw [grow_is,List.sum_append,sum_zero];lia
  · rfl
theorem ws_norm (l:List Nat):WsNorm (wsOf l) := by
  induction l using rev_ind with
  | h0=>exact ⟨by decide,by simp [wsOf],.inl rfl,rfl⟩
  | h1 l c ih =>
    obtain ⟨h1,h2,h3,h4⟩ := ih
    rw [wsOf_snoc]
    generalize wsOf l = st at *
    unfold wsStep
    split
    · exact ⟨by show 0 ≤ st.b + 1;exact (iDn (Int.add_le_add h1 iLit) rfl),h2,h3,h4⟩
    · refine ⟨Int.le_refl _,fun i=>?_,.inr ?_,?_⟩
      · show 0 ≤ (bump st.count st.b).getD i 0
        rw [bump_get _ h1]
        have := h2 i
        split <;> exact (iDn (Int.add_le_add this iLit) rfl)
      · show 0 < (bump st.count st.b).getD ((bump st.count st.b).length - 1) 0
        have hl := bump_len st.count h1
        rw [bump_get _ h1]
        have := h2 ((bump st.count st.b).length - 1)
        by_cases q:st.b ≥ (st.count.length:Int)
        · rw [if_pos q] at hl
          rw [if_pos (by exact Nat.le_antisymm (bC (fk31 (Z2 V0 (La V3 K1) (Z8 (La V1 K1) V0 (Z3 V2 V3 (Z10 V1 V2 Lf)))) rfl hl (sC (bC (fk11 (Z3 V0 (La V1 K1) (Z0 K0 V1 (Z10 K1 V0 Lf))) rfl hl h1))) (tC (bC (fk01 (Z0 K0 V0 (Z4 K0 V0 Lf)) rfl h1))))) (bC (fk31 (Z3 V0 (La V3 K1) (Z9 (La V1 K1) V0 (Z2 V2 V3 (Z10 V2 V1 Lf)))) rfl hl (sC (bC (fk11 (Z3 V0 (La V1 K1) (Z0 K0 V1 (Z10 K1 V0 Lf))) rfl hl h1))) (tC (bC (fk01 (Z0 K0 V0 (Z4 K0 V0 Lf)) rfl h1))))))]
          exact (iDnLt (Int.add_le_add this iLit) rfl)
        · rw [if_neg q] at hl
          have hl':(bump st.count st.b).length = st.count.length := by exact Nat.le_antisymm (bC (fk20 (Z2 V0 V1 (Z10 V0 V1 Lf)) rfl hl)) (bC (fk20 (Z3 V0 V1 (Z10 V1 V0 Lf)) rfl hl))
          rcases h3 with h3 | h3
          · rw [h3] at q;simp at q;lia
          · rw [hl'] at this ⊢
            split <;> exact (iDnLt (Int.add_le_add (iGt1 h3) iLit) rfl)
      · show (bump st.count st.b).sum = st.nt + 1
        rw [bump_is,sum_set _ _ _ (wide_len _ h1).1,wide_tot,wide_get]
        exact Int.le_antisymm (bC (fk03 (Z2 V0 V1 (Z4 (La V0 (Ls (La V2 K1) V2)) (La V1 K1) Lf)) rfl h4)) (bC (fk03 (Z3 V0 V1 (Z4 (La V1 K1) (La V0 (Ls (La V2 K1) V2)) Lf)) rfl h4))
theorem indent_col {t:Int} (ht:1 ≤ t) (l:List Nat):Signs l→indentOf (wsOf l) t = colF t 0 l := by
  induction l using rev_ind with
  | h0=>intro _;rw [indent_sum ht];simp [wsOf,sumAt,colF]
  | h1 l c ih =>
    intro hs
    have ih := ih fun x hx=>hs x (List.mem_append_left _ hx)
    have hn := (ws_norm l).b0
    rw [wsOf_snoc,colF_app,← ih]
    rw [indent_sum ht] at ih ⊢
    rw [indent_sum ht]
    show _ = colStep t _ (c:Int)
    generalize wsOf l = st at *
    rcases hs c (List.mem_append_right _ (.head _)) with rfl | rfl
    · unfold wsStep colStep
      rw [if_pos (show (32:Nat) = 32 from rfl),if_pos (show ((32:Nat):Int) = 32 from rfl)]
      show st.b + 1 + t * (sumAt t 0 st.count + st.nt) = st.b + t * (sumAt t 0 st.count + st.nt) + 1
      exact Int.le_antisymm (bC (fk02 (Z4 (La (La V0 K1) V1) (La (La V0 V1) K1) Lf) rfl)) (bC (fk02 (Z4 (La (La V0 V1) K1) (La (La V0 K1) V1) Lf) rfl))
    · rw [step_tab ht _ (by decide)]
      unfold wsStep
      rw [if_neg (by decide)]
      show 0 + t * (sumAt t 0 (bump st.count st.b) + (st.nt + 1)) = _
      rw [bump_sum t _ hn,Int.add_mul_ediv_left _ _ (by exact (Ne.symm (Int.ne_of_lt (iDnLt ht rfl)))),Int.zero_add]
      congr 1
      exact Int.le_antisymm (bC (fk03 (Z4 (La (La V0 V1) (La V2 K1)) (La (La V1 (La V0 V2)) K1) Lf) rfl)) (bC (fk03 (Z4 (La (La V0 (La V1 V2)) K1) (La (La V1 V0) (La V2 K1)) Lf) rfl))
noncomputable def runs:List Nat→List Nat
  | []=>[0]
  | x :: l=>if x = 9 then 0 :: runs l else ((runs l).headD 0 + 1) :: (runs l).tail
noncomputable def mx:List Nat→Nat
  | []=>0
  | a :: l=>max a (mx l)
theorem mx_app:∀ a b:List Nat,mx (a ++ b) = max (mx a) (mx b)
  | [],b=>by simp [mx]
  | x :: a,b=>by rw [List.cons_append,mx,mx,mx_app a b];exact (Nat.max_assoc _ _ _).symm
theorem cast_max (a b:Nat):((max a b:Nat):Int) = max (a:Int) (b:Int) := by omega
theorem bl_is (c b:Int):(if b ≥ c then b + 1 else c) - 1 = max (c - 1) b := by split <;> (first | (first | exact Int.le_antisymm (bC (fk02 (Z3 V0 V1 (Z4 (Ls (La V1 K1) K1) V0 Lf)) rfl (Int.max_eq_right (bC (fk02 (Z0 V0 V1 (Z4 (Ls V0 K1) V1 Lf)) rfl (by assumption)))))) (bC (fk02 (Z2 V0 V1 (Z4 V0 (Ls (La V1 K1) K1) Lf)) rfl (Int.max_eq_right (bC (fk02 (Z0 V0 V1 (Z4 (Ls V0 K1) V1 Lf)) rfl (by assumption)))))) | exact Int.le_antisymm (bC (fk02 (Z3 V0 (Ls V1 K1) (Z4 (Ls V1 K1) V0 Lf)) rfl (Int.max_eq_left (bC (fk02 (Z4 V0 V1 (Z4 V1 (Ls V0 K1) Lf)) rfl (by assumption)))))) (bC (fk02 (Z2 V0 (Ls V1 K1) (Z4 V0 (Ls V1 K1) Lf)) rfl (Int.max_eq_left (bC (fk02 (Z4 V0 V1 (Z4 V1 (Ls V0 K1) Lf)) rfl (by assumption))))))) | omega)
theorem runs_ne:∀ l:List Nat,∃ r rs,runs l = r :: rs
  | []=>⟨_,_,rfl⟩
  | x :: l=>by
    unfold runs
    split
    · exact ⟨_,_,rfl⟩
    · exact ⟨_,_,rfl⟩
theorem runs_app (b:List Nat):∀ a:List Nat,runs (a ++ 9 :: b) = runs a ++ runs b
  | []=>by simp [runs]
  | x :: a=>by
    rw [List.cons_append,runs,runs,runs_app b a]
    obtain ⟨r,rs,e⟩ := runs_ne a
    rw [e]
    split <;> rfl
theorem runs_piece:∀ p:List Nat,9 ∉ p→runs p = [p.length]
  | [],_=>rfl
  | x :: p,h=>by
    rw [runs,if_neg (fun e=>h (by rw [e];exact .head _)),runs_piece p (fun q=>h (.tail _ q))]
    rfl
theorem runs_join:∀ ps:List (List Nat),ps ≠ []→(∀ p ∈ ps,9 ∉ p)→runs (joinT ps) = ps.map (·.length)
  | [],h,_=>absurd rfl h
  | [p],_,h=>by rw [joinT,runs_piece p (h p (.head _))];rfl
  | p :: q :: r,_,h=>by
    rw [joinT,runs_app,runs_piece p (h p (.head _)),runs_join (q :: r) (by simp) fun x hx=>h x (.tail _ hx)]
    rfl
theorem mx_of:∀ {l:List Nat} {M:Nat},(∀ a ∈ l,a ≤ M)→M ∈ l→mx l = M
  | [],_,_,h=>by cases h
  | a :: l,M,h,hm=>by
    have key:∀ l:List Nat,(∀ a ∈ l,a ≤ M)→mx l ≤ M := by
      intro l
      induction l with
      | nil=>intro _;exact Nat.zero_le _
      | cons a l ih=>intro h;have := h a (.head _);have := ih fun x hx=>h x (.tail _ hx);unfold mx;lia
    have key2:∀ l:List Nat,M ∈ l→M ≤ mx l := by
      intro l
      induction l with
      | nil=>intro h;cases h
      | cons a l ih =>
        intro h
        unfold mx
        rcases List.mem_cons.mp h with rfl | h
        · exact bC (fk20 (Z6 V0 V1 (Z10 V0 V1 Lf)) rfl (Nat.le_max_left _ _))
        · have := ih h;exact bC (fk30 (Z6 V0 V1 (Z6 V1 V2 (Z10 V0 V2 Lf))) rfl this (Nat.le_max_right _ _))
    have := key _ h
    have := key2 _ hm
    exact (Nat.le_antisymm (by assumption) this)
theorem maxRun_is {l:List Nat} {M:Nat} (h:MaxRun l M):M = mx (runs l) := by
  obtain ⟨ps,h1,rfl,h3,p,h4,h5⟩ := h
  rw [runs_join ps h1 fun p hp=>(h3 p hp).1]
  refine (mx_of (fun a ha=>?_) ?_).symm
  · obtain ⟨q,hq,rfl⟩ := List.mem_map.mp ha
    exact (h3 q hq).2
  · exact List.mem_map.mpr ⟨p,h4,h5⟩
theorem long_fold:∀ (l:List Nat) (st:WS),0 ≤ st.b→Signs l →
    longestOf (l.foldl wsStep st) = max ((st.count.length:Int) - 1) (max (st.b + ((runs l).headD 0:Nat)) ((mx (runs l).tail:Nat):Int))
  | [],st,hb,_=>by
    show longestOf st = max _ (max (st.b + ((0:Nat):Int)) ((0:Nat):Int))
    unfold longestOf
    rw [show max (st.b + ((0:Nat):Int)) ((0:Nat):Int) = st.b by show max (st.b + 0) 0 = _;rw [Int.add_zero];exact Int.max_eq_left hb]
    split
    · rename_i h;exact (Int.max_eq_right (Int.le_of_lt h)).symm
    · rename_i h;exact (Int.max_eq_left (Int.not_lt.mp h)).symm
  | x :: l,st,hb,hs=>by
    have hs':Signs l := fun c hc=>hs c (.tail _ hc)
    rw [List.foldl_cons]
    obtain ⟨r,rs,e⟩ := runs_ne l
    rcases hs x (.head _) with rfl | rfl
    · rw [long_fold l _ (by show 0 ≤ st.b + 1;exact (iDn (Int.add_le_add hb iLit) rfl)) hs']
      rw [runs,if_neg (by decide),e]
      show max ((st.count.length:Int) - 1) (max (st.b + 1 + (r:Nat)) ((mx rs:Nat):Int)) = max _ (max (st.b + ((r + 1:Nat):Int)) ((mx rs:Nat):Int))
      rw [show st.b + 1 + (r:Int) = st.b + ((r + 1:Nat):Int) by exact Int.le_antisymm (bC (fk11 (Z4 (La (La V1 K1) V0) (La V1 (La V0 K1)) Lf) rfl)) (bC (fk11 (Z4 (La V1 (La V0 K1)) (La (La V1 K1) V0) Lf) rfl))]
    · rw [long_fold l _ (by show (0:Int) ≤ 0;exact (by decide)) hs']
      rw [runs,if_pos rfl,e]
      show max (((bump st.count st.b).length:Int) - 1) (max (0 + (r:Nat)) ((mx rs:Nat):Int)) = max ((st.count.length:Int) - 1) (max (st.b + ((0:Nat):Int)) ((mx (r :: rs):Nat):Int))
      rw [bump_len _ hb,mx,bl_is,Int.max_assoc,Int.zero_add,cast_max,show st.b + ((0:Nat):Int) = st.b from Int.add_zero _]
theorem long_is (l:List Nat) (h:Signs l):longestOf (wsOf l) = ((mx (runs l):Nat):Int) := by
  unfold wsOf
  rw [long_fold l _ (by decide) h]
  obtain ⟨r,rs,e⟩ := runs_ne l
  rw [e]
  show max (((0:Nat):Int) - 1) (max (0 + ((r:Nat):Int)) ((mx rs:Nat):Int)) = ((mx (r :: rs):Nat):Int)
  rw [show mx (r :: rs) = max r (mx rs) from rfl,Int.zero_add,← cast_max]
  generalize max r (mx rs) = n
  exact rfl
theorem top_is {a b:List Nat} {M:Nat} (ha:Signs a) (hb:Signs b) (h:MaxRun (a ++ 9 :: b) M):topOf (wsOf a) (wsOf b) = ((1 + M:Nat):Int) := by
  rw [maxRun_is h,runs_app,mx_app]
  unfold topOf
  rw [long_is a ha,long_is b hb]
  split <;> (first | exact Int.le_antisymm (bC (fk20 (Z9 V0 V1 (Z4 (La V1 K1) (La K1 V0) Lf)) rfl (Nat.max_eq_right (bC (fk20 (Z1 V0 V1 (Z10 V0 V1 Lf)) rfl (by assumption)))))) (bC (fk20 (Z8 V0 V1 (Z4 (La K1 V0) (La V1 K1) Lf)) rfl (Nat.max_eq_right (bC (fk20 (Z1 V0 V1 (Z10 V0 V1 Lf)) rfl (by assumption)))))) | exact Int.le_antisymm (bC (fk20 (Z9 V0 V1 (Z4 (La V1 K1) (La K1 V0) Lf)) rfl (Nat.max_eq_left (bC (fk20 (Z5 V0 V1 (Z10 V1 V0 Lf)) rfl (by assumption)))))) (bC (fk20 (Z8 V0 V1 (Z4 (La K1 V0) (La V1 K1) Lf)) rfl (Nat.max_eq_left (bC (fk20 (Z5 V0 V1 (Z10 V1 V0 Lf)) rfl (by assumption)))))))
theorem runs_tabs (l:List Nat):∀ k:Nat,mx (runs (List.replicate k 9 ++ l)) = mx (runs l)
  | 0=>rfl
  | k + 1=>by
    rw [List.replicate_succ,List.cons_append,runs,if_pos rfl,mx,runs_tabs l k]
    exact rfl
theorem sum_nil_low {t:Int} {st:WS} (h:(st.count.length:Int) ≤ t):sumAt t 0 st.count = 0 := sumAt_low _ _ (bC (fk11 (Z0 V0 V1 (Z4 (La K0 V0) V1 Lf)) rfl h))
theorem indent_one {l:List Nat} (h:Signs l):indentOf (wsOf l) 1 = (wsOf l).n := by
  rw [indent_col (by decide) l h,colF_one,(ws_facts l).2.2.1]
  exact Int.le_antisymm (bC (fk10 (Z4 (La K0 V0) V0 Lf) rfl)) (bC (fk10 (Z4 V0 (La K0 V0) Lf) rfl))
theorem less_is {a b:List Nat} (ha:Signs a) (hb:Signs b):LessP (wsOf a) (wsOf b) ↔ ∀ t:Int,1 ≤ t→t ≤ topOf (wsOf a) (wsOf b)→indentOf (wsOf a) t < indentOf (wsOf b) t := by
  have a1 := indent_one ha
  have b1 := indent_one hb
  have na := ws_norm a
  have nb := ws_norm b
  have l1:(wsOf a).b ≤ longestOf (wsOf a) := by unfold longestOf;split <;> (first | exact (Int.le_refl _) | exact (Int.not_lt.mp (by assumption)))
  have l2:(wsOf b).b ≤ longestOf (wsOf b) := by unfold longestOf;split <;> (first | exact (Int.le_refl _) | exact (Int.not_lt.mp (by assumption)))
  have l3:0 ≤ longestOf (wsOf a) := by have := na.b0;exact (Int.le_trans this l1)
  have hT:1 ≤ topOf (wsOf a) (wsOf b) ∧ (wsOf a).b < topOf (wsOf a) (wsOf b) ∧ (wsOf b).b < topOf (wsOf a) (wsOf b) := by unfold topOf;split <;> (first | exact ⟨bC (fk02 (Z1 V0 V1 (Z0 K0 V0 (Z4 K1 (La V1 K1) Lf))) rfl (by assumption) l3),⟨bC (fk03 (Z1 V0 V1 (Z0 V2 V0 (Z5 V2 (La V1 K1) Lf))) rfl (by assumption) l1),bC (fk02 (Z0 V0 V1 (Z5 V0 (La V1 K1) Lf)) rfl l2)⟩⟩ | exact ⟨bC (fk01 (Z0 K0 V0 (Z4 K1 (La V0 K1) Lf)) rfl l3),⟨bC (fk02 (Z0 V0 V1 (Z5 V0 (La V1 K1) Lf)) rfl l1),bC (fk03 (Z5 V0 V1 (Z0 V2 V1 (Z5 V2 (La V0 K1) Lf))) rfl (by assumption) l2)⟩⟩)
  obtain ⟨t1,t2,t3⟩ := hT
  have s1:∀ t:Int,1 ≤ t→indentOf (wsOf a) t = (wsOf a).b + t * (sumAt t 0 (wsOf a).count + (wsOf a).nt) := fun t ht=>indent_sum ht _
  have s2:∀ t:Int,1 ≤ t→indentOf (wsOf b) t = (wsOf b).b + t * (sumAt t 0 (wsOf b).count + (wsOf b).nt) := fun t ht=>indent_sum ht _
  have b0 := na.b0
  have b0' := nb.b0
  clear na nb l1 l2 l3
  generalize wsOf a = st at *
  generalize wsOf b = st' at *
  constructor
  · rintro ⟨h1,h2⟩ t ht1 ht2
    rcases h2 with ⟨h2,h3,h4⟩ | ⟨_,h2⟩
    · have e1 := s1 t ht1
      have e2 := s2 t ht1
      have f1 := s1 1 (by decide)
      have f2 := s2 1 (by decide)
      rw [sum_nil_low (by unfold Simple at h2;(first | exact (Int.le_trans h2 ht1) | exact h2))] at e1 f1
      rw [sum_nil_low (by unfold Simple at h3;(first | exact (Int.le_trans h3 ht1) | exact h3))] at e2 f2
      rw [Int.zero_add] at e1 e2 f1 f2
      rw [e1,e2]
      have q:(t - 1) * st.nt ≤ (t - 1) * st'.nt := Int.mul_le_mul_of_nonneg_left h4 (by exact (iDn (Int.sub_le_sub ht1 iLit) rfl))
      rw [Int.sub_mul,Int.sub_mul] at q
      exact bC (fk010 (Z0 (Ls V0 (Lm 1 V1)) (Ls V2 (Lm 1 V3)) (Z2 V4 (La V5 (Lm 1 V3)) (Z3 V6 (La V7 (Lm 1 V1)) (Z1 V8 V9 (Z3 V4 V9 (Z2 V6 V8 (Z5 (La V7 V0) (La V5 V2) Lf))))))) rfl q f2 f1 h1 b1 a1)
    · by_cases e:t = 1
      · subst e;exact (Int.lt_of_le_of_lt (Int.le_of_eq a1) (Int.lt_of_lt_of_le h1 (Int.le_of_eq (Eq.symm b1))))
      · exact h2 t (by lia) ht2
  · intro h
    have h1 := h 1 (by decide) t1
    refine ⟨by exact (Int.lt_of_le_of_lt (Int.le_of_eq (Eq.symm a1)) (Int.lt_of_lt_of_le h1 (Int.le_of_eq b1))),?_⟩
    by_cases hs:Simple st ∧ Simple st'
    · left
      refine ⟨hs.1,hs.2,?_⟩
      have e := h _ t1 (Int.le_refl _)
      rw [s1 _ t1,s2 _ t1,sum_nil_low (by have := hs.1;unfold Simple at this;exact (Int.le_trans this t1)),sum_nil_low (by have := hs.2;unfold Simple at this;exact (Int.le_trans this t1)),Int.zero_add,Int.zero_add] at e
      generalize topOf st st' = T at *
      refine Int.not_lt.mp fun q=>?_
      have r:T * (st'.nt + 1) ≤ T * st.nt := Int.mul_le_mul_of_nonneg_left (bC (fk02 (Z1 V0 V1 (Z4 (La V0 K1) V1 Lf)) rfl q)) (by exact (Int.le_trans b0' (Int.le_of_lt t3)))
      rw [Int.mul_add,Int.mul_one] at r
      exact fk05 (Z0 (La V0 V1) V2 (Z1 (La V3 V2) (La V4 V0) (Z1 V4 V1 (Z0 K0 V3 Lf)))) rfl r e t3 b0
    · right
      exact ⟨hs,fun t h1 h2=>h t (by exact (iDn h1 rfl)) h2⟩
theorem sumAt_trim {t:Int} (ht:1 ≤ t):∀ (a b:List Int) (k:Nat),(∀ i,t ≤ ((k + i:Nat):Int)→a.getD i 0 = b.getD i 0)→sumAt t k a = sumAt t k b
  | [],[],_,_=>rfl
  | [],c :: b,k,h=>by
    have h0:t ≤ ((k + 0:Nat):Int)→(0:Int) = c := fun q=>by simpa using h 0 q
    have e:0 = sumAt t (k + 1) b := sumAt_trim ht [] b (k + 1) (fun i q=>by have := h (i + 1) (bC (fk21 (Z0 V2 (La (La V0 K1) V1) (Z4 V2 (La V0 (La V1 K1)) Lf)) rfl q));simpa using this)
    show 0 = ((k:Int) / t) * c + sumAt t (k + 1) b
    rw [← e]
    by_cases q:t ≤ (k:Int)
    · rw [← h0 q];simp
    · rw [Int.ediv_eq_zero_of_lt (by exact (iDn iCast0 rfl)) (by exact (Int.not_le.mp q))];simp
  | c :: a,[],k,h=>by
    have h0:t ≤ ((k + 0:Nat):Int)→c = (0:Int) := fun q=>by simpa using h 0 q
    have e:sumAt t (k + 1) a = 0 := sumAt_trim ht a [] (k + 1) (fun i q=>by have := h (i + 1) (bC (fk21 (Z0 V2 (La (La V0 K1) V1) (Z4 V2 (La V0 (La V1 K1)) Lf)) rfl q));simpa using this)
    show ((k:Int) / t) * c + sumAt t (k + 1) a = 0
    rw [e]
    by_cases q:t ≤ (k:Int)
    · rw [h0 q];simp
    · rw [Int.ediv_eq_zero_of_lt (by exact (iDn iCast0 rfl)) (by exact (Int.not_le.mp q))];simp
  | c :: a,e :: b,k,h=>by
    have h0:t ≤ ((k + 0:Nat):Int)→c = e := fun q=>by simpa using h 0 q
    rw [sumAt,sumAt,sumAt_trim ht a b (k + 1) (fun i q=>by have := h (i + 1) (by exact bC (fk21 (Z0 V2 (La (La V0 K1) V1) (Z4 V2 (La V0 (La V1 K1)) Lf)) rfl q));simpa using this)]
    by_cases q:t ≤ (k:Int)
    · rw [h0 q]
    · rw [Int.ediv_eq_zero_of_lt (by exact (iDn iCast0 rfl)) (by exact (Int.not_le.mp q))];simp
theorem sumAt_at {i:Nat} (hi:1 ≤ i) (a b:List Int) (h:∀ j,i < j→a.getD j 0 = b.getD j 0):sumAt (i:Int) 0 a - sumAt (i:Int) 0 b = a.getD i 0 - b.getD i 0 := by
  have key:∀ l:List Int,∃ l',(∀ j,l'.getD j 0 = if j = i then 0 else l.getD j 0) ∧ sumAt (i:Int) 0 l = sumAt (i:Int) 0 l' + l.getD i 0 := by
    intro l
    by_cases q:i < l.length
    · refine ⟨l.set i 0,fun j=>?_,?_⟩
      · rw [List.getD_eq_getElem?_getD,List.getElem?_set]
        by_cases e:i = j
        · rw [if_pos e,if_pos e.symm,if_pos q];rfl
        · rw [if_neg e,if_neg (fun x=>e x.symm)];simp [List.getD_eq_getElem?_getD]
      · rw [sumAt_set _ _ _ _ _ q,show 0 + i = i by exact Nat.le_antisymm (bC (fk10 (Z10 (La K0 V0) V0 Lf) rfl)) (bC (fk10 (Z10 V0 (La K0 V0) Lf) rfl)),Int.ediv_self (by exact (Ne.symm (Int.ne_of_lt (iDnLt (iCast hi) rfl)))),Int.one_mul]
        lia
    · refine ⟨l,fun j=>?_,?_⟩
      · split
        · rename_i e;subst e;rw [List.getD_eq_getElem?_getD,List.getElem?_eq_none (by exact (Nat.le_of_not_lt q))];rfl
        · rfl
      · rw [List.getD_eq_getElem?_getD,List.getElem?_eq_none (by exact (Nat.le_of_not_lt q))];simp
  obtain ⟨a',a1,a2⟩ := key a
  obtain ⟨b',b1,b2⟩ := key b
  have e:sumAt (i:Int) 0 a' = sumAt (i:Int) 0 b' := sumAt_trim (by exact (iDn (iCast hi) rfl)) a' b' 0 fun j hj=>by
    rw [a1,b1]
    split
    · rfl
    · exact h j (by lia)
  exact Int.le_antisymm (bC (fk06 (Z2 V0 V1 (Z3 V2 (La V1 V3) (Z2 V4 (La V0 V5) (Z4 (Ls V4 V2) (Ls V5 V3) Lf)))) rfl e b2 a2)) (bC (fk06 (Z3 V0 V1 (Z2 V2 (La V1 V3) (Z3 V4 (La V0 V5) (Z4 (Ls V5 V3) (Ls V4 V2) Lf)))) rfl e b2 a2))
theorem sum_one:∀ l:List Int,l.sum = l.getD 0 0 + (l.drop 1).sum
  | []=>rfl
  | c :: l=>by simp
theorem sum_ext:∀ (a b:List Int),(∀ i,a.getD i 0 = b.getD i 0)→a.sum = b.sum
  | [],[],_=>rfl
  | [],c :: b,h=>by
    have h0:(0:Int) = c := by simpa using h 0
    rw [List.sum_cons,← sum_ext [] b (fun i=>by have := h (i + 1);simpa using this),← h0];rfl
  | c :: a,[],h=>by
    have h0:c = (0:Int) := by simpa using h 0
    rw [List.sum_cons,sum_ext a [] (fun i=>by have := h (i + 1);simpa using this),h0];rfl
  | c :: a,e :: b,h=>by
    have h0:c = e := by simpa using h 0
    rw [List.sum_cons,List.sum_cons,sum_ext a b (fun i=>by have := h (i + 1);simpa using this),h0]
theorem ext_norm {a b:List Int} (ha:a = [] ∨ 0 < a.getD (a.length - 1) 0) (hb:b = [] ∨ 0 < b.getD (b.length - 1) 0) (h:∀ i,a.getD i 0 = b.getD i 0):a = b := by
  have key:∀ {a b:List Int},(b = [] ∨ 0 < b.getD (b.length - 1) 0)→(∀ i,a.getD i 0 = b.getD i 0)→b.length ≤ a.length := by
    intro a b hb h
    rcases hb with rfl | hb
    · exact Nat.zero_le _
    · refine Nat.not_lt.mp fun q=>?_
      rw [← h,List.getD_eq_getElem?_getD,List.getElem?_eq_none (by exact bC (fk30 (Z7 V0 V1 (Z9 (La V2 K1) V1 (Z10 V0 V2 Lf))) rfl q (sC (bC (fk20 (Z7 V0 V1 (Z12 V0 (Z10 K1 V1 Lf))) rfl q trivial)))))] at hb
      exact absurd hb (by decide)
  have h1 := key hb h
  have h2 := key ha fun i=>(h i).symm
  refine List.ext_getElem (by exact (Nat.le_antisymm h2 h1)) fun i p q=>?_
  have := h i
  rw [List.getD_eq_getElem?_getD,List.getD_eq_getElem?_getD,List.getElem?_eq_getElem p,List.getElem?_eq_getElem q] at this
  exact this
section
variable {a b:List Nat} (ha:Signs a) (hb:Signs b)
theorem top_facts (a b:List Nat):1 ≤ topOf (wsOf a) (wsOf b) ∧ (wsOf a).b < topOf (wsOf a) (wsOf b) ∧ (wsOf b).b < topOf (wsOf a) (wsOf b) ∧ ((wsOf a).count.length:Int) ≤ topOf (wsOf a) (wsOf b) ∧ ((wsOf b).count.length:Int) ≤ topOf (wsOf a) (wsOf b) := by
  have l1:(wsOf a).b ≤ longestOf (wsOf a) ∧ ((wsOf a).count.length:Int) - 1 ≤ longestOf (wsOf a) := by unfold longestOf;split <;> (first | exact ⟨(Int.le_refl _),(Int.le_of_lt (by assumption))⟩ | exact ⟨(Int.not_lt.mp (by assumption)),(Int.le_refl _)⟩)
  have l2:(wsOf b).b ≤ longestOf (wsOf b) ∧ ((wsOf b).count.length:Int) - 1 ≤ longestOf (wsOf b) := by unfold longestOf;split <;> (first | exact ⟨(Int.le_refl _),(Int.le_of_lt (by assumption))⟩ | exact ⟨(Int.not_lt.mp (by assumption)),(Int.le_refl _)⟩)
  have l3:0 ≤ longestOf (wsOf a) := by have := (ws_norm a).b0;exact (Int.le_trans this l1.1)
  unfold topOf
  split <;> (first | (first | exact ⟨bC (fk02 (Z1 V0 V1 (Z0 K0 V0 (Z4 K1 (La V1 K1) Lf))) rfl (by assumption) l3),⟨bC (fk03 (Z1 V0 V1 (Z0 V2 V0 (Z5 V2 (La V1 K1) Lf))) rfl (by assumption) l1.1),⟨bC (fk02 (Z0 V0 V1 (Z5 V0 (La V1 K1) Lf)) rfl l2.1),⟨bC (fk12 (Z1 V1 V2 (Z0 (Ls V0 K1) V1 (Z4 V0 (La V2 K1) Lf))) rfl (by assumption) l1.2),bC (fk11 (Z0 (Ls V0 K1) V1 (Z4 V0 (La V1 K1) Lf)) rfl l2.2)⟩⟩⟩⟩ | exact ⟨bC (fk01 (Z0 K0 V0 (Z4 K1 (La V0 K1) Lf)) rfl l3),⟨bC (fk02 (Z0 V0 V1 (Z5 V0 (La V1 K1) Lf)) rfl l1.1),⟨bC (fk03 (Z5 V0 V1 (Z0 V2 V1 (Z5 V2 (La V0 K1) Lf))) rfl (by assumption) l2.1),⟨bC (fk11 (Z0 (Ls V0 K1) V1 (Z4 V0 (La V1 K1) Lf)) rfl l1.2),bC (fk12 (Z5 V1 V2 (Z0 (Ls V0 K1) V2 (Z4 V0 (La V1 K1) Lf))) rfl (by assumption) l2.2)⟩⟩⟩⟩) | omega)
theorem indent_far {t:Int} (a b:List Nat) (h:topOf (wsOf a) (wsOf b) ≤ t):indentOf (wsOf a) t = (wsOf a).b + t * (wsOf a).nt ∧ indentOf (wsOf b) t = (wsOf b).b + t * (wsOf b).nt := by
  obtain ⟨t1,t2,t3,t4,t5⟩ := top_facts a b
  rw [indent_sum (by exact (Int.le_trans t1 h)),indent_sum (by exact (Int.le_trans t1 h)),sum_nil_low (by exact (Int.le_trans t4 h)),sum_nil_low (by exact (Int.le_trans t5 h)),Int.zero_add,Int.zero_add]
  exact ⟨rfl,rfl⟩
theorem less_all (h:∀ t:Int,1 ≤ t→t ≤ topOf (wsOf a) (wsOf b)→indentOf (wsOf a) t < indentOf (wsOf b) t) (t:Int) (ht:1 ≤ t):indentOf (wsOf a) t < indentOf (wsOf b) t := by
  by_cases q:t ≤ topOf (wsOf a) (wsOf b)
  · exact h t ht q
  · obtain ⟨t1,t2,t3,t4,t5⟩ := top_facts a b
    have e := h _ t1 (Int.le_refl _)
    obtain ⟨e1,e2⟩ := indent_far a b (Int.le_refl _)
    rw [e1,e2] at e
    obtain ⟨f1,f2⟩ := indent_far a b (show topOf (wsOf a) (wsOf b) ≤ t by exact (Int.le_of_lt (Int.not_le.mp q)))
    rw [f1,f2]
    have b0 := (ws_norm a).b0
    have b0' := (ws_norm b).b0
    clear h e1 e2 f1 f2
    generalize topOf (wsOf a) (wsOf b) = T at *
    generalize wsOf a = st at *
    generalize wsOf b = st' at *
    have hn:st.nt ≤ st'.nt := by
      refine Int.not_lt.mp fun q=>?_
      have r:T * (st'.nt + 1) ≤ T * st.nt := Int.mul_le_mul_of_nonneg_left (bC (fk02 (Z1 V0 V1 (Z4 (La V0 K1) V1 Lf)) rfl q)) (by exact (Int.le_trans b0' (Int.le_of_lt t3)))
      rw [Int.mul_add,Int.mul_one] at r
      exact fk05 (Z0 (La V0 V1) V2 (Z1 (La V3 V2) (La V4 V0) (Z1 V4 V1 (Z0 K0 V3 Lf)))) rfl r e t3 b0
    by_cases hq:st.nt = st'.nt
    · rw [hq] at e ⊢;exact bC (fk04 (Z1 (La V0 V1) (La V2 V1) (Z5 (La V0 V3) (La V2 V3) Lf)) rfl e)
    · have r:t * (st.nt + 1) ≤ t * st'.nt := Int.mul_le_mul_of_nonneg_left (by lia) (by exact (Int.le_trans b0' (Int.le_trans (Int.le_of_lt t3) (Int.le_of_lt (Int.not_le.mp q)))))
      rw [Int.mul_add,Int.mul_one] at r
      exact bC (fk06 (Z0 (La V0 V1) V2 (Z0 K0 V3 (Z1 V4 V5 (Z4 V1 V5 (Z5 (La V4 V0) (La V3 V2) Lf))))) rfl r b0' t2 q)
theorem equal_is (a b:List Nat):((wsOf a).count = (wsOf b).count ∧ (wsOf a).b = (wsOf b).b) ↔ ∀ t:Int,1 ≤ t→t ≤ topOf (wsOf a) (wsOf b)→indentOf (wsOf a) t = indentOf (wsOf b) t := by
  have na := ws_norm a
  have nb := ws_norm b
  constructor
  · rintro ⟨h1,h2⟩ t ht _
    rw [indent_sum ht,indent_sum ht,h1,h2,← na.sum,← nb.sum,h1]
  · intro h
    obtain ⟨t1,t2,t3,t4,t5⟩ := top_facts a b
    have e := h _ t1 (Int.le_refl _)
    obtain ⟨e1,e2⟩ := indent_far a b (Int.le_refl _)
    rw [e1,e2] at e
    have b0 := na.b0
    have b0' := nb.b0
    have hb:(wsOf a).b = (wsOf b).b ∧ (wsOf a).nt = (wsOf b).nt := by
      have m1 := congrArg (· % topOf (wsOf a) (wsOf b)) e
      have m2 := congrArg (· / topOf (wsOf a) (wsOf b)) e
      simp only [Int.add_mul_emod_self_left] at m1
      rw [Int.emod_eq_of_lt b0 t2,Int.emod_eq_of_lt b0' t3] at m1
      simp only [Int.add_mul_ediv_left _ _ (show topOf (wsOf a) (wsOf b) ≠ 0 by exact (Ne.symm (Int.ne_of_lt (Int.lt_of_le_of_lt b0' t3))))] at m2
      rw [Int.ediv_eq_zero_of_lt b0 t2,Int.ediv_eq_zero_of_lt b0' t3] at m2
      exact ⟨Int.le_antisymm (bC (fk02 (Z2 V0 V1 (Z4 V0 V1 Lf)) rfl m1)) (bC (fk02 (Z3 V0 V1 (Z4 V1 V0 Lf)) rfl m1)),Int.le_antisymm (bC (fk02 (Z2 (La K0 V0) (La K0 V1) (Z4 V0 V1 Lf)) rfl m2)) (bC (fk02 (Z3 (La K0 V0) (La K0 V1) (Z4 V1 V0 Lf)) rfl m2))⟩
    refine ⟨?_,hb.1⟩
    have hS:∀ t:Int,1 ≤ t→t ≤ topOf (wsOf a) (wsOf b)→sumAt t 0 (wsOf a).count = sumAt t 0 (wsOf b).count := by
      intro t h1 h2
      have := h t h1 h2
      rw [indent_sum h1,indent_sum h1,hb.1,hb.2] at this
      have h3:t * (sumAt t 0 (wsOf a).count + (wsOf b).nt) = t * (sumAt t 0 (wsOf b).count + (wsOf b).nt) := by exact Int.le_antisymm (bC (fk03 (Z2 (La V0 V1) (La V0 V2) (Z4 V1 V2 Lf)) rfl this)) (bC (fk03 (Z3 (La V0 V1) (La V0 V2) (Z4 V2 V1 Lf)) rfl this))
      have := Int.eq_of_mul_eq_mul_left (show t ≠ 0 by exact (Ne.symm (Int.ne_of_lt (iDnLt h1 rfl)))) h3
      exact Int.le_antisymm (bC (fk03 (Z2 (La V0 V1) (La V2 V1) (Z4 V0 V2 Lf)) rfl this)) (bC (fk03 (Z3 (La V0 V1) (La V2 V1) (Z4 V2 V0 Lf)) rfl this))
    have far:∀ j:Nat,topOf (wsOf a) (wsOf b) ≤ (j:Int)→(wsOf a).count.getD j 0 = (wsOf b).count.getD j 0 := by
      intro j hj
      rw [List.getD_eq_getElem?_getD,List.getD_eq_getElem?_getD,List.getElem?_eq_none (by exact bC (fk21 (Z0 V2 V0 (Z0 V1 V2 (Z10 V1 V0 Lf))) rfl hj t4)),List.getElem?_eq_none (by exact bC (fk21 (Z0 V2 V0 (Z0 V1 V2 (Z10 V1 V0 Lf))) rfl hj t5))]
    have near:∀ n i:Nat,1 ≤ i→topOf (wsOf a) (wsOf b) ≤ ((i + n:Nat):Int)→(wsOf a).count.getD i 0 = (wsOf b).count.getD i 0 := by
      intro n
      induction n with
      | zero=>intro i h1 h2;exact far i (bC (fk11 (Z0 V1 (La V0 K0) (Z4 V1 V0 Lf)) rfl h2))
      | succ n ih =>
        intro i h1 h2
        by_cases q:topOf (wsOf a) (wsOf b) ≤ (i:Int)
        · exact far i q
        · have h3 := sumAt_at h1 (wsOf a).count (wsOf b).count fun j hj=>ih j (by exact (Nat.le_trans h1 (Nat.le_of_lt hj))) (bC (fk31 (Z7 V0 V1 (Z0 V3 (La V0 (La V2 K1)) (Z4 V3 (La V1 V2) Lf))) rfl hj h2))
          have h4 := hS i (by exact (iDn (iCast h1) rfl)) (by exact (Int.le_of_lt (Int.not_le.mp q)))
          exact Int.le_antisymm (bC (fk04 (Z2 V0 V1 (Z3 (Ls V0 V1) (Ls V2 V3) (Z4 V2 V3 Lf))) rfl h4 h3)) (bC (fk04 (Z3 V0 V1 (Z2 (Ls V0 V1) (Ls V2 V3) (Z4 V3 V2 Lf))) rfl h4 h3))
    have all1:∀ i:Nat,1 ≤ i→(wsOf a).count.getD i 0 = (wsOf b).count.getD i 0 := fun i hi=>near (topOf (wsOf a) (wsOf b)).toNat i hi (bC (fk21 (Z3 V0 V2 (Z12 V1 (Z4 V2 (La V1 V0) Lf))) rfl (tC (bC (fk01 (Z0 K1 V0 (Z4 K0 V0 Lf)) rfl t1))) trivial))
    refine ext_norm na.last nb.last fun i=>?_
    rcases Nat.eq_zero_or_pos i with rfl | hp
    · have s1 := na.sum
      have s2 := nb.sum
      rw [sum_one] at s1 s2
      have s3:((wsOf a).count.drop 1).sum = ((wsOf b).count.drop 1).sum := sum_ext _ _ fun i=>by
        have := all1 (1 + i) (by exact (Nat.le_add_right _ _))
        rw [List.getD_eq_getElem?_getD,List.getD_eq_getElem?_getD] at this ⊢
        rw [List.getElem?_drop,List.getElem?_drop]
        exact this
      have := hb.2
      exact Int.le_antisymm (bC (fk06 (Z2 V0 V1 (Z3 V2 V3 (Z3 (La V4 V3) V1 (Z2 (La V5 V2) V0 (Z4 V5 V4 Lf))))) rfl this s3 s2 s1)) (bC (fk06 (Z3 V0 V1 (Z2 V2 V3 (Z2 (La V4 V3) V1 (Z3 (La V5 V2) V0 (Z4 V4 V5 Lf))))) rfl this s3 s2 s1))
    · exact all1 i hp
end
section
variable {a b:List Nat}
theorem at_snoc {l:List Nat} {i c:Nat} (h:l[i]? = some c):l.take (i + 1) = l.take i ++ [c] := by
  rw [List.take_add_one,h];rfl
noncomputable def PlaceOk (a b:List Nat) (n:Nat) (p:Nat):Prop := ∃ i j,p = 20 * i + j ∧ j ≤ b.length + n ∧ (i ≤ a.length→j ≤ b.length→∃ m:Int,m ≤ 2 * (n:Int) ∧ Al (a.take i) (b.take j) m)
theorem diag_ok (hb:b.length ≤ 4) {S:Nat→Prop} {n:Nat} (hn:n ≤ 10) (h:∀ p,S p→PlaceOk a b n p):∀ k p,diagU a b S k p→PlaceOk a b n p
  | 0,p,hp=>h p hp
  | k + 1,p,hp=>by
    rcases hp with hp | ⟨m,hm,⟨hp,c,hc1,hc2⟩,rfl⟩
    · exact diag_ok hb hn h k p hp
    · obtain ⟨i,j,e,hj,hk⟩ := diag_ok hb hn h k _ hp
      refine ⟨k + 1,m + 1,by exact Nat.le_antisymm (bC (fk20 (Z10 (La (La (Lm 20 V0) V1) (Lk 21)) (La (Lm 20 (La V0 K1)) (La V1 K1)) Lf) rfl)) (bC (fk20 (Z10 (La (Lm 20 (La V0 K1)) (La V1 K1)) (La (La (Lm 20 V0) V1) (Lk 21)) Lf) rfl)),by exact (Nat.succ_le_of_lt (Nat.lt_of_lt_of_le hm (Nat.le_add_right _ _))),fun h1 h2=>?_⟩
      obtain ⟨rfl,rfl⟩:i = k ∧ j = m := by lia
      obtain ⟨q,hq,hA⟩ := hk (bC (fk20 (Z6 (La V0 K1) V1 (Z10 V0 V1 Lf)) rfl h1)) (by exact (Nat.le_of_lt hm))
      refine ⟨q,hq,?_⟩
      rw [at_snoc hc1,at_snoc hc2]
      exact (hA.snocS c c).cast (by rw [cst_self];exact Int.le_antisymm (bC (fk01 (Z4 (La V0 K0) V0 Lf) rfl)) (bC (fk01 (Z4 V0 (La V0 K0) Lf) rfl)))
theorem take_more {l:List Nat} {i:Nat} (h:i < l.length):∃ c,l[i]? = some c ∧ l.take (i + 1) = l.take i ++ [c] :=
  ⟨l[i],List.getElem?_eq_getElem h,at_snoc (List.getElem?_eq_getElem h)⟩
theorem wave_ok (hb:b.length ≤ 4):∀ n,n ≤ 9→∀ p,waveS a b n p→PlaceOk a b n p
  | 0,_,p,hp=>⟨0,0,hp,by exact (Nat.le_add_left _ _),fun _ _=>⟨0,by exact (by decide),by rw [List.take_zero,List.take_zero];exact .nil⟩⟩
  | n + 1,hn,p,hp=>by
    have key:∀ p,diagU a b (waveS a b n) a.length p→PlaceOk a b n p := diag_ok hb (bC (fk10 (Z6 (La V0 K1) (Lk 9) (Z10 V0 (Lk 10) Lf)) rfl hn)) (wave_ok hb n (bC (fk10 (Z6 (La V0 K1) (Lk 9) (Z10 V0 (Lk 9) Lf)) rfl hn))) _
    rcases hp with hp | ⟨q,hq,j,hj,rfl⟩
    · obtain ⟨i,j,e,h1,h2⟩ := key p hp
      exact ⟨i,j,e,by exact (Nat.le_trans h1 (Nat.add_le_add_left (Nat.le_add_right _ _) _)),fun h3 h4=>by obtain ⟨m,k1,k2⟩ := h2 h3 h4;exact ⟨m,by exact bC (fk11 (Z0 V1 (Lm 2 V0) (Z4 V1 (Lm 2 (La V0 K1)) Lf)) rfl k1),k2⟩⟩
    · obtain ⟨i,j',rfl,h1,h2⟩ := key q hq
      obtain rfl | rfl | rfl:j = 0 ∨ j = 1 ∨ j = 2 := by lia
      · refine ⟨i,j' + 1,by show _ + 1 = _;exact rfl,by exact bC (fk30 (Z6 V0 (La V1 V2) (Z10 (La V0 K1) (La V1 (La V2 K1)) Lf)) rfl h1),fun h3 h4=>?_⟩
        obtain ⟨m,k1,k2⟩ := h2 h3 (bC (fk20 (Z6 (La V0 K1) V1 (Z10 V0 V1 Lf)) rfl h4))
        obtain ⟨c,_,hc⟩ := take_more (l := b) (i := j') (bC (fk20 (Z6 (La V0 K1) V1 (Z11 V0 V1 Lf)) rfl h4))
        rw [hc]
        exact ⟨m + 2,by exact bC (fk11 (Z0 V1 (Lm 2 V0) (Z4 (La V1 K2) (Lm 2 (La V0 K1)) Lf)) rfl k1),k2.snocI c⟩
      · refine ⟨i + 1,j',by show _ + 20 = _;exact Nat.le_antisymm (bC (fk20 (Z10 (La (La (Lm 20 V0) V1) (Lk 20)) (La (Lm 20 (La V0 K1)) V1) Lf) rfl)) (bC (fk20 (Z10 (La (Lm 20 (La V0 K1)) V1) (La (La (Lm 20 V0) V1) (Lk 20)) Lf) rfl)),by exact (Nat.le_trans h1 (Nat.add_le_add_left (Nat.le_add_right _ _) _)),fun h3 h4=>?_⟩
        obtain ⟨m,k1,k2⟩ := h2 (bC (fk20 (Z6 (La V0 K1) V1 (Z10 V0 V1 Lf)) rfl h3)) h4
        obtain ⟨c,_,hc⟩ := take_more (l := a) (i := i) (bC (fk20 (Z6 (La V0 K1) V1 (Z11 V0 V1 Lf)) rfl h3))
        rw [hc]
        exact ⟨m + 2,by exact bC (fk11 (Z0 V1 (Lm 2 V0) (Z4 (La V1 K2) (Lm 2 (La V0 K1)) Lf)) rfl k1),k2.snocD c⟩
      · refine ⟨i + 1,j' + 1,by show _ + 21 = _;exact Nat.le_antisymm (bC (fk20 (Z10 (La (La (Lm 20 V0) V1) (Lk 21)) (La (Lm 20 (La V0 K1)) (La V1 K1)) Lf) rfl)) (bC (fk20 (Z10 (La (Lm 20 (La V0 K1)) (La V1 K1)) (La (La (Lm 20 V0) V1) (Lk 21)) Lf) rfl)),by exact bC (fk30 (Z6 V0 (La V1 V2) (Z10 (La V0 K1) (La V1 (La V2 K1)) Lf)) rfl h1),fun h3 h4=>?_⟩
        obtain ⟨m,k1,k2⟩ := h2 (bC (fk20 (Z6 (La V0 K1) V1 (Z10 V0 V1 Lf)) rfl h3)) (bC (fk20 (Z6 (La V0 K1) V1 (Z10 V0 V1 Lf)) rfl h4))
        obtain ⟨c,_,hc⟩ := take_more (l := a) (i := i) (bC (fk20 (Z6 (La V0 K1) V1 (Z11 V0 V1 Lf)) rfl h3))
        obtain ⟨e,_,he⟩ := take_more (l := b) (i := j') (bC (fk20 (Z6 (La V0 K1) V1 (Z11 V0 V1 Lf)) rfl h4))
        rw [hc,he]
        exact ⟨m + cst c e,by have := (cst_le c e).2;exact bC (fk12 (Z0 V1 K2 (Z0 V2 (Lm 2 V0) (Z4 (La V2 V1) (Lm 2 (La V0 K1)) Lf))) rfl this k1),k2.snocS c e⟩
theorem diag_back {S:Nat→Prop} {k m:Nat} (hb:b.length ≤ 4) (hm:m < b.length):∀ K,k ≤ K→diagU a b S K (20 * k + m)→diagU a b S k (20 * k + m)
  | 0,h,hp=>by
    obtain rfl:k = 0 := by exact Nat.le_antisymm (bC (fk10 (Z6 V0 K0 (Z10 V0 K0 Lf)) rfl h)) (bC (fk10 (Z12 V0 (Z10 K0 V0 Lf)) rfl trivial))
    exact hp
  | K + 1,h,hp=>by
    by_cases e:k = K + 1
    · subst e;exact hp
    · rcases hp with hp | ⟨m',hm',_,e2⟩
      · exact diag_back hb hm K (by lia) hp
      · lia
theorem diag_keep {S:Nat→Prop} {p:Nat} {k:Nat}:∀ K,k ≤ K→diagU a b S k p→diagU a b S K p
  | 0,h,hp=>by
    obtain rfl:k = 0 := by exact Nat.le_antisymm (bC (fk10 (Z6 V0 K0 (Z10 V0 K0 Lf)) rfl h)) (bC (fk10 (Z12 V0 (Z10 K0 V0 Lf)) rfl trivial))
    exact hp
  | K + 1,h,hp=>by
    by_cases e:k = K + 1
    · subst e;exact hp
    · exact .inl (diag_keep K (by lia) hp)
theorem diag_shut {S:Nat→Prop} {k m c:Nat} (hb:b.length ≤ 4) (h1:a[k]? = some c) (h2:b[m]? = some c) (h:diagU a b S a.length (20 * k + m)):diagU a b S a.length (20 * (k + 1) + (m + 1)) := by
  have hk := (List.getElem?_eq_some_iff.mp h1).1
  have hm := (List.getElem?_eq_some_iff.mp h2).1
  refine diag_keep (k := k + 1) _ (by exact (Nat.succ_le_of_lt hk)) (.inr ⟨m,hm,⟨diag_back hb hm _ (by exact (Nat.le_of_lt hk)) h,c,h1,h2⟩,by exact Nat.le_antisymm (bC (fk20 (Z10 (La (Lm 20 (La V0 K1)) (La V1 K1)) (La (La (Lm 20 V0) V1) (Lk 21)) Lf) rfl)) (bC (fk20 (Z10 (La (La (Lm 20 V0) V1) (Lk 21)) (La (Lm 20 (La V0 K1)) (La V1 K1)) Lf) rfl))⟩)
theorem wave_zero:∀ n,waveS a b n 0
  | 0=>rfl
  | n + 1=>.inl (diagU_mono (wave_zero n) _)
theorem wave_all (hb:b.length ≤ 4) (sa:Signs a) (sb:Signs b):∀ (s i j n:Nat) (m:Int),i + j ≤ s→i ≤ a.length→j ≤ b.length→Al (a.take i) (b.take j) m→m ≤ 2 * (n:Int)→diagU a b (waveS a b n) a.length (20 * i + j) := by
  intro s
  induction s with
  | zero =>
    intro i j n m h _ _ _ _
    obtain ⟨rfl,rfl⟩:i = 0 ∧ j = 0 := by exact ⟨Nat.le_antisymm (bC (fk20 (Z6 (La V0 V1) K0 (Z12 V1 (Z10 V0 K0 Lf))) rfl h trivial)) (bC (fk10 (Z12 V0 (Z10 K0 V0 Lf)) rfl trivial)),Nat.le_antisymm (bC (fk20 (Z6 (La V0 V1) K0 (Z12 V0 (Z10 V1 K0 Lf))) rfl h trivial)) (bC (fk10 (Z12 V0 (Z10 K0 V0 Lf)) rfl trivial))⟩
    exact diagU_mono (wave_zero n) _
  | succ s ih =>
    intro i j n m hs hi hj hA hm
    have lower:∀ {i' j':Nat} {m':Int},i' + j' ≤ s→i' ≤ a.length→j' ≤ b.length→Al (a.take i') (b.take j') m'→m' + 2 ≤ m→∃ n',n = n' + 1 ∧ diagU a b (waveS a b n') a.length (20 * i' + j') := by
      intro i' j' m' h1 h2 h3 h4 h5
      have := h4.nonneg
      exact ⟨n - 1,by exact Nat.le_antisymm (bC (fk20 (Z9 (La V0 K1) V1 (Z10 V1 (La V0 K1) Lf)) rfl (sC (bC (fk12 (Z0 K0 V1 (Z0 (La V1 K2) V2 (Z0 V2 (Lm 2 V0) (Lh 10 2 K1 V0 Lf)))) rfl this h5 hm))))) (bC (fk20 (Z8 (La V0 K1) V1 (Z10 (La V0 K1) V1 Lf)) rfl (sC (bC (fk12 (Z0 K0 V1 (Z0 (La V1 K2) V2 (Z0 V2 (Lm 2 V0) (Lh 10 2 K1 V0 Lf)))) rfl this h5 hm))))),ih i' j' (n - 1) m' h1 h2 h3 h4 (bC (fk22 (Z0 (La V2 K2) V3 (Z0 V3 (Lm 2 V0) (Lh 9 2 (La V1 K1) V0 (Z4 V2 (Lm 2 V1) Lf)))) rfl h5 hm (sC (bC (fk12 (Z0 K0 V1 (Z0 (La V1 K2) V2 (Z0 V2 (Lm 2 V0) (Lh 10 2 K1 V0 Lf)))) rfl this h5 hm)))))⟩
    cases i with
    | zero =>
      cases j with
      | zero=>exact diagU_mono (wave_zero n) _
      | succ j' =>
        have h1 := hA.len.1
        rw [List.take_zero,List.length_nil,List.length_take,Nat.min_eq_left hj] at h1
        obtain ⟨n',rfl,hk⟩ := lower (i' := 0) (j' := j') (m' := 2 * ((b.take j').length:Int)) (bC (fk20 (Z6 (La K0 (La V0 K1)) (La V1 K1) (Z10 (La K0 V0) V1 Lf)) rfl hs)) (by exact hi) (bC (fk20 (Z6 (La V0 K1) V1 (Z10 V0 V1 Lf)) rfl hj)) (by rw [List.take_zero];exact Al.empty _) (by rw [List.length_take];exact bC (fk21 (Z0 (Lm 2 (Ls (La V0 K1) K0)) V2 (Lh 8 2 V1 V0 (Z4 (La (Lm 2 V1) K2) V2 Lf))) rfl h1 (Nat.min_eq_left (bC (fk20 (Z6 (La V0 K1) V1 (Z10 V0 V1 Lf)) rfl hj)))))
        exact diagU_mono (.inr ⟨_,hk,0,by exact (by decide),by show _ = _ + 1;exact rfl⟩) _
    | succ i' =>
      obtain ⟨x,hx,ex⟩ := take_more (l := a) (i := i') (bC (fk20 (Z6 (La V0 K1) V1 (Z11 V0 V1 Lf)) rfl hi))
      cases j with
      | zero =>
        have h1 := hA.symm.len.1
        rw [List.take_zero,List.length_nil,List.length_take,Nat.min_eq_left hi] at h1
        obtain ⟨n',rfl,hk⟩ := lower (i' := i') (j' := 0) (m' := 2 * ((a.take i').length:Int)) (bC (fk20 (Z6 (La (La V0 K1) K0) (La V1 K1) (Z10 (La V0 K0) V1 Lf)) rfl hs)) (bC (fk20 (Z6 (La V0 K1) V1 (Z10 V0 V1 Lf)) rfl hi)) (by exact hj) (by rw [List.take_zero];exact (Al.empty _).symm) (by rw [List.length_take];exact bC (fk21 (Z0 (Lm 2 (Ls (La V0 K1) K0)) V2 (Lh 8 2 V1 V0 (Z4 (La (Lm 2 V1) K2) V2 Lf))) rfl h1 (Nat.min_eq_left (bC (fk20 (Z6 (La V0 K1) V1 (Z10 V0 V1 Lf)) rfl hi)))))
        exact diagU_mono (.inr ⟨_,hk,1,by exact (by decide),by show _ = _ + 20;exact rfl⟩) _
      | succ j' =>
        obtain ⟨y,hy,ey⟩ := take_more (l := b) (i := j') (bC (fk20 (Z6 (La V0 K1) V1 (Z11 V0 V1 Lf)) rfl hj))
        rw [ex,ey] at hA
        rcases hA.last with ⟨q,h1,h2⟩ | ⟨q,h1,h2⟩ | ⟨q,h1,h2⟩
        · by_cases hxy:x = y
          · subst hxy
            rw [cst_self] at h2
            exact diag_shut hb hx hy (ih i' j' n q (bC (fk30 (Z6 (La (La V0 K1) (La V1 K1)) (La V2 K1) (Z10 (La V0 V1) V2 Lf)) rfl hs)) (bC (fk20 (Z6 (La V0 K1) V1 (Z10 V0 V1 Lf)) rfl hi)) (bC (fk20 (Z6 (La V0 K1) V1 (Z10 V0 V1 Lf)) rfl hj)) h1 (bC (fk12 (Z0 (La V1 K0) V2 (Z0 V2 (Lm 2 V0) (Z4 V1 (Lm 2 V0) Lf))) rfl h2 hm)))
          · rw [cst_signs (sa x (List.mem_of_getElem? hx)) (sb y (List.mem_of_getElem? hy)) hxy] at h2
            obtain ⟨n',rfl,hk⟩ := lower (bC (fk30 (Z6 (La (La V0 K1) (La V1 K1)) (La V2 K1) (Z10 (La V0 V1) V2 Lf)) rfl hs)) (bC (fk20 (Z6 (La V0 K1) V1 (Z10 V0 V1 Lf)) rfl hi)) (bC (fk20 (Z6 (La V0 K1) V1 (Z10 V0 V1 Lf)) rfl hj)) h1 h2
            exact diagU_mono (.inr ⟨_,hk,2,by exact (by decide),by show _ = _ + 21;exact Nat.le_antisymm (bC (fk20 (Z10 (La (Lm 20 (La V0 K1)) (La V1 K1)) (La (La (Lm 20 V0) V1) (Lk 21)) Lf) rfl)) (bC (fk20 (Z10 (La (La (Lm 20 V0) V1) (Lk 21)) (La (Lm 20 (La V0 K1)) (La V1 K1)) Lf) rfl))⟩) _
        · rw [← ex] at h1
          obtain ⟨n',rfl,hk⟩ := lower (bC (fk30 (Z6 (La (La V0 K1) (La V1 K1)) (La V2 K1) (Z10 (La (La V0 K1) V1) V2 Lf)) rfl hs)) hi (bC (fk20 (Z6 (La V0 K1) V1 (Z10 V0 V1 Lf)) rfl hj)) h1 h2
          exact diagU_mono (.inr ⟨_,hk,0,by exact (by decide),by show _ = _ + 1;exact rfl⟩) _
        · rw [← ey] at h1
          obtain ⟨n',rfl,hk⟩ := lower (bC (fk30 (Z6 (La (La V0 K1) (La V1 K1)) (La V2 K1) (Z10 (La V0 (La V1 K1)) V2 Lf)) rfl hs)) (bC (fk20 (Z6 (La V0 K1) V1 (Z10 V0 V1 Lf)) rfl hi)) hj h1 h2
          exact diagU_mono (.inr ⟨_,hk,1,by exact (by decide),by show _ = _ + 20;exact Nat.le_antisymm (bC (fk20 (Z10 (La (Lm 20 (La V0 K1)) (La V1 K1)) (La (La (Lm 20 V0) (La V1 K1)) (Lk 20)) Lf) rfl)) (bC (fk20 (Z10 (La (La (Lm 20 V0) (La V1 K1)) (Lk 20)) (La (Lm 20 (La V0 K1)) (La V1 K1)) Lf) rfl))⟩) _
theorem hit_dist {n:Nat} (ha:a.length ≤ 5) (hb:b.length ≤ 4) (sa:Signs a) (sb:Signs b) (h:FirstHit a b n):n ≤ 5 ∧ Dist a b (2 * (n:Int)) := by
  obtain ⟨h1,h2⟩ := h
  have hn:n ≤ 5 := Nat.not_lt.mp fun q=>h2 5 q (hit_five ha hb)
  have all:∀ r:Nat,∀ m:Int,Al a b m→m ≤ 2 * (r:Int)→hitS a b r := fun r m hA hm =>
    wave_all hb sa sb _ a.length b.length r m (Nat.le_refl _) (Nat.le_refl _) (Nat.le_refl _) (by rw [List.take_length,List.take_length];exact hA) hm
  have low:∀ m:Int,Al a b m→2 * (n:Int) ≤ m := fun m hA=>by
    obtain ⟨e,he,_⟩ := hA.signs sa sb
    refine Int.not_lt.mp fun q=>?_
    exact h2 e (bC (fk21 (Z1 V2 (Lm 2 V0) (Z3 V2 (Lm 2 V1) (Lh 11 2 V1 V0 Lf))) rfl q he)) (all e m hA (by exact (Int.le_of_eq he)))
  obtain ⟨i,j,e,_,hk⟩ := diag_ok hb (by exact (nUp hn rfl)) (wave_ok hb n (by exact (nUp hn rfl))) _ _ h1
  obtain ⟨rfl,rfl⟩:i = a.length ∧ j = b.length := by lia
  obtain ⟨m,k1,k2⟩ := hk (Nat.le_refl _) (Nat.le_refl _)
  rw [List.take_length,List.take_length] at k2
  have := low m k2
  exact ⟨hn,k2.cast (by exact (Int.le_antisymm k1 this)),low⟩
end
end
section
example:True := by
  w_top off
  k_with_none
  k_with "a" => with_reducible assumption
  k_with "sh" => first | exact sh1 (by k_extra "a") rfl | exact sh2 (by k_extra "a") rfl | exact sh3 (by k_extra "a") rfl | exact sh4 (by k_extra "a") rfl | exact sl1 (by k_extra "a") rfl | exact sl2 (by k_extra "a") rfl | exact sl3 (by k_extra "a") rfl | omega
  k_with "omega" => first | k_extra "a" | decide | exact Int.not_le.mp (by k_extra "a") | exact Int.not_lt.mp (by k_extra "a") | exact nUp (by k_extra "a") rfl | exact iDn (by k_extra "a") rfl | exact iUp (by k_extra "a") rfl | exact iUpLt (by k_extra "a") rfl | exact iDn (Int.add_le_add iLit iCast0) rfl | exact iDn iCast0 rfl | exact nUpLt (Nat.add_le_add (by k_extra "a") (Nat.le_refl _)) rfl | exact Nat.ne_of_lt (Nat.lt_succ_self _) | exact Ne.symm (Nat.ne_of_lt (Nat.lt_succ_self _)) | exact Nat.ne_of_lt (by k_extra "a") | exact Ne.symm (Nat.ne_of_lt (by k_extra "a")) | exact Ne.symm (Int.ne_of_lt (by k_extra "a")) | exact Int.not_le.mpr (iUpLt (iCast (by k_extra "a")) rfl) | lia
  k_with "my news" => first | k_asm | (refine cb_drop (by assumption) (by (intro p9 hp9;kst_mem)))
  k_with "ctr K" => first | exact rfl | assumption
  k_with "ctr D" => ((try simp only [depth_under_make,depth_under_kw,depth_in1,depth_deeper,depth_caller]);(try dsimp only [ktrTop]);k_extra "sh")
  k_with "ctr U" => ((try simp only [units_in1,units_deeper,Around.mark_units,units_caller]);(try dsimp only [ktrTop]);k_extra "sh")
  k_with "nmx" => (with_reducible show wpAny _ _ (eval _ (envX _ _ _ _ _ _)) _ _ _)
  k_with "^eval Name" => (k_here;k_extra "nmx";name_kind "globalImplicit";name_is_builtin;k_dflt (refine nameX_B (by k_asm) (by k_asm) (by k_asm) (by k_is) (by boot_fast) (by decide) ?_ (by rfl) (by kernel_rfl!));k_whole)
  k_with "^eval Name" => (k_here;k_extra "nmx";name_kind "globalImplicit";k_dflt (refine nameX_K (by k_asm) (by k_asm) (by k_asm) (by k_is) ?_ (by rfl) (by kernel_rfl!));k_whole)
  k_with "^eval Name" => (k_here;k_extra "nmx";name_kind "local";k_dflt (refine nmL (by rfl) (by rfl) (by k_asm) (by exact rfl) ?_);k_whole)
  k_with "call type:range" => ((rename Fr _ _ _ _=>f9);(rename News _ _ _ _=>n9);k_dflt (first | refine range1_rows f9 n9 ?_ | refine range2_rows f9 n9 ?_);intro _ _ _ _ _ _ _ _ _)
  k_with "call builtin:len" => ((with_reducible show wpAny _ _ (call (Value.builtin "len") [Value.str _ _]) _ _ _);refine SBL.len (by omega) ?_)
  k_with "ws here" => first | k_extra "a" | exact WsIn.mono (by k_extra "a") (by intro p hp;kst_mem)
  k_with "ctr back" => (intro r9 h9 tk9 hr9 F9 N9;obtain ⟨t9,hr9⟩ := hr9;subst hr9;(try dsimp only);(try k_fold))
  trivial
example:True := by
  k_with "omega" => first | with_reducible assumption | lia
  trivial
noncomputable def sel (T:Nat→Prop) [DecidablePred T] (n:Nat):List Nat := (List.range n).filter fun i=>decide (T i)
theorem sel_succ (T:Nat→Prop) [DecidablePred T] (n:Nat):sel T (n + 1) = sel T n ++ (if T n then [n] else []) := by
  unfold sel
  rw [List.range_succ,List.filter_append]
  by_cases h:T n <;> simp [h]
theorem sel_mem {T:Nat→Prop} [DecidablePred T] {n i:Nat}:i ∈ sel T n ↔ i < n ∧ T i := by
  unfold sel;simp
theorem sel_nil {T:Nat→Prop} [DecidablePred T] {n:Nat}:sel T n = [] ↔ ∀ i,i < n→¬ T i := by
  constructor
  · intro h i hi ht
    have:i ∈ sel T n := sel_mem.mpr ⟨hi,ht⟩
    rw [h] at this;cases this
  · intro h
    refine List.eq_nil_iff_forall_not_mem.mpr fun i hi=>?_
    obtain ⟨h1,h2⟩ := sel_mem.mp hi
    exact h i h1 h2
theorem sel_congr {T T':Nat→Prop} [DecidablePred T] [DecidablePred T']:∀ {n:Nat},(∀ i,i < n→(T i ↔ T' i))→sel T n = sel T' n
  | 0,_=>rfl
  | n + 1,h=>by
    rw [sel_succ,sel_succ,sel_congr fun i hi=>h i (by exact (Nat.lt_succ_of_le (Nat.le_of_lt hi)))]
    have := h n (by exact (Nat.lt_succ_of_le (Nat.le_refl _)))
    by_cases q:T n
    · rw [if_pos q,if_pos (this.mp q)]
    · rw [if_neg q,if_neg fun x=>q (this.mpr x)]
theorem wit_sel {keep:Int→Prop} [DecidablePred keep] {f g:Int→Int} {T:Nat→Prop} [DecidablePred T] {rows:Nat→Dat}:∀ {n:Nat},(∀ i,i < n→rowDat (1 + (i:Int)) (f (1 + (i:Int))) (g (1 + (i:Int))) = rows i)→(∀ i:Nat,i < n→(keep (1 + (i:Int)) ↔ T i)) →
    witUpto keep f g n = (sel T n).map rows
  | 0,_,_=>rfl
  | n + 1,h1,h2=>by
    rw [witUpto,sel_succ,List.map_append,wit_sel (fun i hi=>h1 i (by exact (Nat.lt_succ_of_le (Nat.le_of_lt hi)))) fun i hi=>h2 i (by exact (Nat.lt_succ_of_le (Nat.le_of_lt hi))),h1 n (by exact (Nat.lt_succ_of_le (Nat.le_refl _)))]
    have := h2 n (by exact (Nat.lt_succ_of_le (Nat.le_refl _)))
    by_cases q:T n
    · rw [if_pos q,if_pos (this.mpr q)];rfl
    · rw [if_neg q,if_neg fun x=>q (this.mp x)];rfl
noncomputable abbrev colAt (x:Str) (i:Nat):Int := colOf (1 + (i:Int)) (KStt.codes x)
theorem colAt_is (x:Str) (i:Nat):colAt x i = colF (1 + (i:Int)) 0 (tx x) := colOf_codes _ _
theorem indent_at {x:Str} (h:IsLead x) (i:Nat):indentOf (wsOf (tx x)) (1 + (i:Int)) = colAt x i := by
  rw [indent_col (by exact (iDn (Int.add_le_add iLit iCast0) rfl)) _ h,colAt_is]
theorem wit_rows {U W:Str} (hU:IsLead U) (hW:IsLead W) {M:Nat} (hM:MaxRun (tx U ++ 9 :: tx W) M) {keep:Int→Prop} [DecidablePred keep] {T:Nat→Prop} [DecidablePred T] (hT:∀ i:Nat,keep (1 + (i:Int)) ↔ T i) :
    witUpto keep (indentOf (wsOf (tx U))) (indentOf (wsOf (tx W))) (topOf (wsOf (tx U)) (wsOf (tx W))).toNat = (sel T (1 + M)).map (rowAt U W) := by
  rw [top_is hU hW hM]
  refine wit_sel (fun i _=>?_) fun i _=>hT i
  rw [indent_at hU,indent_at hW]
  rfl
theorem picked_dat {news:List (Addr × Obj)} {vs:List Value} {rows:Nat→Dat} {n:Nat} (hd:DatAll news vs ((List.range n).map rows)) {T:Nat→Prop} [DecidablePred T]:∀ {k:Nat} {ys:List Value},k ≤ n→Picked T (fun i y=>vs[i]? = some y) k ys→DatAll news ys ((sel T k).map rows)
  | 0,ys,_,h=>by
    obtain rfl:ys = [] := h
    exact .nil
  | k + 1,ys,hk,h=>by
    rw [sel_succ,List.map_append]
    rcases h with ⟨h1,h2⟩ | ⟨h1,ys',y,rfl,h2,h3⟩
    · rw [if_neg h1,List.map_nil,List.append_nil]
      exact picked_dat hd (bC (fk20 (Z6 (La V0 K1) V1 (Z10 V0 V1 Lf)) rfl hk)) h2
    · rw [if_pos h1]
      have := hd.get (show k < ((List.range n).map rows).length by simp;exact bC (fk20 (Z6 (La V0 K1) V1 (Z11 V0 V1 Lf)) rfl hk))
      obtain ⟨v',hv',hD⟩ := this
      rw [h3] at hv'
      cases hv'
      rw [List.getElem_map,List.getElem_range] at hD
      exact DatAll.append (picked_dat hd (bC (fk20 (Z6 (La V0 K1) V1 (Z10 V0 V1 Lf)) rfl hk)) h2) (.one hD)
theorem fdiv_neg_iff {a t:Int} (ht:1 ≤ t):Int.fdiv a t + 1 ≤ 0 ↔ a < 0 := by
  rw [Int.fdiv_eq_ediv_of_nonneg _ (by exact (iDn ht rfl))]
  have h := Int.ediv_lt_iff_lt_mul (a := a) (b := 0) (c := t) (by exact (iDnLt ht rfl))
  rw [Int.zero_mul] at h
  lia
theorem need_zero {U W:Str} {k:Int} {M:Nat} (hM:MaxRun (tx U ++ 9 :: tx W) M) (h:NeedIs U W k):k = 0 ↔ ∀ i:Nat,i < 1 + M→colAt U i < colAt W i := by
  obtain ⟨M',hM',h1,h2,h3⟩ := h
  obtain rfl:M' = M := by rw [maxRun_is hM',maxRun_is hM]
  have key:∀ i:Nat,needAt U W i ≤ 0 ↔ colAt U i < colAt W i := fun i=>by
    unfold needAt
    rw [fdiv_neg_iff (by exact (iDn (Int.add_le_add iLit iCast0) rfl))]
    show colAt U i - colAt W i < 0 ↔ _
    lia
  constructor
  · intro e i hi
    exact (key i).mp (by have := h3 i hi;exact (Int.le_trans this (Int.le_of_eq e)))
  · intro q
    rcases h1 with h1 | ⟨i,hi,e⟩
    · exact h1
    · have := (key i).mpr (q i hi)
      exact (Int.le_antisymm (Int.le_trans (Int.le_of_eq e) this) h2)
theorem less_rows {U W:Str} (hU:IsLead U) (hW:IsLead W) {M:Nat} (hM:MaxRun (tx U ++ 9 :: tx W) M):LessP (wsOf (tx U)) (wsOf (tx W)) ↔ ∀ i:Nat,i < 1 + M→colAt U i < colAt W i := by
  rw [less_is hU hW,top_is hU hW hM]
  constructor
  · intro h i hi
    have := h (1 + (i:Int)) (by exact (iDn (Int.add_le_add iLit iCast0) rfl)) (bC (fk20 (Z7 V0 (La K1 V1) (Z4 (La K1 V0) (La K1 V1) Lf)) rfl hi))
    rwa [indent_at hU,indent_at hW] at this
  · intro h t h1 h2
    have := h (t - 1).toNat (bC (fk21 (Z0 V2 (La K1 V0) (Z2 V1 (Ls V2 K1) (Z11 V1 (La K1 V0) Lf))) rfl h2 (tC (bC (fk01 (Z0 K1 V0 (Z4 K0 (Ls V0 K1) Lf)) rfl h1)))))
    rw [← indent_at hU,← indent_at hW,show 1 + (((t - 1).toNat:Nat):Int) = t by exact Int.le_antisymm (bC (fk11 (Z2 V0 (Ls V1 K1) (Z4 (La K1 V0) V1 Lf)) rfl (tC (bC (fk01 (Z0 K1 V0 (Z4 K0 (Ls V0 K1) Lf)) rfl h1))))) (bC (fk11 (Z3 V0 (Ls V1 K1) (Z4 V1 (La K1 V0) Lf)) rfl (tC (bC (fk01 (Z0 K1 V0 (Z4 K0 (Ls V0 K1) Lf)) rfl h1)))))] at this
    exact this
theorem need_less {U W:Str} (hU:IsLead U) (hW:IsLead W) {k:Int} (h:NeedIs U W k):k = 0 ↔ LessP (wsOf (tx U)) (wsOf (tx W)) := by
  obtain ⟨M,hM,_⟩ := id h
  rw [need_zero hM h,less_rows hU hW hM]
theorem le_sum:∀ (l:List Int),(∀ i,0 ≤ l.getD i 0)→∀ c ∈ l,0 ≤ c ∧ c ≤ l.sum
  | [],_,c,h=>by cases h
  | a :: l,hl,c,h=>by
    have h0:0 ≤ a := by simpa using hl 0
    have ih := le_sum l fun i=>by simpa using hl (i + 1)
    have hs:0 ≤ l.sum := by
      cases l with
      | nil=>simp
      | cons b r=>have := ih b (.head _);exact (Int.le_trans this.1 this.2)
    rw [List.sum_cons]
    rcases List.mem_cons.mp h with rfl | h
    · exact ⟨bC (fk01 (Z0 K0 V0 (Z4 K0 V0 Lf)) rfl h0),bC (fk02 (Z0 K0 V0 (Z4 V1 (La V1 V0) Lf)) rfl hs)⟩
    · have := ih c h;exact ⟨bC (fk01 (Z0 K0 V0 (Z4 K0 V0 Lf)) rfl this.1),bC (fk03 (Z0 V0 V1 (Z0 K0 V2 (Z4 V0 (La V2 V1) Lf))) rfl this.2 h0)⟩
theorem ws_ok {l:List Nat} (h:l.length ≤ 20):WsOk (wsOf l) := by
  obtain ⟨h1,h2,h3,h4,h5,h6⟩ := ws_facts l
  have hn := ws_norm l
  refine ⟨h1,by exact (iUp (Int.le_trans h2 (iCast h)) rfl),by exact (Int.le_trans h4 (Int.le_trans h5 (Int.le_of_eq (Eq.symm h3)))),by exact (iUp (Int.le_trans (Int.le_of_eq h3) (iCast h)) rfl),h4,by exact (iUp (Int.le_trans h5 (iCast h)) rfl),by exact (nUp (Nat.le_trans h6 (Nat.add_le_add h nLit)) rfl),fun c hc=>?_⟩
  have := le_sum _ hn.nn c hc
  rw [hn.sum] at this
  exact ⟨this.1,(iUp (Int.le_trans this.2 (Int.le_trans h5 (iCast h))) rfl)⟩
theorem wit_row_ok {keep:Int→Prop} [DecidablePred keep] {f g:Int→Int}:∀ n:Nat,∀ d ∈ witUpto keep f g n,kqdOk 8 d = true
  | 0,d,h=>by cases h
  | n + 1,d,h=>by
    rw [witUpto] at h
    rcases List.mem_append.mp h with h | h
    · exact wit_row_ok n d h
    · split at h
      · rw [List.mem_singleton.mp h];rfl
      · cases h
theorem eq_rows {U W:Str} (hU:IsLead U) (hW:IsLead W) {M:Nat} (hM:MaxRun (tx U ++ 9 :: tx W) M) {vr:List Value} (hv:vr.length = 1 + M) :
    witUpto (fun t=>indentOf (wsOf (tx U)) t ≥ indentOf (wsOf (tx W)) t) (indentOf (wsOf (tx U))) (indentOf (wsOf (tx W))) (topOf (wsOf (tx U)) (wsOf (tx W))).toNat = (sel (fun j=>colAt U j ≥ colAt W j) vr.toArray.size).map (rowAt U W) := by
  rw [List.size_toArray,hv]
  exact wit_rows hU hW hM fun i=>by rw [indent_at hU,indent_at hW]
theorem ne_rows {U W:Str} (hU:IsLead U) (hW:IsLead W) {M:Nat} (hM:MaxRun (tx U ++ 9 :: tx W) M) {vr:List Value} (hv:vr.length = 1 + M) :
    witUpto (fun t=>indentOf (wsOf (tx U)) t ≠ indentOf (wsOf (tx W)) t) (indentOf (wsOf (tx U))) (indentOf (wsOf (tx W))) (topOf (wsOf (tx U)) (wsOf (tx W))).toNat = (sel (fun j=>colAt U j ≠ colAt W j) vr.toArray.size).map (rowAt U W) := by
  rw [List.size_toArray,hv]
  exact wit_rows hU hW hM fun i=>by rw [indent_at hU,indent_at hW]
theorem less_tell {U W:Str} (hU:IsLead U) (hW:IsLead W) {k:Int} (h:NeedIs U W k) {b:Bool} (hb:b = true ↔ LessP (wsOf (tx U)) (wsOf (tx W))) (hn:(b != (k == 0)) = true):False := by
  have e := need_less hU hW h
  rw [← hb] at e
  cases b
  · have:k ≠ 0 := fun q=>absurd (e.mp q) Bool.false_ne_true
    simp [this] at hn
  · have:k = 0 := e.mpr rfl
    simp [this] at hn
end
section
example:True := by
  w_top off
  k_with_none
  k_with "a" => with_reducible assumption
  k_with "sh" => first | exact sh1 (by k_extra "a") rfl | exact sh2 (by k_extra "a") rfl | exact sh3 (by k_extra "a") rfl | exact sh4 (by k_extra "a") rfl | exact sl1 (by k_extra "a") rfl | exact sl2 (by k_extra "a") rfl | exact sl3 (by k_extra "a") rfl | omega
  k_with "omega" => first | k_extra "a" | decide | exact Int.not_le.mp (by k_extra "a") | exact Int.not_lt.mp (by k_extra "a") | exact nUp (by k_extra "a") rfl | exact iDn (by k_extra "a") rfl | exact iUp (by k_extra "a") rfl | exact iUpLt (by k_extra "a") rfl | exact iDn (Int.add_le_add iLit iCast0) rfl | exact iDn iCast0 rfl | exact nUpLt (Nat.add_le_add (by k_extra "a") (Nat.le_refl _)) rfl | exact Nat.ne_of_lt (Nat.lt_succ_self _) | exact Ne.symm (Nat.ne_of_lt (Nat.lt_succ_self _)) | exact Nat.ne_of_lt (by k_extra "a") | exact Ne.symm (Nat.ne_of_lt (by k_extra "a")) | exact Ne.symm (Int.ne_of_lt (by k_extra "a")) | exact Int.not_le.mpr (iUpLt (iCast (by k_extra "a")) rfl) | lia
  k_with "my news" => first | k_asm | (refine cb_drop (by assumption) (by (intro p9 hp9;kst_mem)))
  k_with "ctr K" => first | exact rfl | assumption
  k_with "ctr D" => ((try simp only [depth_under_make,depth_under_kw,depth_in1,depth_deeper,depth_caller]);(try dsimp only [ktrTop]);k_extra "sh")
  k_with "ctr U" => ((try simp only [units_in1,units_deeper,Around.mark_units,units_caller]);(try dsimp only [ktrTop]);k_extra "sh")
  k_with "nmx" => (with_reducible show wpAny _ _ (eval _ (envX _ _ _ _ _ _)) _ _ _)
  k_with "^eval Name" => (k_here;k_extra "nmx";name_kind "globalImplicit";name_is_builtin;k_dflt (refine nameX_B (by k_asm) (by k_asm) (by k_asm) (by k_is) (by boot_fast) (by decide) ?_ (by rfl) (by kernel_rfl!));k_whole)
  k_with "^eval Name" => (k_here;k_extra "nmx";name_kind "globalImplicit";k_dflt (refine nameX_K (by k_asm) (by k_asm) (by k_asm) (by k_is) ?_ (by rfl) (by kernel_rfl!));k_whole)
  k_with "^eval Name" => (k_here;k_extra "nmx";name_kind "local";k_dflt (refine nmL (by rfl) (by rfl) (by k_asm) (by exact rfl) ?_);k_whole)
  k_with "call type:range" => ((rename Fr _ _ _ _=>f9);(rename News _ _ _ _=>n9);k_dflt (first | refine range1_rows f9 n9 ?_ | refine range2_rows f9 n9 ?_);intro _ _ _ _ _ _ _ _ _)
  k_with "call builtin:len" => ((with_reducible show wpAny _ _ (call (Value.builtin "len") [Value.str _ _]) _ _ _);refine SBL.len (by omega) ?_)
  k_with "ws here" => first | k_extra "a" | exact WsIn.mono (by k_extra "a") (by intro p hp;kst_mem)
  k_with "ctr back" => (intro r9 h9 tk9 hr9 F9 N9;obtain ⟨t9,hr9⟩ := hr9;subst hr9;(try dsimp only);(try k_fold))
  trivial
section
variable {prog:Program} {w:World} {A:Around} {h₀:Heap} {L:Addr} {m:Str→Option Value} {env:Env} {ct elt:Expr} {x:Str} {scope:Scope} {cl:List (Str × Addr)} {s:Shared} {S:List (Addr × Obj)→Prop} {P:Nat→Value→Prop} {Fin:List Value→List (Addr × Obj)→Prop} {news:List (Addr × Obj)}
theorem lt_rest {n:Nat} (T:Nat→Prop) (Y:Nat→Value→Prop) (hS:S news)
    (turnT:∀ i v I oI C oC D m₂ ys h tk (E':Value→Shared→Prop),i < n→P i v→LCg.NsObj oC m₂→m₂ x = some v→Fr h₀ L h m→News h₀ L h ((I,oI) :: (C,oC) :: (D,LCg.lst ys) :: news)→LCg.Off3 I C D news→((@Ne Nat I C) ∧ (@Ne Nat I D) ∧ (@Ne Nat C D)) →
      wpAny (model prog w) A (isTrue ct (compEnvC scope cl C env) (eval ct (compEnvC scope cl C env))) (TestE h₀ L m { s with heap := h,toks := tk } ((I,oI) :: (C,oC) :: (D,LCg.lst ys) :: news) (T i)) E' { s with heap := h,toks := tk })
    (turnE:∀ i v I oI C oC D m₂ ys h tk (E':Value→Shared→Prop),i < n→P i v→T i→LCg.NsObj oC m₂→m₂ x = some v→Fr h₀ L h m→News h₀ L h ((I,oI) :: (C,oC) :: (D,LCg.lst ys) :: news)→LCg.Off3 I C D news→((@Ne Nat I C) ∧ (@Ne Nat I D) ∧ (@Ne Nat C D)) →
      wpAny (model prog w) A (eval elt (compEnvC scope cl C env)) (TEnd h₀ L m { s with heap := h,toks := tk } ((I,oI) :: (C,oC) :: (D,LCg.lst ys) :: news) (Y i)) E' { s with heap := h,toks := tk })
    (fin:∀ ys,Picked T Y n ys→Fin ys news):LCt.CompRestT prog w A h₀ L m env ct elt x scope cl s S P Fin n 0 [] news := by
  have key:∀ (j i:Nat) (ys:List Value),i + j = n→Picked T Y i ys→LCt.CompRestT prog w A h₀ L m env ct elt x scope cl s S P Fin j i ys news := by
    intro j
    induction j with
    | zero =>
      intro i ys hi hp
      obtain rfl:i = n := by exact Nat.le_antisymm (bC (fk20 (Z8 (La V0 K0) V1 (Z10 V0 V1 Lf)) rfl hi)) (bC (fk20 (Z9 (La V0 K0) V1 (Z10 V1 V0 Lf)) rfl hi))
      exact LCt.CompRestT.zero (fin ys hp)
    | succ j ih =>
      intro i ys hi hp
      refine LCt.CompRestT.succ ?_
      intro v I oI C oC D m₂ h tk E' hv hC hx F N off ne
      refine wpAny_mono (turnT i v I oI C oC D m₂ ys h tk E' (bC (fk30 (Z8 (La V0 (La V1 K1)) V2 (Z12 V1 (Z11 V0 V2 Lf))) rfl hi trivial)) hv hC hx F N off ne) (fun ok s₂ hq=>?_) fun _ _ e=>e
      obtain ⟨h',tk',rfl,F',N',hok⟩ := hq
      cases ok with
      | false =>
        rw [if_neg Bool.false_ne_true]
        exact ⟨h',tk',news,rfl,F',N',off,hS,ih (i + 1) _ (Nat.le_antisymm (bC (fk30 (Z8 (La V0 (La V1 K1)) V2 (Z10 (La (La V0 K1) V1) V2 Lf)) rfl hi)) (bC (fk30 (Z9 (La V0 (La V1 K1)) V2 (Z10 V2 (La (La V0 K1) V1) Lf)) rfl hi))) (.inl ⟨fun q=>absurd (hok.mpr q) Bool.false_ne_true,hp⟩)⟩
      | true =>
        rw [if_pos rfl]
        have hT := hok.mp rfl
        refine wpAny_mono (turnE i v I oI C oC D m₂ ys h' tk' E' (bC (fk30 (Z8 (La V0 (La V1 K1)) V2 (Z12 V1 (Z11 V0 V2 Lf))) rfl hi trivial)) hv hT hC hx F' N' off ne) (fun y s₃ hq=>?_) fun _ _ e=>e
        obtain ⟨h'',tk'',rfl,F'',N'',hY⟩ := hq
        exact ⟨h'',tk'',news,rfl,F'',N'',off,hS,ih (i + 1) _ (Nat.le_antisymm (bC (fk30 (Z8 (La V0 (La V1 K1)) V2 (Z10 (La (La V0 K1) V1) V2 Lf)) rfl hi)) (bC (fk30 (Z9 (La V0 (La V1 K1)) V2 (Z10 V2 (La (La V0 K1) V1) Lf)) rfl hi))) (.inr ⟨hT,ys,y,rfl,hp,hY⟩)⟩
  exact key n 0 [] (Nat.le_antisymm (bC (fk10 (Z10 (La K0 V0) V0 Lf) rfl)) (bC (fk10 (Z10 V0 (La K0 V0) Lf) rfl))) rfl
end
end
section
example:True := by
  k_with "^subscriptTail Name Constant ref int" => (k_here;k_dflt (refine item_tupleT (News.isTup (by k_asm) (by k_mem)) (by decide) (by decide) (by rfl) (by rfl) ?_);k_whole)
  k_with "^eval Name" => (k_extra "nmx";k_dflt (refine nmL (by kernel_rfl!) (by rfl) (by k_asm) (by first | (with_reducible assumption) | exact rfl | assumption) ?_);k_whole)
  k_with "exec For Name Call cons nil" => (k_here;(with_unfolding_all refine For_invVF (by k_asm) (by exact rfl) (by exact rfl) ?_;k_whole))
  k_with "eval ListComp" => (k_here;k_dflt (refine LCt.ListComp_T (F₀ := by k_asm) (by with_unfolding_all rfl) (by decide) (by rfl) (by decide) (by rfl) ?_))
  trivial
theorem dat_list {news:List (Addr × Obj)} {v:Value} {ds:List Dat} (h:DatIn news v (.list ds)):∃ (l:Addr) (vs:List Value) (n:Nat),v = .ref l ∧ (l,listOf vs.toArray n) ∈ news ∧ DatAll news vs ds := by
  cases h with
  | list hm hd=>exact ⟨_,_,_,rfl,hm,hd⟩
theorem row_ok (t a b:Int):kqdOk 8 (rowDat t a b) = true := rfl
theorem rows_ok {one other:Str} {l:List Nat}:∀ d ∈ l.map (rowAt one other),kqdOk 8 d = true := by
  intro d hd
  obtain ⟨i,_,rfl⟩ := List.mem_map.mp hd
  exact row_ok _ _ _
theorem get_lt {α:Type} {l:List α} {i n:Nat} (h:l.length = n) (hi:i < n):∃ y,l[i]? = some y := ⟨l[i],List.getElem?_eq_getElem (by exact (Nat.lt_of_lt_of_le hi (Nat.le_of_eq (Eq.symm h))))⟩
theorem stage11 {w:World} {mean:ExcName→Option Value} {mg mb:Str→Option Value} {dp un:Nat} {gd:Option (List Code)} {a:Addr} {cd:Value} {A₀:Around} {base h₀:Heap} {L:Addr} {m:Str→Option Value} {s:Shared} {Q:Flow→Shared→Prop} {E:Value→Shared→Prop} {rest:List Stmt} {news:List (Addr × Obj)} {U:Str}
    {W:Nat→Str} {x lp lt ln:Addr} {ps zs ks:List Value} {np nt nn:Nat} (hU:IsLead U) (hU5:(U.length:Int) ≤ 5) (hW:Leads W)
    (hA:WsIn w news (.ref x) (wsOf (tx U))) (hP:∀ (i:Nat) y,ps[i]? = some y→WsIn w news y (wsOf (tx (W i)))) (hZ:∀ (i:Nat) y,zs[i]? = some y→RowsIn U (W i) news y) (hK:∀ (i:Nat) y,ks[i]? = some y→∃ k t,y = .int k t ∧ NeedIs U (W i) k)
    (lpl:ps.length = 4) (ltl:zs.length = 4) (lnl:ks.length = 4)
    (B:Below A₀ base [] h₀) (F:Fr h₀ L s.heap m) (X:(topT.heap_39 w.params).In h₀) (N:News h₀ L s.heap news) (TT:Top topProg LG mean mg mb h₀) (hd:dp ≤ 310) (hu:un ≤ 1000) (hE:PassesOwn (model PG w) (lawA dp un gd L a cd) (lawEnv L a cd) E)
    (mp:(lp,listOf ps.toArray np) ∈ news) (mt:(lt,listOf zs.toArray nt) ∈ news) (mn:(ln,listOf ks.toArray nn) ∈ news) (eA:m "above" = some (.ref x)) (eP:m "page" = some (.ref lp)) (eT:m "tables" = some (.ref lt)) (eN:m "needs" = some (.ref ln))
    (k:∀ (u:Str→Option Value) h' tk,Fr h₀ L h' (fun y=>if y = "k" then u y else m y)→News h₀ L h' news→wpAny (model PG w) (lawA dp un gd L a cd) (execs rest (lawEnv L a cd)) Q E { s with heap := h',toks := tk }) :
    wpAny (model PG w) (lawA dp un gd L a cd) (execs (lawS11 :: rest) (lawEnv L a cd)) Q E s := by
  intros w mean mg mb dp un gd a cd A₀ base h₀ L m s Q E rest news U W x lp lt ln ps zs ks np nt nn _ hU hU5 hW hA hP hZ hK lpl ltl lnl B F X N TT hd hu hE mp mt mn eA eP eT eN k
  revert X;unfold PG;k_fill;intro X
  unfold PG at k hE
  unfold lawS11 pick
  have hA' := hA
  obtain ⟨xx,dA,tpA,tcA,rawA,k1,k2,k3,k4,k5,tr,t2,t3,t4,vsA,hxx,mX,mD,mP,mC,hI⟩ := hA'
  cases hxx
  k_with "pyIter ref" => k_dflt (
    refine my_static (n := 4) (fun _=>True) [] (by rfl) (by assumption) (by decide) (by decide) (by k_asm) (by k_asm) True.intro ?_ ?_
    intro i t u h tk own hi hoff _ F₁ N₁
    have sgW := hW.sg i hi
    have lnW := hW.ln i hi
    obtain ⟨y9,hy9⟩ := get_lt lpl hi
    have hWy := hP i y9 hy9
    obtain ⟨z9,hz9⟩ := get_lt ltl hi
    obtain ⟨M,lr,vr,nr,hzv,hM,hM41,hlr,hvl,hdr⟩ := rows_open (hZ i z9 hz9)
    subst hzv
    obtain ⟨c9,hc9⟩ := get_lt lnl hi
    obtain ⟨n9,tn9,hcv,hN9⟩ := hK i c9 hc9
    subst hcv
    have e0:(0 + (i:Int)).toNat = i := by exact Nat.le_antisymm (bC (fk20 (Z2 V0 (La K0 V1) (Z10 V0 V1 Lf)) rfl (tC (bC (fk10 (Z12 V0 (Z4 K0 (La K0 V0) Lf)) rfl trivial))))) (bC (fk20 (Z3 V0 (La K0 V1) (Z10 V1 V0 Lf)) rfl (tC (bC (fk10 (Z12 V0 (Z4 K0 (La K0 V0) Lf)) rfl trivial)))))
    have hy9':ps[(0 + (i:Int)).toNat]? = some y9 := by rw [e0];exact hy9
    have hz9':zs[(0 + (i:Int)).toNat]? = some (.ref lr) := by rw [e0];exact hz9
    have hc9':ks[(0 + (i:Int)).toNat]? = some (.int n9 tn9) := by rw [e0];exact hc9
    rotate_left
    intro u h tk _ F₁ N₁
    rotate_right)
  k_with "^subscriptTail Name" => k_dflt (refine item_listL (News.isList (by k_asm) (by k_mem)) (by exact (iDn (Int.add_le_add iLit iCast0) rfl)) (by exact (iUpLt (Int.add_le_add iLit (iCast (nLt1 hi))) rfl)) (by with_reducible assumption) ?_ (by with_unfolding_all rfl) (by intro _;with_unfolding_all rfl))
  k_with "call ref" => k_dflt (
    with_reducible show wpAny _ _ (call (Value.ref 114) _) _ _ _
    refine ctrO_use (by k_asm) (by k_asm) (by k_asm) (by k_asm) (by k_asm) (by walk_at "ctr K") (nlw_tells (hA.mono (by intro p hp;kst_mem)) (hWy.mono (by intro p hp;kst_mem)) (ws_ok (by rw [tx_len];exact (nUp (nOfI hU5) rfl))) (ws_ok (by rw [tx_len];exact (nUp lnW rfl)))) (by walk_at "ctr D") (by walk_at "ctr U") ?_
    intro r9 tl9 h9 tk9 hW9 hf9 F9 N9
    obtain ⟨l9,v9,m9,hr9,hl9,hd9⟩ := dat_list hW9
    subst hr9)
  k_with "CompSrcT" => k_dflt (
    refine LCt.CompSrcT.ledger (its := vr.toArray) (k := nr) (by rfl) (by k_asm) (by k_asm) (by show (lr,listOf vr.toArray nr) ∈ _;k_mem) (by rw [List.size_toArray];unfold sizeLine;exact (nUp (Nat.le_trans (Nat.le_of_eq hvl) (Nat.add_le_add nLit hM41)) rfl)) ?_
    intro g'
    refine lt_rest (fun j=>colAt U j ≥ colAt (W i) j) (fun j y=>vr[j]? = some y) (.inr ⟨_,(by show (lr,listOf vr.toArray nr) ∈ _;k_mem),rfl,nr,rfl⟩) ?_ ?_ ?_
    intro j v I oI C oC D m₂ ys h tk E' hj hv hC hx F' N' off ne
    obtain ⟨tt,kt,t1,t2,t3,hv9,hmt⟩ := rows_meet hdr (show vr[j]? = some v by simpa using hv)
    subst hv9
    rotate_left
    intro j v I oI C oC D m₂ ys h tk E' hj hv hT hC hx F' N' off ne
    rotate_left
    intro ys hp9
    rotate_left)
  k_with "compareOp NotEq ref ref" => k_dflt (
    have hds := picked_dat hdr (by rw [List.size_toArray,hvl];exact Nat.le_refl _) hp9
    refine kqd_ne (by k_asm) (by exact List.mem_cons_of_mem _ (List.mem_append_left _ hl9)) rfl rfl hd9 (fun p hp=>List.mem_cons_of_mem _ (List.mem_append_left _ hp)) (List.mem_cons_self) rfl rfl hds (by intro p hp;simp only [List.mem_cons,List.mem_append,hp,or_true,true_or]) (wit_row_ok _) rows_ok (by dsimp only [ktrTop];have := cLine_is;exact (nUpLt (Nat.add_le_add hu nLit) rfl)) ?_
    simp only [eq_rows hU sgW hM hvl,decide_true,Bool.not_true])
  k_with "call ref" => k_dflt (
    with_reducible show wpAny _ _ (call (Value.ref 107) _) _ _ _
    refine ctr_use (by k_asm) (by k_asm) (by k_asm) (by k_asm) (by k_asm) (by walk_at "ctr K") (less_tells (hA.mono (by intro p hp;kst_mem)) (hWy.mono (by intro p hp;kst_mem)) (ws_ok (by rw [tx_len];exact (nUp (nOfI hU5) rfl))) (ws_ok (by rw [tx_len];exact (nUp lnW rfl)))) (by walk_at "ctr D") (by walk_at "ctr U") ?_
    intro r9 h9 tk9 hr9 F9 N9
    obtain ⟨b9,hr9,hb9⟩ := hr9
    subst hr9)
  k_steps
  · exact TestE.intro (by k_asm) (by k_asm) (by rw [decide_eq_true_iff])
  · exact TEnd.intro (by k_asm) (by k_asm) (by simpa using hv)
  · exact (less_tell hU sgW hN9 hb9 (by assumption)).elim
  · exact st_end (by k_asm) (by k_asm) (by intro p hp;kst_mem) (by intro p hp;kst_mem) hoff True.intro (by kst_same)
  · exact k _ _ _ (by k_asm) (by k_asm)
end
section
example:True := by
  w_top off
  k_with_none
  k_with "a" => with_reducible assumption
  k_with "sh" => first | exact sh1 (by k_extra "a") rfl | exact sh2 (by k_extra "a") rfl | exact sh3 (by k_extra "a") rfl | exact sh4 (by k_extra "a") rfl | exact sl1 (by k_extra "a") rfl | exact sl2 (by k_extra "a") rfl | exact sl3 (by k_extra "a") rfl | omega
  k_with "omega" => first | k_extra "a" | decide | exact Int.not_le.mp (by k_extra "a") | exact Int.not_lt.mp (by k_extra "a") | exact nUp (by k_extra "a") rfl | exact iDn (by k_extra "a") rfl | exact iUp (by k_extra "a") rfl | exact iUpLt (by k_extra "a") rfl | exact iDn (Int.add_le_add iLit iCast0) rfl | exact iDn iCast0 rfl | exact nUpLt (Nat.add_le_add (by k_extra "a") (Nat.le_refl _)) rfl | exact Nat.ne_of_lt (Nat.lt_succ_self _) | exact Ne.symm (Nat.ne_of_lt (Nat.lt_succ_self _)) | exact Nat.ne_of_lt (by k_extra "a") | exact Ne.symm (Nat.ne_of_lt (by k_extra "a")) | exact Ne.symm (Int.ne_of_lt (by k_extra "a")) | exact Int.not_le.mpr (iUpLt (iCast (by k_extra "a")) rfl) | lia
  k_with "my news" => first | k_asm | (refine cb_drop (by assumption) (by (intro p9 hp9;kst_mem)))
  k_with "ctr K" => first | exact rfl | assumption
  k_with "ctr D" => ((try simp only [depth_under_make,depth_under_kw,depth_in1,depth_deeper,depth_caller]);(try dsimp only [ktrTop]);k_extra "sh")
  k_with "ctr U" => ((try simp only [units_in1,units_deeper,Around.mark_units,units_caller]);(try dsimp only [ktrTop]);k_extra "sh")
  k_with "nmx" => (with_reducible show wpAny _ _ (eval _ (envX _ _ _ _ _ _)) _ _ _)
  k_with "^eval Name" => (k_here;k_extra "nmx";name_kind "globalImplicit";name_is_builtin;k_dflt (refine nameX_B (by k_asm) (by k_asm) (by k_asm) (by k_is) (by boot_fast) (by decide) ?_ (by rfl) (by kernel_rfl!));k_whole)
  k_with "^eval Name" => (k_here;k_extra "nmx";name_kind "globalImplicit";k_dflt (refine nameX_K (by k_asm) (by k_asm) (by k_asm) (by k_is) ?_ (by rfl) (by kernel_rfl!));k_whole)
  k_with "^eval Name" => (k_here;k_extra "nmx";name_kind "local";k_dflt (refine nmL (by rfl) (by rfl) (by k_asm) (by exact rfl) ?_);k_whole)
  k_with "call type:range" => ((rename Fr _ _ _ _=>f9);(rename News _ _ _ _=>n9);k_dflt (first | refine range1_rows f9 n9 ?_ | refine range2_rows f9 n9 ?_);intro _ _ _ _ _ _ _ _ _)
  k_with "call builtin:len" => ((with_reducible show wpAny _ _ (call (Value.builtin "len") [Value.str _ _]) _ _ _);refine SBL.len (by omega) ?_)
  k_with "ws here" => first | k_extra "a" | exact WsIn.mono (by k_extra "a") (by intro p hp;kst_mem)
  k_with "ctr back" => (intro r9 h9 tk9 hr9 F9 N9;obtain ⟨t9,hr9⟩ := hr9;subst hr9;(try dsimp only);(try k_fold))
  trivial
inductive MoreEnd (h₀:Heap) (L:Addr) (x:Str) (stored:List Str) (m:Str→Option Value) (I:Addr) (oI:Obj) (news:List (Addr × Obj)) (s₁ s₂:Shared):Prop
  | con (h':_) (tk':_) (gs':_) (ps':_) (m':_)
      (q1:s₂ = { s₁ with heap := h',toks := tk',gens := gs' })
      (q2:TriplesOk (Array.toList ps'))
      (q3:BareG gs')
      (q4:(∀ z,z ≠ x→stored.contains z = false→m' z = m z))
      (q5:Fr h₀ L h' m')
      (q6:News h₀ L h' ((123,tabObj ps') :: (I,oI) :: news)):MoreEnd h₀ L x stored m I oI news s₁ s₂
noncomputable def MorePost (h₀:Heap) (L:Addr) (x:Str) (stored:List Str) (m:Str→Option Value) (I:Addr) (oI:Obj) (news:List (Addr × Obj)) (s₁:Shared) (Q:Flow→Shared→Prop) (f:Flow) (s₂:Shared):Prop :=
  match f with
  | .ret v=>Q (.ret v) s₂
  | .brk=>Q .next s₂
  | .next=>MoreEnd h₀ L x stored m I oI news s₁ s₂
  | .cont=>MoreEnd h₀ L x stored m I oI news s₁ s₂
inductive MoreI (h₀:Heap) (L I:Addr) (x:Str) (stored:List Str) (m:Str→Option Value) (s₁:Shared) (n:Nat) (news:List (Addr × Obj)) (k:Nat) (s':Shared):Prop
  | con (h':Heap) (tk:Nat) (gs:Array GenState) (ps':Array Value) (m':Str→Option Value) (i:Nat) (q1:s' = { s₁ with heap := h',toks := tk,gens := gs }) (q2:IsRangeIter h' I (0 + (i:Nat) * 1) ((n:Int) - (i:Nat)) 1) (q3:TriplesOk (Array.toList ps')) (q4:BareG gs) (q5:∀ z,z ≠ x→stored.contains z = false→m' z = m z) (q6:Fr h₀ L h' m') (q7:News h₀ L h' ((123,tabObj ps') :: news)) (q8:i ≤ n) (q9:k = n + 1 - i):MoreI h₀ L I x stored m s₁ n news k s'
section
variable {prog:Program} {w:World} {A:Around} {E:Value→Shared→Prop} {s:Shared} {env:Env}
theorem for_more {h₀:Heap} {x:Str} {px pos:Pos} {iter:Expr} {body:List Stmt} {stored:List Str} {Q:Flow→Shared→Prop} {m:Str→Option Value} {news:List (Addr × Obj)} (hh:A.handled = none) (hx:env.kindOf x = some .local)
    (hp:(env.scope.kind == .class || (env.scope.kind == .module && env.locals != env.globals)) = false)
    (h:wpAny (model prog w) A (eval iter env) (fun xv s₁=>∃ r b t u v n ps,xv = .ref r ∧ IsRange s₁.heap r 0 b 1 t u v ∧ Builtin.Range.small 0 b 1 = true ∧ Builtin.Range.rangeSize 0 b 1 = ((n:Nat):Int) ∧
      Fr h₀ env.locals s₁.heap m ∧ News h₀ env.locals s₁.heap ((123,tabObj ps) :: news) ∧ TriplesOk (Array.toList ps) ∧ BareG s₁.gens ∧
      (∀ (i:Nat) t I oI (m₁:Str→Option Value) ps h tk gs,i < n→TriplesOk (Array.toList ps)→BareG gs→(∀ z,z ≠ x→stored.contains z = false→m₁ z = m z)→(∀ q ∈ (123,tabObj ps) :: news,q.1 ≠ I)→Fr h₀ env.locals h (fun y=>if y = x then some (.int (i:Int) t) else m₁ y)→News h₀ env.locals h ((123,tabObj ps) :: (I,oI) :: news) →
        wpAny (model prog w) A (execs body env) (MorePost h₀ env.locals x stored m I oI news { s₁ with heap := h,toks := tk,gens := gs } Q) E { s₁ with heap := h,toks := tk,gens := gs }) ∧
      (∀ (m₁:Str→Option Value) ps h tk gs,TriplesOk (Array.toList ps)→BareG gs→(∀ z,z ≠ x→stored.contains z = false→m₁ z = m z)→Fr h₀ env.locals h m₁→News h₀ env.locals h ((123,tabObj ps) :: news)→Q .next { s₁ with heap := h,toks := tk,gens := gs })) E s)
    (hs:∀ x,foldedSetIterable iter env x = pure x := by intro _;rfl)
    (hE:PassesOwn (model prog w) A env E := by passes_own) :
    wpAny (model prog w) A (exec (.For (.Name x px) iter body [] pos) env) Q E s := by
  intros prog w A E s env h₀ x px pos iter body stored Q m news _ hh hx hp h hs hE
  refine wpAny_For (wpAny_mono h (fun xv s₁ h₁=>?_) fun _ _ e=>e) hs
  obtain ⟨r,b,t,u,v,n,ps,rfl,hr,hsm,hsz,F,N,hps,hg,turn,done⟩ := h₁
  refine wpAny_pyIter_range hr hsm ?_
  generalize hoI:({ cls := .type "range_iterator",data := .fields #[rawInt 0,rawInt (Builtin.Range.rangeSize 0 b 1),rawInt 1] }:Obj) = oI
  have W:Walks prog w A s₁.heap.objs.size [s₁.heap.objs.size] [s₁.heap.objs.size] n (fun i v=>i < n ∧ ∃ t,v = .int (0 + i * 1) t)
      (fun i h=>IsRangeIter h s₁.heap.objs.size (0 + (i:Nat) * 1) ((n:Int) - (i:Nat)) 1) := (Walks.range hh _ 0 1 n).bound
  have hI₀:h₀.get? s₁.heap.objs.size = none := next_is_new F
  have hLI:env.locals ≠ s₁.heap.objs.size := Nat.ne_of_lt F.ns.lt
  have offN:∀ q ∈ (123,tabObj ps) :: news,q.1 ≠ s₁.heap.objs.size := fun q hq=>Nat.ne_of_lt (Heap.lt_size (N q hq).1)
  have off1:(123:Addr) ≠ s₁.heap.objs.size := offN _ (.head _)
  have offn:∀ q ∈ news,q.1 ≠ s₁.heap.objs.size := fun q hq=>offN q (.tail _ hq)
  have hfr:oI.isFreed = false := by rw [← hoI];rfl
  refine codeAny_forLoop (R := fun r s'=>match r with | .ok f=>Q f s' | .error e=>cameBackBy (model prog w) A env E e s')
    (MoreI h₀ env.locals s₁.heap.objs.size x stored m s₁ n news) ?_ (n + 1)
    ⟨s₁.heap.push oI,s₁.toks,s₁.gens,ps,m,0,rfl,?_,hps,hg,fun _ _ _=>rfl,F.push _,N.grown (fun _ _ e=>Heap.get?_push_of_some _ e),Nat.zero_le _,rfl⟩
  · rintro k s' ⟨h',tk,gs,ps',m',i,rfl,hst',hps',hg',hm',F',N',hi,rfl⟩
    have next:∀ h₁:Heap,(∀ b o,b ∉ [s₁.heap.objs.size]→h'.get? b = some o→h₁.get? b = some o)→Fr h₀ env.locals h₁ m' ∧ News h₀ env.locals h₁ ((123,tabObj ps') :: news) := fun h₁ hk₁ =>
      ⟨LCg.fr_but F' hk₁ hLI hI₀,LCg.news_but N' hk₁ fun p hp=>by
        rcases List.mem_cons.mp hp with rfl | hp
        · exact off1
        · exact offn p hp⟩
    by_cases hlt:i < n
    · refine W.item i _ _ _ hlt hst' fun v h₁ tk₁ hP hst₁ hk₁=>?_
      obtain ⟨_,t₁,rfl⟩ := hP
      obtain ⟨F₁,N₁⟩ := next h₁ hk₁
      refine wpAny_assign_Name (wpAny_storeName_local hx F₁.ns (fun h₂ hn₂ hs₂=>?_) hp)
      have F₂ := F₁.set hn₂ hs₂
      have N₂ := N₁.set hs₂
      have hst₂:IsRangeIter h₂ s₁.heap.objs.size (0 + ((i + 1:Nat):Int) * 1) ((n:Int) - ((i + 1:Nat):Int)) 1 := W.frame _ _ _ hst₁ fun b hb o e=>(hs₂.2 b fun q=>hLI (q.symm.trans (List.mem_singleton.mp hb))).trans e
      obtain ⟨oI₂,heI,hIs⟩:∃ o,h₂.get? s₁.heap.objs.size = some o ∧ ∀ h₃:Heap,h₃.get? s₁.heap.objs.size = some o→IsRangeIter h₃ s₁.heap.objs.size (0 + ((i + 1:Nat):Int) * 1) ((n:Int) - ((i + 1:Nat):Int)) 1 := ⟨_,hst₂,fun h₃ e=>e⟩
      have e1:(0:Int) + (i:Int) * 1 = (i:Int) := by exact Int.le_antisymm (bC (fk10 (Z4 (La K0 (Lr V0 1)) V0 Lf) rfl)) (bC (fk10 (Z4 V0 (La K0 (Lr V0 1)) Lf) rfl))
      rw [e1] at F₂
      refine wpAny_mono (wpAny_passesOwn hE (turn i t₁ s₁.heap.objs.size oI₂ m' ps' h₂ _ gs hlt hps' hg' hm' (fun q hq=>?_) F₂ (fun q hq=>?_))) (fun f s₃ h₃=>?_) fun _ _ e=>e
      · rcases List.mem_cons.mp hq with rfl | hq
        · exact off1
        · exact offn q hq
      · rcases List.mem_cons.mp hq with rfl | hq
        · exact N₂ _ (.head _)
        · rcases List.mem_cons.mp hq with rfl | hq
          · exact ⟨heI,Ne.symm hLI,hI₀⟩
          · exact N₂ _ (.tail _ hq)
      · cases f with
        | ret v=>exact h₃
        | brk=>exact h₃
        | cont =>
          obtain ⟨h₃',tk₃,gs₃,ps₃,m₃,rfl,a1,a2,a3,F₃,N₃⟩ := h₃
          exact ⟨n + 1 - (i + 1),by exact bC (fk40 (Z8 (La V0 (La V1 K1)) (La V2 K1) (Z9 (La V3 V1) (La V2 K1) (Z11 V0 V3 Lf))) rfl (sC (bC (fk20 (Z7 V0 V1 (Z10 (La V0 K1) (La V1 K1) Lf)) rfl (by assumption)))) (sC (bC (fk20 (Z7 V0 V1 (Z10 V0 (La V1 K1) Lf)) rfl (by assumption))))),h₃',tk₃,gs₃,ps₃,m₃,i + 1,rfl,hIs _ (N₃ _ (.tail _ (.head _))).1,a1,a2,a3,F₃,fun q hq=>N₃ q (by rcases List.mem_cons.mp hq with rfl | hq;exact .head _;exact .tail _ (.tail _ hq)),hlt,rfl⟩
        | next =>
          obtain ⟨h₃',tk₃,gs₃,ps₃,m₃,rfl,a1,a2,a3,F₃,N₃⟩ := h₃
          exact ⟨n + 1 - (i + 1),by exact bC (fk40 (Z8 (La V0 (La V1 K1)) (La V2 K1) (Z9 (La V3 V1) (La V2 K1) (Z11 V0 V3 Lf))) rfl (sC (bC (fk20 (Z7 V0 V1 (Z10 (La V0 K1) (La V1 K1) Lf)) rfl (by assumption)))) (sC (bC (fk20 (Z7 V0 V1 (Z10 V0 (La V1 K1) Lf)) rfl (by assumption))))),h₃',tk₃,gs₃,ps₃,m₃,i + 1,rfl,hIs _ (N₃ _ (.tail _ (.head _))).1,a1,a2,a3,F₃,fun q hq=>N₃ q (by rcases List.mem_cons.mp hq with rfl | hq;exact .head _;exact .tail _ (.tail _ hq)),hlt,rfl⟩
    · have hin:i = n := by exact (Nat.le_antisymm hi (Nat.le_of_not_lt hlt))
      subst hin
      refine W.done _ _ _ hst' fun h₁ tk₁ hk₁=>wpAny_execs_nil ?_
      obtain ⟨F₁,N₁⟩ := next h₁ hk₁
      exact done m' ps' h₁ tk₁ gs hps' hg' hm' F₁ N₁
  · show (s₁.heap.push oI).get? s₁.heap.objs.size = some _
    rw [Heap.get?_push_size _ hfr,← hoI,hsz]
    simp
end
end
section
noncomputable def forBody:Stmt→List Stmt
  | .For _ _ b _ _=>b
  | _=>[]
noncomputable def lawMB (n:Nat):List Stmt := (forBody lawS12).drop n
noncomputable abbrev lawM0:Stmt := pick (l := lawMB 0) rfl
noncomputable abbrev lawM1:Stmt := pick (l := lawMB 1) rfl
noncomputable abbrev lawM2:Stmt := pick (l := lawMB 2) rfl
noncomputable abbrev lawM3:Stmt := pick (l := lawMB 3) rfl
noncomputable abbrev lawM4:Stmt := pick (l := lawMB 4) rfl
noncomputable abbrev lawM5:Stmt := pick (l := lawMB 5) rfl
noncomputable abbrev lawM6:Stmt := pick (l := lawMB 6) rfl
noncomputable abbrev lawM7:Stmt := pick (l := lawMB 7) rfl
noncomputable abbrev lawM8:Stmt := pick (l := lawMB 8) rfl
example:True := by
  k_with "^eval Name" => (k_extra "nmx";k_dflt (refine nmL (by kernel_rfl!) (by rfl) (by k_asm) (by first | (with_reducible assumption) | exact rfl | assumption) ?_);k_whole)
  k_with "^eval Name" => (k_extra "nmx";k_dflt (refine nmC (by kernel_rfl!) (by rfl) (by k_asm) (by rfl) (by with_reducible assumption) (by with_reducible assumption) ?_);k_whole)
  trivial
theorem tx_tabs (i:Nat):tx (Txt.mul (Str.ofString "\t") (i:Int)) = List.replicate i 9 := by
  rw [tab_mk]
  have := mul_one_list 9 (i:Int)
  rw [Int.toNat_natCast] at this
  exact this
theorem mstage0 {w:World} {mean:ExcName→Option Value} {mg mb:Str→Option Value} {dp un:Nat} {gd:Option (List Code)} {a:Addr} {cd:Value} {A₀:Around} {base h₀:Heap} {L:Addr} {m:Str→Option Value} {s:Shared} {Q:Flow→Shared→Prop} {E:Value→Shared→Prop} {rest:List Stmt} {news:List (Addr × Obj)} {oT:Obj} {T:Str} {tT:Tok}
    {W:Nat→Str} {t0 t1 t2 t3:Tok} {lw:Addr} {nw:Nat} {i:Nat} {ti:Tok} (hW:Leads W) (hi:i ≤ 6) (hT:TailOk T)
    (B:Below A₀ base [] h₀) (F:Fr h₀ L s.heap m) (X:(topT.heap_39 w.params).In h₀) (N:News h₀ L s.heap news) (TT:Top topProg LG mean mg mb h₀) (hd:dp ≤ 310) (hu:un ≤ 1000)
    (cT:(L + 1 + 1,oT) ∈ news) (dT:oT.data = .cell (some (.str T tT))) (hl:(lw,listOf #[.str (W 0) t0,.str (W 1) t1,.str (W 2) t2,.str (W 3) t3] nw) ∈ news) (hw:m "walk" = some (.ref lw)) (hm:m "more" = some (.int (i:Int) ti))
    (k:∀ ld tld hx ng tl h' tk,tx ld = List.replicate i 9 ++ tx (W 0)→WsIn w tl (.ref hx) (wsOf (tx ld))→Fresh tl news→(∀ q ∈ tl ++ news,q.1 < ng)→Fr h₀ L h' (fun y=>if y = "nags" then some (.ref ng) else if y = "here" then some (.ref hx) else if y = "lead" then some (.str ld tld) else m y)→News h₀ L h' ((ng,listOf #[] 0) :: (tl ++ news))→wpAny (model PG w) (lawA dp un gd L a cd) (execs rest (lawEnv L a cd)) Q E { s with heap := h',toks := tk }) :
    wpAny (model PG w) (lawA dp un gd L a cd) (execs (lawM0 :: lawM1 :: lawM2 :: rest) (lawEnv L a cd)) Q E s := by
  intros w mean mg mb dp un gd a cd A₀ base h₀ L m s Q E rest news oT T tT W t0 t1 t2 t3 lw nw i ti _ hW hi hT B F X N TT hd hu cT dT hl hw hm k
  revert X;unfold PG;k_fill;intro X
  unfold PG at k
  have hWl := hW.ln 0 (by exact (by decide))
  have htx:tx (Txt.mul (Str.ofString "\t") (i:Int) ++ W 0) = List.replicate i 9 ++ tx (W 0) := by rw [tx_app,tx_tabs]
  have hsz0:(Txt.mul (Str.ofString "\t") (i:Int)).length + (W 0).length ≤ sizeLine := by rw [← tx_len,tx_tabs,List.length_replicate];unfold sizeLine;exact (nUp (Nat.add_le_add hi hWl) rfl)
  generalize hLD:Txt.mul (Str.ofString "\t") (i:Int) ++ W 0 = ld at *
  have hldl:(tx ld).length ≤ 13 := by rw [htx,List.length_append,List.length_replicate,tx_len];exact (nUp (Nat.add_le_add hi hWl) rfl)
  have hsz1:ld.length + T.length ≤ sizeLine := by have := hT.2;rw [tx_len] at hldl;unfold sizeLine;exact (nUp (Nat.add_le_add hldl this) rfl)
  have hld:IsLead ld := by
    intro c hc
    rw [htx] at hc
    rcases List.mem_append.mp hc with hc | hc
    · exact .inr (List.eq_of_mem_replicate hc)
    · exact hW.sg 0 (by exact (by decide)) c hc
  have hraw:tx (ld ++ T) = tx ld ++ tx T := tx_app ld T
  generalize hR:ld ++ T = R at *
  k_with "^subscriptTail Name" => k_dflt (refine item_listL (News.isList (by k_asm) (by k_mem)) (by exact (by decide)) (by exact (by decide)) (by rfl) ?_ (by with_unfolding_all rfl) (by intro _;with_unfolding_all rfl))
  k_with "^binaryOp Add str str" => k_dflt (
    refine add_str (fun t8 k8=>?_) hsz0
    rw [hLD])
  k_with "^binaryOp Add str str" => k_dflt (
    refine add_str (fun t8 k8=>?_) hsz1
    rw [hR])
  k_with "call ref" => k_dflt (
    with_reducible show wpAny _ _ (call (Value.ref 117) _) _ _ _
    refine ctrO_use (by k_asm) (by k_asm) (by k_asm) (by k_asm) (by k_asm) (by walk_at "ctr K") (ws_tells hraw hld hT.1 (by exact (nUp hldl rfl))) (by walk_at "ctr D") (by walk_at "ctr U") ?_
    intro r9 tl9 h9 tk9 hW9 hf9 F9 N9
    obtain ⟨x9,hr9⟩ := hW9.ref
    subst hr9)
  k_steps
  exact k _ _ _ _ _ _ _ htx hW9 hf9 (by assumption) (by k_asm) (by k_asm)
end
section
example:True := by
  w_top off
  k_with_none
  k_with "a" => with_reducible assumption
  k_with "sh" => first | exact sh1 (by k_extra "a") rfl | exact sh2 (by k_extra "a") rfl | exact sh3 (by k_extra "a") rfl | exact sh4 (by k_extra "a") rfl | exact sl1 (by k_extra "a") rfl | exact sl2 (by k_extra "a") rfl | exact sl3 (by k_extra "a") rfl | omega
  k_with "omega" => first | k_extra "a" | decide | exact Int.not_le.mp (by k_extra "a") | exact Int.not_lt.mp (by k_extra "a") | exact nUp (by k_extra "a") rfl | exact iDn (by k_extra "a") rfl | exact iUp (by k_extra "a") rfl | exact iUpLt (by k_extra "a") rfl | exact iDn (Int.add_le_add iLit iCast0) rfl | exact iDn iCast0 rfl | exact nUpLt (Nat.add_le_add (by k_extra "a") (Nat.le_refl _)) rfl | exact Nat.ne_of_lt (Nat.lt_succ_self _) | exact Ne.symm (Nat.ne_of_lt (Nat.lt_succ_self _)) | exact Nat.ne_of_lt (by k_extra "a") | exact Ne.symm (Nat.ne_of_lt (by k_extra "a")) | exact Ne.symm (Int.ne_of_lt (by k_extra "a")) | exact Int.not_le.mpr (iUpLt (iCast (by k_extra "a")) rfl) | lia
  k_with "my news" => first | k_asm | (refine cb_drop (by assumption) (by (intro p9 hp9;kst_mem)))
  k_with "ctr K" => first | exact rfl | assumption
  k_with "ctr D" => ((try simp only [depth_under_make,depth_under_kw,depth_in1,depth_deeper,depth_caller]);(try dsimp only [ktrTop]);k_extra "sh")
  k_with "ctr U" => ((try simp only [units_in1,units_deeper,Around.mark_units,units_caller]);(try dsimp only [ktrTop]);k_extra "sh")
  k_with "nmx" => (with_reducible show wpAny _ _ (eval _ (envX _ _ _ _ _ _)) _ _ _)
  k_with "^eval Name" => (k_here;k_extra "nmx";name_kind "globalImplicit";name_is_builtin;k_dflt (refine nameX_B (by k_asm) (by k_asm) (by k_asm) (by k_is) (by boot_fast) (by decide) ?_ (by rfl) (by kernel_rfl!));k_whole)
  k_with "^eval Name" => (k_here;k_extra "nmx";name_kind "globalImplicit";k_dflt (refine nameX_K (by k_asm) (by k_asm) (by k_asm) (by k_is) ?_ (by rfl) (by kernel_rfl!));k_whole)
  k_with "^eval Name" => (k_here;k_extra "nmx";name_kind "local";k_dflt (refine nmL (by rfl) (by rfl) (by k_asm) (by exact rfl) ?_);k_whole)
  k_with "call type:range" => ((rename Fr _ _ _ _=>f9);(rename News _ _ _ _=>n9);k_dflt (first | refine range1_rows f9 n9 ?_ | refine range2_rows f9 n9 ?_);intro _ _ _ _ _ _ _ _ _)
  k_with "call builtin:len" => ((with_reducible show wpAny _ _ (call (Value.builtin "len") [Value.str _ _]) _ _ _);refine SBL.len (by omega) ?_)
  k_with "ws here" => first | k_extra "a" | exact WsIn.mono (by k_extra "a") (by intro p hp;kst_mem)
  k_with "ctr back" => (intro r9 h9 tk9 hr9 F9 N9;obtain ⟨t9,hr9⟩ := hr9;subst hr9;(try dsimp only);(try k_fold))
  trivial
theorem ctrF_use {w:World} {mean:ExcName→Option Value} {mg mb:Str→Option Value} {f:Addr} {lv:Nat} {vs:List Value} {news:List (Addr × Obj)} {R:Value→Prop}
    {dp un:Nat} {gd:Option (List Code)} {cn:Str} {cs:Scope} {a:Addr} {ccd:Value} {cl:List (Str × Addr)} {outer:List Env} {A₀:Around} {base h₀:Heap} {L:Addr} {m:Str→Option Value} {s:Shared} {Q E:Value→Shared→Prop} {ps:Array Value}
    (B:Below A₀ base outer h₀) (F:Fr h₀ L s.heap m) (X:(topT.heap_39 w.params).In h₀) (N:News h₀ L s.heap ((123,tabObj ps) :: news)) (hne:∀ q ∈ news,q.1 ≠ 123) (hps:TriplesOk ps.toList) (HC:CodeHd base 127 123) (hg:BareG s.gens) (T:Top topProg LG mean mg mb h₀) (hk:cs.kind = .function) (C:CtrF w mean mg mb f lv vs news R) (hd:dp + 10 * lv < 600) (hu:un + 100 * lv < 6000)
    (ret:∀ r h' tk' ps' gs',R r→Fr h₀ L h' m→News h₀ L h' ((123,tabObj ps') :: news)→TriplesOk ps'.toList→BareG gs'→Q r { s with heap := h',toks := tk',gens := gs' }) :
    wpAny (model PG w) (ktrTop dp un gd cn cs L a ccd cl outer) (call (.ref f) vs) Q E s := C dp un gd cn cs a ccd cl outer A₀ base h₀ L m s Q E ps B F X N hne hps HC hg T hk hd hu ret
theorem nag_raise {M:Model} {A:Around} {E:Value→Shared→Prop} {s:Shared} {env:Env} {x:Expr} {pos:Pos} {Q:Flow→Shared→Prop} (hh:A.handled = none)
    (h:wpAny M A (eval x env) (fun v s₁=>∃ e dx t mN,v = .ref e ∧ NagCls s₁.heap mN ∧ s₁.heap.get? e = some (nagObj dx (nagFs t)) ∧ E (.ref e) s₁) E s) :
    wpAny M A (exec (.Raise (some x) none pos) env) Q E s := by
  show wpAny M A (do standAt pos;raiseStmt env (some (do let v ← eval x env;standAt pos;pure v)) none) Q E s
  exact wpAny_bind (wpAny_standAt (nag_raiseStmt hh (wpAny_bind (wpAny_mono h (fun v s₁ h₁=>wpAny_bind (wpAny_standAt (wpAny_pure h₁))) fun _ _ x=>x))))
example:True := by
  k_with "^eval Name" => (k_extra "nmx";k_dflt (refine nmL (by kernel_rfl!) (by rfl) (by k_asm) (by first | (with_reducible assumption) | exact rfl | assumption) ?_);k_whole)
  k_with "^eval Name" => (k_extra "nmx";k_dflt (refine nmC (by kernel_rfl!) (by rfl) (by k_asm) (by rfl) (by with_reducible assumption) (by with_reducible assumption) ?_);k_whole)
  trivial
theorem wit_row {keep:Int→Prop} [DecidablePred keep] {f g:Int→Int}:∀ n:Nat,(∀ d ∈ witUpto keep f g n,∃ t a b:Int,d = rowDat t a b ∧ 1 ≤ t ∧ t ≤ (n:Int)) ∧ (witUpto keep f g n).length ≤ n
  | 0=>⟨fun d h=>(by cases h),Nat.le_refl _⟩
  | n + 1=>by
    obtain ⟨h1,h2⟩ := wit_row (keep := keep) (f := f) (g := g) n
    refine ⟨fun d h=>?_,?_⟩
    · rw [witUpto] at h
      rcases List.mem_append.mp h with h | h
      · obtain ⟨t,a,b,e,h3,h4⟩ := h1 d h
        exact ⟨t,a,b,e,h3,by exact (Int.le_trans h4 (iCast (Nat.le_add_right _ _)))⟩
      · split at h
        · exact ⟨_,_,_,List.mem_singleton.mp h,by exact (iDn (Int.add_le_add iLit iCast0) rfl),by exact bC (fk10 (Z4 (La K1 V0) (La V0 K1) Lf) rfl)⟩
        · cases h
    · rw [witUpto,List.length_append]
      split
      · rw [List.length_singleton];exact (Nat.succ_le_of_lt (Nat.lt_succ_of_le h2))
      · rw [List.length_nil];exact bC (fk20 (Z6 V0 V1 (Z10 (La V0 K0) (La V1 K1) Lf)) rfl h2)
theorem top_le {a b:List Nat} (ha:a.length ≤ 20) (hb:b.length ≤ 20):(topOf (wsOf a) (wsOf b)).toNat ≤ 21 := by
  obtain ⟨b0,b1,n0,n1,q0,q1,c1,cb⟩ := ws_ok ha
  obtain ⟨b0',b1',n0',n1',q0',q1',c1',cb'⟩ := ws_ok hb
  have z1:longestOf (wsOf a) ≤ 20 := by unfold longestOf;split <;> (first | exact b1 | exact (iUp (Int.sub_le_sub (iCast c1) iLit) rfl))
  have z2:longestOf (wsOf b) ≤ 20 := by unfold longestOf;split <;> (first | exact b1' | exact (iUp (Int.sub_le_sub (iCast c1') iLit) rfl))
  unfold topOf
  split <;> (first | exact (nUp (iToNat (Int.add_le_add z2 iLit)) rfl) | exact (nUp (iToNat (Int.add_le_add z1 iLit)) rfl))
theorem nag_ne {h₀ h:Heap} {L x dx:Addr} {fs:Array Value} {od:Obj} {mA:Str→Option Value} {news:List (Addr × Obj)} (N:News h₀ L h news) (D:NsObj od mA) (h2:(dx,od) ∈ news) (h1:(x,nagObj dx fs) ∈ news):dx ≠ x := by
  intro e
  have a := (N _ h1).1
  have b := (N _ h2).1
  obtain ⟨es,ep,hd,_⟩ := D
  dsimp only at a b
  rw [e,a] at b
  rw [← Option.some.inj b] at hd
  cases hd
theorem nag_methodK {prog:Program} {w w':World} {A:Around} {E:Value→Shared→Prop} {s:Shared} {h₀:Heap} {L x dx f:Addr} {m:Str→Option Value} {fs:Array Value} {od of:Obj} {mA:Str→Option Value} {news:List (Addr × Obj)} {name:Str} {pl:Sem Bool} {Q:Value × List Value→Shared→Prop}
    (X:(topT.heap_39 w'.params).In h₀) (F:Fr h₀ L s.heap m) (N:News h₀ L s.heap news) (h1:(x,nagObj dx fs) ∈ news) (h2:(dx,od) ∈ news) (D:NsObj od mA) (hf:∀ h mN,NagCls h mN→mN name = some (.ref f)) (hfo:(topT.heap_39 w'.params).lookup f = some of) (hfc:of.cls = .type "function") (hB:typeLookup (.type "Exception") name = pure none) (hsh:mA name = none)
    (hq:Q (.ref f,[.ref x]) s):wpAny (model prog w) A (getMethod (.ref x) name pl) Q E s :=
  let ⟨_,C⟩ := nag_cls_at X F
  nag_method C (hf _ _ C) (F.keep _ _ (X _ _ hfo)) hfc hB (nag_inst N h1 h2 D) hsh hq
theorem nag_fn {w:World}:(∃ of,(topT.heap_39 w.params).lookup 35 = some of ∧ of.cls = .type "function") ∧ (∃ of,(topT.heap_39 w.params).lookup 42 = some of ∧ of.cls = .type "function") ∧ (∃ of,(topT.heap_39 w.params).lookup 49 = some of ∧ of.cls = .type "function") := by
  unfold topT.heap_39
  refine ⟨⟨_,rfl,rfl⟩,⟨_,rfl,rfl⟩,⟨_,rfl,rfl⟩⟩
theorem ctrH_use {w:World} {mean:ExcName→Option Value} {mg mb:Str→Option Value} {hv:Option Value} {f:Addr} {lv:Nat} {vs:List Value} {news:List (Addr × Obj)} {R:Value→Prop}
    {dp un:Nat} {gd:Option (List Code)} {cn:Str} {cs:Scope} {a:Addr} {ccd:Value} {cl:List (Str × Addr)} {outer:List Env} {A₀:Around} {base h₀:Heap} {L:Addr} {m:Str→Option Value} {s:Shared} {Q E:Value→Shared→Prop}
    (B:Below A₀ base outer h₀) (F:Fr h₀ L s.heap m) (X:(topT.heap_39 w.params).In h₀) (N:News h₀ L s.heap news) (T:Top topProg LG mean mg mb h₀) (hk:cs.kind = .function) (C:CtrH w mean mg mb hv f lv vs news R) (hd:dp + 10 * lv < 600) (hu:un + 100 * lv < 6000)
    (ret:∀ r h' tk',R r→Fr h₀ L h' m→News h₀ L h' news→Q r { s with heap := h',toks := tk' }) :
    wpAny (model PG w) (ktrTopH hv dp un gd cn cs L a ccd cl outer) (call (.ref f) vs) Q E s := C dp un gd cn cs a ccd cl outer A₀ base h₀ L m s Q E B F X N T hk hd hu ret
theorem nag_push {prog:Program} {w:World} {A:Around} {E:Value→Shared→Prop} {s:Shared} {h₀:Heap} {L D ng:Addr} {m:Str→Option Value} {oD oT oe od o3:Obj} {T e dx:Addr} {news:List (Addr × Obj)} {Q:Value→Shared→Prop}
    (F:Fr h₀ L s.heap m) (N:News h₀ L s.heap ((D,oD) :: (T,oT) :: (e,oe) :: (dx,od) :: (123,o3) :: (ng,listOf #[] 0) :: news)) (hc:oD.cls = .type "tuple") (hng:∀ q ∈ news,q.1 ≠ ng) (hn4:ng ≠ 123)
    (h:∀ h',Fr h₀ L h' m→News h₀ L h' ((123,o3) :: (ng,listOf [Value.ref D].toArray 1) :: (D,oD) :: news)→Q .none { s with heap := h' }) :
    wpAny (model prog w) A (call (.builtin "list.append") [.ref ng,.ref D]) Q E s := by
  have hD:D ≠ ng := led_ne (p := (D,oD)) (q := (ng,listOf #[] 0)) N (.head _) (.tail _ (.tail _ (.tail _ (.tail _ (.tail _ (.head _)))))) (by rw [hc];exact fun e=>absurd (Value.type.inj e) (by decide))
  have N2:News h₀ L s.heap ((ng,listOf #[] 0) :: (123,o3) :: (D,oD) :: news) := cb_drop N (fun p hp=>by
    simp only [List.mem_cons] at hp ⊢
    rcases hp with q | q | q | q <;> simp [q])
  refine append_head F N2 (fun p hp=>?_) fun h' F' N'=>h h' F' fun p hp=>N' p ?_
  · rcases List.mem_cons.mp hp with rfl | hp
    · exact Ne.symm hn4
    · rcases List.mem_cons.mp hp with rfl | hp
      · exact hD
      · exact hng p hp
  · rcases List.mem_cons.mp hp with rfl | hp
    · exact .tail _ (.head _)
    · rcases List.mem_cons.mp hp with rfl | hp
      · exact .head _
      · exact .tail _ (.tail _ hp)
theorem nameGoX {M:Model} {A:Around} {E:Value→Shared→Prop} {s:Shared} {h₀:Heap} {L a:Addr} {m:Str→Option Value} {cn:Str} {cs:Scope} {ccd:Value} {cl:List (Str × Addr)} {news:List (Addr × Obj)} {n:Str} {pos:Pos} {Q:Unit→Shared→Prop} (F:Fr h₀ L s.heap m) (N:News h₀ L s.heap news)
    (hk:cs.kind = .function) (hl:(envX cn cs L a ccd cl).kindOf n = some .local)
    (h:∀ h' v,Fr h₀ L h' (fun x=>if x = n then v else m x)→News h₀ L h' news→Q () { s with heap := h',toks := s.toks + 1 }) :
    wpAny M A (do bindName (envX cn cs L a ccd cl) n .none;unbindBehindTheSuite (envX cn cs L a ccd cl) n pos) Q E s :=
  wpAny_nameGoes_keeps hl F.ns (by show (cs.kind == .class || (cs.kind == .module && L != mainGlobals)) = false;rw [hk];rfl) fun h' v hn hs=>h h' v (F.set hn hs) (N.set hs)
theorem wit_empty {U ld:Str} (hU:IsLead U) (hl:IsLead ld):witUpto (fun t=>indentOf (wsOf (tx U)) t ≥ indentOf (wsOf (tx ld)) t) (indentOf (wsOf (tx U))) (indentOf (wsOf (tx ld))) (topOf (wsOf (tx U)) (wsOf (tx ld))).toNat = [] ↔ LessP (wsOf (tx U)) (wsOf (tx ld)) := by
  rw [less_is hU hl,wit_sel (T := fun i=>indentOf (wsOf (tx U)) (1 + (i:Int)) ≥ indentOf (wsOf (tx ld)) (1 + (i:Int))) (rows := fun i=>rowDat (1 + (i:Int)) (indentOf (wsOf (tx U)) (1 + (i:Int))) (indentOf (wsOf (tx ld)) (1 + (i:Int)))) (fun i _=>rfl) (fun i _=>Iff.rfl),List.map_eq_nil_iff,sel_nil]
  have h1 := (top_facts (tx U) (tx ld)).1
  generalize topOf (wsOf (tx U)) (wsOf (tx ld)) = T at *
  constructor
  · intro h t h2 h3
    have := h (t - 1).toNat (bC (fk22 (Z0 V2 V3 (Z2 V0 (Ls V2 K1) (Z3 V1 V3 (Z11 V0 V1 Lf)))) rfl h3 (tC (bC (fk01 (Z0 K1 V0 (Z4 K0 (Ls V0 K1) Lf)) rfl h2))) (tC (bC (fk01 (Z0 K1 V0 (Z4 K0 V0 Lf)) rfl h1)))))
    rw [show 1 + (((t - 1).toNat:Nat):Int) = t by exact Int.le_antisymm (bC (fk11 (Z2 V0 (Ls V1 K1) (Z4 (La K1 V0) V1 Lf)) rfl (tC (bC (fk01 (Z0 K1 V0 (Z4 K0 (Ls V0 K1) Lf)) rfl h2))))) (bC (fk11 (Z3 V0 (Ls V1 K1) (Z4 V1 (La K1 V0) Lf)) rfl (tC (bC (fk01 (Z0 K1 V0 (Z4 K0 (Ls V0 K1) Lf)) rfl h2)))))] at this
    exact (Int.not_le.mp this)
  · intro h i hi
    have := h (1 + (i:Int)) (by exact (iDn (Int.add_le_add iLit iCast0) rfl)) (bC (fk21 (Z7 V0 V1 (Z2 V1 V2 (Z4 (La K1 V0) V2 Lf))) rfl hi (tC (bC (fk01 (Z0 K1 V0 (Z4 K0 V0 Lf)) rfl h1)))))
    exact (Int.not_le.mpr this)
noncomputable def nagDat (ld T:Str) (i:Nat) (rows:List Dat):List Dat := if rows = [] then [] else [.tuple [.int (i:Int),.str ("indent not greater e.g. " ++ fmtText rows),.str (ld ++ T)]]
theorem nag_none {U ld T:Str} {i:Nat} (hU:IsLead U) (hl:IsLead ld) (h:LessP (wsOf (tx U)) (wsOf (tx ld))):DatAll [] [] (nagDat ld T i (witUpto (fun t=>indentOf (wsOf (tx U)) t ≥ indentOf (wsOf (tx ld)) t) (indentOf (wsOf (tx U))) (indentOf (wsOf (tx ld))) (topOf (wsOf (tx U)) (wsOf (tx ld))).toNat)) := by
  rw [(wit_empty hU hl).mpr h]
  exact .nil
theorem nag_one {U ld T ft ln:Str} {i:Nat} {D:Addr} {t1 t2 t3:Tok} (hU:IsLead U) (hl:IsLead ld) (h:¬ LessP (wsOf (tx U)) (wsOf (tx ld)))
    (hFT:fmtText (witUpto (fun t=>indentOf (wsOf (tx U)) t ≥ indentOf (wsOf (tx ld)) t) (indentOf (wsOf (tx U))) (indentOf (wsOf (tx ld))) (topOf (wsOf (tx U)) (wsOf (tx ld))).toNat) = ft) (hLN:ld ++ T = ln) :
    DatAll [(D,({ cls := .type "tuple",data := .seq #[.int (i:Int) t1,.str ("indent not greater e.g. " ++ ft) t2,.str ln t3] }:Obj))] [.ref D] (nagDat ld T i (witUpto (fun t=>indentOf (wsOf (tx U)) t ≥ indentOf (wsOf (tx ld)) t) (indentOf (wsOf (tx U))) (indentOf (wsOf (tx ld))) (topOf (wsOf (tx U)) (wsOf (tx ld))).toNat)) := by
  unfold nagDat
  rw [if_neg (fun e=>h ((wit_empty hU hl).mp e)),hFT,hLN]
  exact .one (.tuple (vs := [_,_,_]) (n := 0) (.head _) (.cons (.int _ _) (.cons (.str _ _) (.cons (.str _ _) .nil))))
theorem fr_eq {h₀ h:Heap} {L:Addr} {f g:Str→Option Value} (F:Fr h₀ L h f) (e:∀ y,f y = g y):Fr h₀ L h g := funext e ▸ F
theorem upd_nag {m:Str→Option Value} {a b c:Option Value} (y:Str):(if y = "nag" then a else if y = "nag" then b else if y = "words" then c else m y) = (if y = "nag" then (if y = "nag" then a else c) else if y = "words" then (if y = "nag" then a else c) else m y) := by
  by_cases q1:y = "nag"
  · simp only [if_pos q1]
  · simp only [if_neg q1]
theorem mstage3 {w:World} {mean:ExcName→Option Value} {mg mb:Str→Option Value} {dp un:Nat} {gd:Option (List Code)} {a:Addr} {cd:Value} {A₀:Around} {base h₀:Heap} {L:Addr} {m:Str→Option Value} {s:Shared} {Q:Flow→Shared→Prop} {E:Value→Shared→Prop} {rest:List Stmt} {news:List (Addr × Obj)} {oT:Obj} {T:Str} {tT:Tok}
    {U ld:Str} {x hx ng:Addr} {i:Nat} {ti tld:Tok} {ps:Array Value} (hi:i ≤ 6) (hT:TailOk T) (hU:IsLead U) (hU5:(U.length:Int) ≤ 5) (hld:IsLead ld) (hld13:ld.length ≤ 13)
    (hA:WsIn w news (.ref x) (wsOf (tx U))) (hH:WsIn w news (.ref hx) (wsOf (tx ld)))
    (B:Below A₀ base [] h₀) (F:Fr h₀ L s.heap m) (X:(topT.heap_39 w.params).In h₀) (N:News h₀ L s.heap ((123,tabObj ps) :: (ng,listOf #[] 0) :: news)) (hng:∀ q ∈ news,q.1 ≠ ng) (hn3:∀ q ∈ news,q.1 ≠ 123) (hn4:ng ≠ 123) (TT:Top topProg LG mean mg mb h₀) (hd:dp ≤ 310) (hu:un ≤ 1000)
    (HC:CodeHd base 127 123) (hps:TriplesOk ps.toList) (hg:BareG s.gens)
    (cT:(L + 1 + 1,oT) ∈ news) (dT:oT.data = .cell (some (.str T tT))) (eA:m "above" = some (.ref x)) (eH:m "here" = some (.ref hx)) (eN:m "nags" = some (.ref ng)) (eM:m "more" = some (.int (i:Int) ti)) (eL:m "lead" = some (.str ld tld))
    (k:∀ (vs:List Value) nn tl (u:Str→Option Value) h' tk' (ps':Array Value) gs',TriplesOk ps'.toList→BareG gs'→DatAll tl vs (nagDat ld T i (witUpto (fun t=>indentOf (wsOf (tx U)) t ≥ indentOf (wsOf (tx ld)) t) (indentOf (wsOf (tx U))) (indentOf (wsOf (tx ld))) (topOf (wsOf (tx U)) (wsOf (tx ld))).toNat)) →
      Fr h₀ L h' (fun y=>if y = "nag" then u y else if y = "words" then u y else m y)→News h₀ L h' ((123,tabObj ps') :: (ng,listOf vs.toArray nn) :: (tl ++ news))→wpAny (model PG w) (lawA dp un gd L a cd) (execs rest (lawEnv L a cd)) Q E { s with heap := h',toks := tk',gens := gs' }) :
    wpAny (model PG w) (lawA dp un gd L a cd) (execs (lawM3 :: rest) (lawEnv L a cd)) Q E s := by
  intros w mean mg mb dp un gd a cd A₀ base h₀ L m s Q E rest news oT T tT U ld x hx ng i ti tld ps _ hi hT hU hU5 hld hld13 hA hH B F X N hng hn3 hn4 TT hd hu HC hps hg cT dT eA eH eN eM eL k
  revert X;unfold PG;k_fill;intro X
  unfold PG at k
  have hA' := hA
  obtain ⟨xx,dA,tpA,tcA,rawA,k1,k2,k3,k4,k5,tr,t2,t3,t4,vsA,hxx,mX,mD,mP,mC,hI⟩ := hA'
  cases hxx
  unfold lawM3 pick
  k_with "exec Try" => k_dflt (refine wpAny_Try_except ?_)
  k_with "exec Raise some none" => k_dflt (refine nag_raise (by rfl) ?_)
  k_with "call ref" => k_dflt (
    with_reducible show wpAny _ _ (call (Value.ref 107) _) _ _ _
    refine ctr_use (by k_asm) (by k_asm) (by k_asm) (by k_asm) (by k_asm) (by walk_at "ctr K") (less_tells (hA.mono (by intro p hp;kst_mem)) (hH.mono (by intro p hp;kst_mem)) (ws_ok (by rw [tx_len];exact (nUp (nOfI hU5) rfl))) (ws_ok (by rw [tx_len];exact (nUp hld13 rfl)))) (by walk_at "ctr D") (by walk_at "ctr U") ?_
    intro r9 h9 tk9 hr9 F9 N9
    obtain ⟨b9,hr9,hb9⟩ := hr9
    subst hr9)
  k_with "call ref" => k_dflt (
    with_reducible show wpAny _ _ (call (Value.ref 114) _) _ _ _
    refine ctrO_use (by k_asm) (by k_asm) (by k_asm) (by k_asm) (by k_asm) (by walk_at "ctr K") (nlw_tells (hA.mono (by intro p hp;kst_mem)) (hH.mono (by intro p hp;kst_mem)) (ws_ok (by rw [tx_len];exact (nUp (nOfI hU5) rfl))) (ws_ok (by rw [tx_len];exact (nUp hld13 rfl)))) (by walk_at "ctr D") (by walk_at "ctr U") ?_
    intro r9 tl9 h9 tk9 hW9 hf9 F9 N9
    obtain ⟨l9,v9,m9,hr9,hl9,hd9⟩ := dat_list hW9
    subst hr9)
  k_with "call ref" => k_dflt (
    with_reducible show wpAny _ _ (call (Value.ref 128) _) _ _ _
    have hn5:∀ q ∈ tl9 ++ (ng,listOf #[] 0) :: news,q.1 ≠ 123 := fun q hq=>by
      rcases List.mem_append.mp hq with hq | hq
      · exact Ne.symm (hf9 q hq _ (.head _))
      · rcases List.mem_cons.mp hq with rfl | hq
        · exact hn4
        · exact hn3 q hq
    obtain ⟨hw1,hw2⟩ := wit_row (keep := fun t=>indentOf (wsOf (tx U)) t ≥ indentOf (wsOf (tx ld)) t) (f := indentOf (wsOf (tx U))) (g := indentOf (wsOf (tx ld))) (topOf (wsOf (tx U)) (wsOf (tx ld))).toNat
    have htop := top_le (a := tx U) (b := tx ld) (by rw [tx_len];exact (nUp (nOfI hU5) rfl)) (by rw [tx_len];exact (nUp hld13 rfl))
    have N5:News h₀ L h9 ((123,tabObj ps) :: (tl9 ++ (ng,listOf #[] 0) :: news)) := cb_drop N9 (fun p hp=>by
      simp only [List.mem_cons,List.mem_append] at hp ⊢
      rcases hp with q | q | q | q <;> simp [q])
    refine ctrF_use (by k_asm) (by k_asm) (by k_asm) N5 hn5 hps HC hg (by k_asm) (by walk_at "ctr K") (fmt_tells (List.mem_append_left _ hl9) (hd9.mono fun p hp=>List.mem_append_left _ hp) (fun r hr=>(by obtain ⟨t,a,b,e,h1,h2⟩ := hw1 r hr;exact ⟨t,a,b,e,h1,by exact (iUp (Int.le_trans h2 (iCast htop)) rfl)⟩)) (by exact (nUp (Nat.le_trans hw2 htop) rfl))) (by walk_at "ctr D") (by walk_at "ctr U") ?_
    intro r6 h6 tk6 ps6 gs6 hr6 F6 N6 hps6 hg6
    obtain ⟨t6,hr6,hl6⟩ := hr6
    subst hr6
    generalize hFT:fmtText (witUpto (fun t=>indentOf (wsOf (tx U)) t ≥ indentOf (wsOf (tx ld)) t) (indentOf (wsOf (tx U))) (indentOf (wsOf (tx ld))) (topOf (wsOf (tx U)) (wsOf (tx ld))).toNat) = ft at hl6 ⊢
    have hfs:(Str.ofString "indent not greater e.g. ").length + ft.length ≤ sizeLine := by
      have:(Str.ofString "indent not greater e.g. ").length = 24 := by decide +kernel
      rw [this];unfold sizeLine;exact (nUp (Nat.add_le_add nLit hl6) rfl)
    generalize hMS:(Str.ofString "indent not greater e.g. ") ++ ft = ms
    have hls:ld.length + T.length ≤ sizeLine := by have := hT.2;unfold sizeLine;exact (nUp (Nat.add_le_add hld13 this) rfl)
    generalize hLN:ld ++ T = ln)
  k_with "^binaryOp Add str str" => k_dflt (
    refine add_str (fun t8 k8=>?_) hfs
    rw [hMS])
  k_with "^binaryOp Add str str" => k_dflt (
    refine add_str (fun t8 k8=>?_) hls
    rw [hLN])
  k_with "call ref" => k_dflt (
    with_reducible show wpAny _ _ (call (Value.ref 52) _) _ _ _
    refine ctrO_use (by k_asm) (by k_asm) (by k_asm) (by k_asm) (by k_asm) (by walk_at "ctr K") nag_tells (by walk_at "ctr D") (by walk_at "ctr U") ?_
    intro r7 tl7 h7 tk7 hN7 hf7 F7 N7
    obtain ⟨e7,dx7,t7,od7,hr7,htl7,D7⟩ := hN7
    subst hr7
    subst htl7)
  k_with "Exists" => k_dflt (
    obtain ⟨mN7,C7⟩ := nag_cls_at X F7
    refine ⟨e7,dx7,t7,mN7,rfl,C7,(N7 _ (.tail _ (.head _))).1,?_⟩)
  k_with "noteFrame ref" => k_dflt (
    have hne7:dx7 ≠ e7 := nag_ne N7 D7 (.head _) (.tail _ (.head _))
    have hoff7:∀ q ∈ (dx7,od7) :: (123,tabObj ps6) :: (ng,listOf #[] 0) :: news,q.1 ≠ e7 := fun q hq=>by
      rcases List.mem_cons.mp hq with rfl | hq
      · exact hne7
      · refine hf7 _ (.tail _ (.head _)) q ?_
        rcases List.mem_cons.mp hq with rfl | hq
        · exact .head _
        · exact .tail _ (List.mem_append_right _ hq)
    have N7':News h₀ L h7 ((e7,nagObj dx7 (nagFs t7)) :: (dx7,od7) :: (123,tabObj ps6) :: (ng,listOf #[] 0) :: news) := cb_drop N7 (fun p hp=>by
      simp only [List.cons_append,List.nil_append,List.mem_cons,List.mem_append] at hp ⊢
      rcases hp with q | q | q | q | q <;> simp [q])
    refine nag_note (by show ScopeKind.function ≠ ScopeKind.module;decide) (by rfl) (by rfl) F7 N7' hoff7 ?_
    intro h8 T8 ts8 hs8 hne8 F8 N8)
  k_with "setFlight ref" => k_dflt (
    refine nag_unset hs8 hne8 F8 N8 ?_
    intro hA8 tsA8 hsA8 FA8 NA8)
  k_with "handleBy ref" => k_dflt (
    refine nag_handleBy ?_
    show wpAny _ (ktrTopH (some (.ref e7)) dp un gd "law" lawSc L a cd (lawCl L) []) _ _ _ _)
  k_with "And" => k_dflt (
    refine ⟨rfl,(nag_cls_at X FA8),⟨_,(NA8 _ (.tail _ (.head _))).1,rfl⟩,?_⟩
    show wpAny _ (ktrTopH (some (.ref e7)) dp un gd "law" lawSc L a cd (lawCl L) []) _ _ _ _)
  k_with "setFlight ref" => k_dflt (
    refine nag_unset hsA8 hne8 FA8 NA8 ?_
    intro hB8 tsB8 hsB8 FB8 NB8)
  k_with "^callWith ref" => (k_here;k_dflt (first
    | ((with_reducible show wpAny _ _ (callWith _ (Value.ref _) _ (backTo _ (starEach (_ :: _) _)) []) _ _ _);first | (refine callWith_K (by k_asm) (by k_is) ?_;k_whole) | (refine callWith_M (by k_asm) (by k_asm) (by k_mem) (by k_is) ?_;k_whole))
    | ((with_reducible show wpAny _ _ (callWith _ (Value.ref _) _ (backTo _ (starEach [] _)) []) _ _ _);first | (refine callWith_K0 (by k_in) (by k_is) ?_;k_whole) | (refine callWith_M0 (by k_meth) (by k_is) ?_;k_whole;try dsimp only [List.nil_append,List.cons_append]))))
  k_with "getMethod ref" => k_dflt (
    with_reducible show wpAny _ _ (getMethod (Value.ref e7) "get_lineno" _) _ _ _
    obtain ⟨of7,ho7,hc7⟩ := (nag_fn (w := w)).1
    refine nag_methodK X (by k_asm) (by k_asm) (by k_mem) (by k_mem) D7 (fun h mN c=>c.lineno) ho7 hc7 lk_exc_gl rfl ?_)
  k_with "call ref" => k_dflt (
    with_reducible show wpAny _ _ (call (Value.ref 35) _) _ _ _
    refine ctrH_use (hv := some (.ref e7)) (by k_asm) (by k_asm) (by k_asm) (by k_asm) (by k_asm) (by walk_at "ctr K") (nag_g1 (by k_mem) (by k_mem) D7) (by walk_at "ctr D") (by walk_at "ctr U") ?_
    intro rg9 hg9 tkg9 hrg9 Fg9 Ng9
    subst hrg9)
  k_with "getMethod ref" => k_dflt (
    with_reducible show wpAny _ _ (getMethod (Value.ref e7) "get_msg" _) _ _ _
    obtain ⟨of7,ho7,hc7⟩ := (nag_fn (w := w)).2.1
    refine nag_methodK X (by k_asm) (by k_asm) (by k_mem) (by k_mem) D7 (fun h mN c=>c.msg) ho7 hc7 lk_exc_gm rfl ?_)
  k_with "call ref" => k_dflt (
    with_reducible show wpAny _ _ (call (Value.ref 42) _) _ _ _
    refine ctrH_use (hv := some (.ref e7)) (by k_asm) (by k_asm) (by k_asm) (by k_asm) (by k_asm) (by walk_at "ctr K") (nag_g2 (by k_mem) (by k_mem) D7) (by walk_at "ctr D") (by walk_at "ctr U") ?_
    intro rg9 hg9 tkg9 hrg9 Fg9 Ng9
    subst hrg9)
  k_with "getMethod ref" => k_dflt (
    with_reducible show wpAny _ _ (getMethod (Value.ref e7) "get_line" _) _ _ _
    obtain ⟨of7,ho7,hc7⟩ := (nag_fn (w := w)).2.2
    refine nag_methodK X (by k_asm) (by k_asm) (by k_mem) (by k_mem) D7 (fun h mN c=>c.line) ho7 hc7 lk_exc_gn rfl ?_)
  k_with "call ref" => k_dflt (
    with_reducible show wpAny _ _ (call (Value.ref 49) _) _ _ _
    refine ctrH_use (hv := some (.ref e7)) (by k_asm) (by k_asm) (by k_asm) (by k_asm) (by k_asm) (by walk_at "ctr K") (nag_g3 (by k_mem) (by k_mem) D7) (by walk_at "ctr D") (by walk_at "ctr U") ?_
    intro rg9 hg9 tkg9 hrg9 Fg9 Ng9
    subst hrg9)
  k_with "call builtin:list.append" => k_dflt (
    refine nag_push (by k_asm) (by k_asm) (by rfl) hng hn4 ?_
    intro hz9 Fz9 Nz9)
  k_with "bind" => k_dflt (
    refine nameGoX (by k_asm) (by k_asm) (by rfl) (by rfl) ?_
    intro hy9 vy9 Fy9 Ny9)
  k_steps
  · exact k [] 0 [] m _ _ _ _ hps hg (nag_none hU hld (hb9.mp (by assumption))) (fr_eq (by k_asm) (by intro y;simp)) (by k_asm)
  · subst hMS
    exact k [.ref _] 1 [(_,_)] (fun y=>if y = "nag" then vy9 else some (.str ft t6)) _ _ _ _ hps6 hg6 (nag_one hU hld (fun q=>absurd (hb9.mpr q) (by rename b9 = false=>e9;rw [e9];decide)) hFT hLN) (fr_eq Fy9 upd_nag) Ny9
end
section
example:True := by
  w_top off
  k_with_none
  k_with "a" => with_reducible assumption
  k_with "sh" => first | exact sh1 (by k_extra "a") rfl | exact sh2 (by k_extra "a") rfl | exact sh3 (by k_extra "a") rfl | exact sh4 (by k_extra "a") rfl | exact sl1 (by k_extra "a") rfl | exact sl2 (by k_extra "a") rfl | exact sl3 (by k_extra "a") rfl | omega
  k_with "omega" => first | k_extra "a" | decide | exact Int.not_le.mp (by k_extra "a") | exact Int.not_lt.mp (by k_extra "a") | exact nUp (by k_extra "a") rfl | exact iDn (by k_extra "a") rfl | exact iUp (by k_extra "a") rfl | exact iUpLt (by k_extra "a") rfl | exact iDn (Int.add_le_add iLit iCast0) rfl | exact iDn iCast0 rfl | exact nUpLt (Nat.add_le_add (by k_extra "a") (Nat.le_refl _)) rfl | exact Nat.ne_of_lt (Nat.lt_succ_self _) | exact Ne.symm (Nat.ne_of_lt (Nat.lt_succ_self _)) | exact Nat.ne_of_lt (by k_extra "a") | exact Ne.symm (Nat.ne_of_lt (by k_extra "a")) | exact Ne.symm (Int.ne_of_lt (by k_extra "a")) | exact Int.not_le.mpr (iUpLt (iCast (by k_extra "a")) rfl) | lia
  k_with "my news" => first | k_asm | (refine cb_drop (by assumption) (by (intro p9 hp9;kst_mem)))
  k_with "ctr K" => first | exact rfl | assumption
  k_with "ctr D" => ((try simp only [depth_under_make,depth_under_kw,depth_in1,depth_deeper,depth_caller]);(try dsimp only [ktrTop]);k_extra "sh")
  k_with "ctr U" => ((try simp only [units_in1,units_deeper,Around.mark_units,units_caller]);(try dsimp only [ktrTop]);k_extra "sh")
  k_with "nmx" => (with_reducible show wpAny _ _ (eval _ (envX _ _ _ _ _ _)) _ _ _)
  k_with "^eval Name" => (k_here;k_extra "nmx";name_kind "globalImplicit";name_is_builtin;k_dflt (refine nameX_B (by k_asm) (by k_asm) (by k_asm) (by k_is) (by boot_fast) (by decide) ?_ (by rfl) (by kernel_rfl!));k_whole)
  k_with "^eval Name" => (k_here;k_extra "nmx";name_kind "globalImplicit";k_dflt (refine nameX_K (by k_asm) (by k_asm) (by k_asm) (by k_is) ?_ (by rfl) (by kernel_rfl!));k_whole)
  k_with "^eval Name" => (k_here;k_extra "nmx";name_kind "local";k_dflt (refine nmL (by rfl) (by rfl) (by k_asm) (by exact rfl) ?_);k_whole)
  k_with "call type:range" => ((rename Fr _ _ _ _=>f9);(rename News _ _ _ _=>n9);k_dflt (first | refine range1_rows f9 n9 ?_ | refine range2_rows f9 n9 ?_);intro _ _ _ _ _ _ _ _ _)
  k_with "call builtin:len" => ((with_reducible show wpAny _ _ (call (Value.builtin "len") [Value.str _ _]) _ _ _);refine SBL.len (by omega) ?_)
  k_with "ws here" => first | k_extra "a" | exact WsIn.mono (by k_extra "a") (by intro p hp;kst_mem)
  k_with "ctr back" => (intro r9 h9 tk9 hr9 F9 N9;obtain ⟨t9,hr9⟩ := hr9;subst hr9;(try dsimp only);(try k_fold))
  trivial
noncomputable def nameAt (i:Nat):Str := Str.ofString (toString (1 + (i:Int)))
theorem strs_app:∀ {a b:List Value} {x y:List Str},StrsAre a x→StrsAre b y→StrsAre (a ++ b) (x ++ y)
  | _,_,_,_,.nil,h=>h
  | _,_,_,_,.cons x t h,k=>.cons x t (strs_app h k)
theorem digits3:∀ k:Fin 100,(Str.ofString (toString ((k.val:Nat):Int))).length ≤ 2 := by decide +kernel
theorem nameAt_len {i:Nat} (h:i < 99):(nameAt i).length ≤ 2 := by
  have := digits3 ⟨1 + i,by exact (nUpLt (Nat.add_le_add nLit (nLt1 h)) rfl)⟩
  unfold nameAt
  rwa [show (((1 + i:Nat)):Int) = 1 + (i:Int) from by exact rfl] at this
theorem names_sum:∀ {l:List Nat},(∀ i ∈ l,i < 99)→((l.map nameAt).map (·.length)).sum ≤ 2 * l.length
  | [],_=>by simp
  | a :: l,h=>by
    have h1 := nameAt_len (h a (.head _))
    have h2 := names_sum fun i hi=>h i (.tail _ hi)
    simp only [List.map_cons,List.sum_cons,List.length_cons]
    exact bC (fk30 (Z6 V0 (Lm 2 V1) (Z6 V2 K2 (Z10 (La V2 V0) (Lm 2 (La V1 K1)) Lf))) rfl h2 h1)
theorem first_names {U ld:Str} (l:List Nat):(List.range (l.map (rowAt U ld)).length).map (firstT (l.map (rowAt U ld))) = l.map nameAt := by
  refine List.ext_getElem (by simp) fun i h1 h2=>?_
  have hi:i < l.length := by simpa using h2
  rw [List.getElem_map,List.getElem_map,List.getElem_range]
  have:(l.map (rowAt U ld))[i]? = some (rowDat (1 + ((l[i]:Nat):Int)) (colAt U l[i]) (colAt ld l[i])) := by
    rw [List.getElem?_map,List.getElem?_eq_getElem hi];rfl
  rw [firstT_of this]
  rfl
theorem fmt_is {U ld jt:Str} {l:List Nat} (hj:Txt.join (", " : Str) (l.map nameAt) = jt):fmtText (l.map (rowAt U ld)) = (if l.length > 1 then ("at tab sizes" : Str) else "at tab size") ++ " " ++ jt := by
  unfold fmtText
  rw [first_names,hj,List.length_map]
theorem words_many {U ld jt:Str} {l:List Nat} (hj:Txt.join (", " : Str) (l.map nameAt) = jt) (h:l.length > 1):("indent not greater e.g. at tab sizes " : Str) ++ jt = ("indent not greater e.g. " : Str) ++ fmtText (l.map (rowAt U ld)) := by
  rw [fmt_is hj,if_pos h]
  apply tx_inj
  simp only [tx_app]
  rw [show tx ("indent not greater e.g. at tab sizes " : Str) = tx ("indent not greater e.g. " : Str) ++ [97,116,32,116,97,98,32,115,105,122,101,115,32] from by decide +kernel,show tx ("at tab sizes" : Str) = [97,116,32,116,97,98,32,115,105,122,101,115] from by decide +kernel,show tx (" " : Str) = [32] from by decide +kernel]
  simp
theorem words_one {U ld jt:Str} {l:List Nat} (hj:Txt.join (", " : Str) (l.map nameAt) = jt) (h:¬ l.length > 1):("indent not greater e.g. at tab size " : Str) ++ jt = ("indent not greater e.g. " : Str) ++ fmtText (l.map (rowAt U ld)) := by
  rw [fmt_is hj,if_neg h]
  apply tx_inj
  simp only [tx_app]
  rw [show tx ("indent not greater e.g. at tab size " : Str) = tx ("indent not greater e.g. " : Str) ++ [97,116,32,116,97,98,32,115,105,122,101,32] from by decide +kernel,show tx ("at tab size" : Str) = [97,116,32,116,97,98,32,115,105,122,101] from by decide +kernel,show tx (" " : Str) = [32] from by decide +kernel]
  simp
theorem join_le (l:List Nat) (h:∀ i ∈ l,i < 99) (hl:l.length ≤ 42):(Txt.join (", " : Str) (l.map nameAt)).length ≤ 200 := by
  have h1 := names_sum h
  have h2 := StrLaws.join_length_le (", " : Str) (l.map nameAt)
  have h3:(", " : Str).length = 2 := by decide
  rw [h3,List.length_map] at h2
  have h4:(Txt.join (", " : Str) (l.map nameAt)).length ≤ ((l.map nameAt).map (·.length)).sum + l.length * 2 := by unfold Txt.join;rw [StrLaws.glued_eq_join];exact h2
  exact bC (fk30 (Z6 V0 (La V1 (Lr V2 2)) (Z6 V1 (Lm 2 V2) (Lh 6 4 V2 (Lk 42) (Z10 V0 (Lk 200) Lf)))) rfl h4 h1 hl)
theorem picked_strs {T:Nat→Prop} [DecidablePred T] {f:Nat→Str}:∀ {n:Nat} {ys:List Value},Picked T (fun i y=>∃ t,y = .str (f i) t) n ys→StrsAre ys ((sel T n).map f)
  | 0,ys,h=>by
    obtain rfl:ys = [] := h
    exact .nil
  | n + 1,ys,h=>by
    rw [sel_succ,List.map_append]
    rcases h with ⟨h1,h2⟩ | ⟨h1,ys',y,rfl,h2,t,rfl⟩
    · rw [if_neg h1,List.map_nil,List.append_nil]
      exact picked_strs h2
    · rw [if_pos h1]
      exact strs_app (picked_strs h2) (.cons _ _ .nil)
example:True := by
  k_with "^eval Name" => (k_extra "nmx";k_dflt (refine nmL (by kernel_rfl!) (by rfl) (by k_asm) (by first | (with_reducible assumption) | exact rfl | assumption) ?_);k_whole)
  k_with "^eval Name" => (k_extra "nmx";k_dflt (refine nmC (by kernel_rfl!) (by rfl) (by k_asm) (by rfl) (by with_reducible assumption) (by with_reducible assumption) ?_);k_whole)
  k_with "exec Assign cons ListComp" => (k_here;k_dflt (refine Assign_ListComp_3 (F₀ := by k_asm) (by rfl) (by with_unfolding_all rfl) (by with_unfolding_all rfl) (by decide) (by rfl) (by decide) (by rfl) (by rfl) (by rfl) (by decide) (by rfl) (by rfl) ?_))
  trivial
theorem mstage4 {w:World} {mean:ExcName→Option Value} {mg mb:Str→Option Value} {dp un:Nat} {gd:Option (List Code)} {a:Addr} {cd:Value} {A₀:Around} {base h₀:Heap} {L:Addr} {m:Str→Option Value} {s:Shared} {Q:Flow→Shared→Prop} {E:Value→Shared→Prop} {rest:List Stmt} {news:List (Addr × Obj)} {oU:Obj} {tU:Tok}
    {U ld:Str} {tld:Tok} (hU5:(U.length:Int) ≤ 5) (hld13:ld.length ≤ 13)
    (B:Below A₀ base [] h₀) (F:Fr h₀ L s.heap m) (X:(topT.heap_39 w.params).In h₀) (N:News h₀ L s.heap news) (TT:Top topProg LG mean mg mb h₀) (hd:dp ≤ 310) (hu:un ≤ 1000)
    (cU:(L + 1,oU) ∈ news) (dU:oU.data = .cell (some (.str U tU))) (eL:m "lead" = some (.str ld tld))
    (k:∀ (M:Nat) wt tw (u:Str→Option Value) h' tk',MaxRun (tx U ++ 9 :: tx ld) M→wt = ("indent not greater e.g. " : Str) ++ fmtText ((sel (fun j=>colAt U j ≥ colAt ld j) (1 + M)).map (rowAt U ld))→wt.length ≤ 300 →
      Fr h₀ L h' (fun y=>if y = "words" then some (.str wt tw) else if y = "sizes" then u y else m y)→News h₀ L h' news→wpAny (model PG w) (lawA dp un gd L a cd) (execs rest (lawEnv L a cd)) Q E { s with heap := h',toks := tk' }) :
    wpAny (model PG w) (lawA dp un gd L a cd) (execs (lawM4 :: lawM5 :: rest) (lawEnv L a cd)) Q E s := by
  intros w mean mg mb dp un gd a cd A₀ base h₀ L m s Q E rest news oU tU U ld tld _ hU5 hld13 B F X N TT hd hu cU dU eL k
  revert X;unfold PG;k_fill;intro X
  unfold PG at k
  k_with "call ref" => k_dflt (
    with_reducible show wpAny _ _ (call (Value.ref 171) _) _ _ _
    refine ctrO_use (by k_asm) (by k_asm) (by k_asm) (by k_asm) (by k_asm) (by walk_at "ctr K") (rows_tells (by exact (nUp (nOfI hU5) rfl)) (by exact (nUp hld13 rfl))) (by walk_at "ctr D") (by walk_at "ctr U") ?_
    intro r9 tlr9 h9 tk9 hW9 hf9 F9 N9
    obtain ⟨M,lr,vr,nr,hv9,hM,hM41,hlr,hvl,hdr⟩ := rows_open hW9
    subst hv9)
  k_with "Src3" => k_dflt (
    refine Src3.mk (its := vr.toArray) (k := nr) (fun i=>1 + (i:Int)) (fun i=>colOf (1 + (i:Int)) (KStt.codes U)) (fun j=>colOf (1 + (j:Int)) (KStt.codes ld)) (fun j=>colAt U j ≥ colAt ld j) (fun j y=>∃ t,y = Value.str (nameAt j) t) (by rfl) (by k_asm) (by k_asm) (by show (lr,listOf vr.toArray nr) ∈ _;exact List.mem_append_left _ hlr) (by rw [List.size_toArray];unfold sizeLine;exact (nUp (Nat.le_trans (Nat.le_of_eq hvl) (Nat.add_le_add nLit hM41)) rfl)) (fun j v hv=>rows_meet (hdr.mono (by intro p hp;exact List.mem_append_left _ hp)) (by simpa using hv)) ?_ ?_ ?_
    intro g2 j t1 t2 t3 I2 oI2 C2 oC2 D2 oD2 m2 h2 tk2 E2 hj hC2 x1 x2 x3 F2 N2 off2 ne2
    refine wpAny_tests_one ?_
    rotate_left
    intro g2 j t1 t2 t3 I2 oI2 C2 oC2 D2 oD2 m2 h2 tk2 E2 hj _ hC2 x1 x2 x3 F2 N2 off2 ne2
    have hj2:j < 1 + M := by rw [List.size_toArray,hvl] at hj;exact hj
    rotate_left
    intro g2 ys2 hp2
    have hs9 := picked_strs hp2
    have hsl:(sel (fun j=>colAt U j ≥ colAt ld j) vr.toArray.size).length ≤ 42 := by
      rw [← List.length_map (f := nameAt),← hs9.length]
      have := picked_len hp2
      rw [List.size_toArray,hvl] at this
      exact (nUp (Nat.le_trans this (Nat.add_le_add nLit hM41)) rfl)
    have hs99:∀ i ∈ sel (fun j=>colAt U j ≥ colAt ld j) vr.toArray.size,i < 99 := fun i hi=>by
      have := (sel_mem.mp hi).1
      rw [List.size_toArray,hvl] at this
      exact (nUpLt (Nat.le_trans (nLt1 this) (Nat.sub_le_sub_right (Nat.add_le_add nLit hM41) _)) rfl)
    have hjl := join_le _ hs99 hsl
    have hsum := names_sum hs99
    have hlen9:ys2.length = (sel (fun j=>colAt U j ≥ colAt ld j) vr.toArray.size).length := by rw [hs9.length,List.length_map]
    rw [List.size_toArray,hvl] at hs9 hsl hjl hsum hlen9
    generalize hsel:sel (fun j=>colAt U j ≥ colAt ld j) (1 + M) = sl at *
    generalize hJ:Txt.join (Str.ofString ", ") (sl.map nameAt) = jt at hjl
    have hadd:∀ x:Str,x.length ≤ 60→x.length + jt.length ≤ sizeLine := fun x hx=>by unfold sizeLine;exact (nUp (Nat.add_le_add hx hjl) rfl)
    rotate_left)
  k_with "call builtin:len" => k_dflt (refine KM.len_K (its := ys2.toArray) (c := ys2.length) (n := sl.length) (by k_asm) (List.mem_cons_self) (by rw [List.size_toArray,hlen9]) (by exact (nUpLt (Nat.le_trans (Nat.le_of_eq (Eq.symm hlen9)) (Nat.le_trans (Nat.le_of_eq hlen9) hsl)) rfl)) ?_)
  k_with "call builtin:str.join" => k_dflt (
    refine join_list (News.isList (by k_asm) (List.mem_cons_self)) (by exact hs9) (by rw [show (Str.ofString ", ").length = 2 from by decide,List.length_map];(first | exact (nUp (Nat.add_le_add (Nat.le_trans hsum (Nat.mul_le_mul nLit hsl)) (Nat.mul_le_mul hsl nLit)) rfl) | exact (nUp (Nat.add_le_add (Nat.le_trans hsum (Nat.mul_le_mul nLit (nOfI (Int.not_lt.mp (by assumption))))) (Nat.mul_le_mul (nOfI (Int.not_lt.mp (by assumption))) nLit)) rfl))) ?_
    intro t8 k8
    rw [hJ])
  k_with "^binaryOp Add str str" => (with_reducible refine add_str (fun t8 k8=>?_) (hadd _ (by decide)))
  k_steps
  · exact TestE.intro (by k_asm) (by k_asm) (by rw [decide_eq_true_iff])
  · exact TEnd.intro (by k_asm) (by k_asm) ⟨_,rfl⟩
  · refine k M _ _ (fun _=>some (.ref _)) _ _ hM ?_ ?_ (by k_asm) (by walk_at "my news")
    · rw [hsel];exact words_many hJ (by exact (nDnLt (nOfLlt (by assumption)) rfl))
    · rw [Str.length_append]
      exact Nat.le_trans (Nat.add_le_add (show _ ≤ 60 by decide) hjl) (by decide)
  · refine k M _ _ (fun _=>some (.ref _)) _ _ hM ?_ ?_ (by k_asm) (by walk_at "my news")
    · rw [hsel];exact words_one hJ (by exact (Nat.not_lt_of_le (nUp (nOfI (Int.not_lt.mp (by assumption))) rfl)))
    · rw [Str.length_append]
      exact Nat.le_trans (Nat.add_le_add (show _ ≤ 60 by decide) hjl) (by decide)
end
section
example:True := by
  w_top off
  k_with_none
  k_with "a" => with_reducible assumption
  k_with "sh" => first | exact sh1 (by k_extra "a") rfl | exact sh2 (by k_extra "a") rfl | exact sh3 (by k_extra "a") rfl | exact sh4 (by k_extra "a") rfl | exact sl1 (by k_extra "a") rfl | exact sl2 (by k_extra "a") rfl | exact sl3 (by k_extra "a") rfl | omega
  k_with "omega" => first | k_extra "a" | decide | exact Int.not_le.mp (by k_extra "a") | exact Int.not_lt.mp (by k_extra "a") | exact nUp (by k_extra "a") rfl | exact iDn (by k_extra "a") rfl | exact iUp (by k_extra "a") rfl | exact iUpLt (by k_extra "a") rfl | exact iDn (Int.add_le_add iLit iCast0) rfl | exact iDn iCast0 rfl | exact nUpLt (Nat.add_le_add (by k_extra "a") (Nat.le_refl _)) rfl | exact Nat.ne_of_lt (Nat.lt_succ_self _) | exact Ne.symm (Nat.ne_of_lt (Nat.lt_succ_self _)) | exact Nat.ne_of_lt (by k_extra "a") | exact Ne.symm (Nat.ne_of_lt (by k_extra "a")) | exact Ne.symm (Int.ne_of_lt (by k_extra "a")) | exact Int.not_le.mpr (iUpLt (iCast (by k_extra "a")) rfl) | lia
  k_with "my news" => first | k_asm | (refine cb_drop (by assumption) (by (intro p9 hp9;kst_mem)))
  k_with "ctr K" => first | exact rfl | assumption
  k_with "ctr D" => ((try simp only [depth_under_make,depth_under_kw,depth_in1,depth_deeper,depth_caller]);(try dsimp only [ktrTop]);k_extra "sh")
  k_with "ctr U" => ((try simp only [units_in1,units_deeper,Around.mark_units,units_caller]);(try dsimp only [ktrTop]);k_extra "sh")
  k_with "nmx" => (with_reducible show wpAny _ _ (eval _ (envX _ _ _ _ _ _)) _ _ _)
  k_with "^eval Name" => (k_here;k_extra "nmx";name_kind "globalImplicit";name_is_builtin;k_dflt (refine nameX_B (by k_asm) (by k_asm) (by k_asm) (by k_is) (by boot_fast) (by decide) ?_ (by rfl) (by kernel_rfl!));k_whole)
  k_with "^eval Name" => (k_here;k_extra "nmx";name_kind "globalImplicit";k_dflt (refine nameX_K (by k_asm) (by k_asm) (by k_asm) (by k_is) ?_ (by rfl) (by kernel_rfl!));k_whole)
  k_with "^eval Name" => (k_here;k_extra "nmx";name_kind "local";k_dflt (refine nmL (by rfl) (by rfl) (by k_asm) (by exact rfl) ?_);k_whole)
  k_with "call type:range" => ((rename Fr _ _ _ _=>f9);(rename News _ _ _ _=>n9);k_dflt (first | refine range1_rows f9 n9 ?_ | refine range2_rows f9 n9 ?_);intro _ _ _ _ _ _ _ _ _)
  k_with "call builtin:len" => ((with_reducible show wpAny _ _ (call (Value.builtin "len") [Value.str _ _]) _ _ _);refine SBL.len (by omega) ?_)
  k_with "ws here" => first | k_extra "a" | exact WsIn.mono (by k_extra "a") (by intro p hp;kst_mem)
  k_with "ctr back" => (intro r9 h9 tk9 hr9 F9 N9;obtain ⟨t9,hr9⟩ := hr9;subst hr9;(try dsimp only);(try k_fold))
  trivial
example:True := by
  k_with "^eval Name" => (k_extra "nmx";k_dflt (refine nmL (by kernel_rfl!) (by rfl) (by k_asm) (by first | (with_reducible assumption) | exact rfl | assumption) ?_);k_whole)
  k_with "^eval Name" => (k_extra "nmx";k_dflt (refine nmC (by kernel_rfl!) (by rfl) (by k_asm) (by rfl) (by with_reducible assumption) (by with_reducible assumption) ?_);k_whole)
  trivial
theorem mstage6 {w:World} {mean:ExcName→Option Value} {mg mb:Str→Option Value} {dp un:Nat} {gd:Option (List Code)} {a:Addr} {cd:Value} {A₀:Around} {base h₀:Heap} {L:Addr} {m:Str→Option Value} {s:Shared} {Q:Flow→Shared→Prop} {E:Value→Shared→Prop} {rest:List Stmt} {news:List (Addr × Obj)} {oT:Obj} {tT:Tok}
    {ld T wt:Str} {tld tw ti t0:Tok} {i:Nat} {n0:Int} {ng ln:Addr} {vs ks:List Value} {nn nk:Nat} {ds:List Dat} (hT:TailOk T) (hld13:ld.length ≤ 13)
    (B:Below A₀ base [] h₀) (F:Fr h₀ L s.heap m) (X:(topT.heap_39 w.params).In h₀) (N:News h₀ L s.heap news) (TT:Top topProg LG mean mg mb h₀) (hd:dp ≤ 310) (hu:un ≤ 1000)
    (cT:(L + 1 + 1,oT) ∈ news) (dT:oT.data = .cell (some (.str T tT))) (eL:m "lead" = some (.str ld tld)) (eW:m "words" = some (.str wt tw)) (eM:m "more" = some (.int (i:Int) ti)) (eG:m "nags" = some (.ref ng)) (eN:m "needs" = some (.ref ln))
    (mg1:(ng,listOf vs.toArray nn) ∈ news) (mn:(ln,listOf ks.toArray nk) ∈ news) (hk0:ks[0]? = some (.int n0 t0)) (hda:DatAll news vs ds) (hok:∀ d ∈ ds,kqdOk 8 d = true)
    (hEA:(i:Int) < n0→ds = [.tuple [.int (i:Int),.str wt,.str (ld ++ T)]]) (hEB:¬ (i:Int) < n0→ds = []) (hwo:PyData.strOk wt = true) (hlo:PyData.strOk (ld ++ T) = true)
    (k:∀ h' tk',Fr h₀ L h' m→News h₀ L h' news→wpAny (model PG w) (lawA dp un gd L a cd) (execs rest (lawEnv L a cd)) Q E { s with heap := h',toks := tk' }) :
    wpAny (model PG w) (lawA dp un gd L a cd) (execs (lawM6 :: rest) (lawEnv L a cd)) Q E s := by
  intros w mean mg mb dp un gd a cd A₀ base h₀ L m s Q E rest news oT tT ld T wt tld tw ti t0 i n0 ng ln vs ks nn nk ds _ hT hld13 B F X N TT hd hu cT dT eL eW eM eG eN mg1 mn hk0 hda hok hEA hEB hwo hlo k
  revert X;unfold PG;k_fill;intro X
  unfold PG at k
  have hls:ld.length + T.length ≤ sizeLine := by have := hT.2;unfold sizeLine;exact (nUp (Nat.add_le_add hld13 this) rfl)
  have hokA:∀ d ∈ [Dat.tuple [.int (i:Int),.str wt,.str (ld ++ T)]],kqdOk 8 d = true := by
    intro d hd
    rw [List.mem_singleton.mp hd]
    simp [kqdOk,hwo,hlo]
  generalize hLN:ld ++ T = lnn at *
  k_with "^subscriptTail Name" => k_dflt (refine item_listL (News.isList (by k_asm) (by k_mem)) (by exact (by decide)) (by exact (by decide)) (by exact hk0) ?_ (by with_unfolding_all rfl) (by intro _;with_unfolding_all rfl))
  k_with "^binaryOp Add str str" => k_dflt (
    refine add_str (fun t8 k8=>?_) hls
    rw [hLN])
  k_with "compareOp NotEq ref ref" => k_dflt (
    refine kqd_ne (by k_asm) (by k_mem) rfl rfl hda (by intro p hp;simp only [List.mem_cons,List.mem_append,hp,or_true]) (by k_mem) rfl rfl (by kqd_all) (fun _ h=>h) hok hokA (by dsimp only [ktrTop];have := cLine_is;exact (nUpLt (Nat.add_le_add hu nLit) rfl)) ?_
    simp only [hEA (by assumption),decide_true,Bool.not_true])
  k_with "compareOp NotEq ref ref" => k_dflt (
    refine kqd_ne (by k_asm) (by k_mem) rfl rfl hda (by intro p hp;simp only [List.mem_cons,List.mem_append,hp,or_true]) (by k_mem) rfl rfl (.nil) (fun _ h=>h) hok (by intro d hd;cases hd) (by dsimp only [ktrTop];have := cLine_is;exact (nUpLt (Nat.add_le_add hu nLit) rfl)) ?_
    simp only [hEB (by assumption),decide_true,Bool.not_true])
  k_steps
  · exact k _ _ (by k_asm) (by walk_at "my news")
  · exact k _ _ (by k_asm) (by walk_at "my news")
end
section
example:True := by
  w_top off
  k_with_none
  k_with "a" => with_reducible assumption
  k_with "sh" => first | exact sh1 (by k_extra "a") rfl | exact sh2 (by k_extra "a") rfl | exact sh3 (by k_extra "a") rfl | exact sh4 (by k_extra "a") rfl | exact sl1 (by k_extra "a") rfl | exact sl2 (by k_extra "a") rfl | exact sl3 (by k_extra "a") rfl | omega
  k_with "omega" => first | k_extra "a" | decide | exact Int.not_le.mp (by k_extra "a") | exact Int.not_lt.mp (by k_extra "a") | exact nUp (by k_extra "a") rfl | exact iDn (by k_extra "a") rfl | exact iUp (by k_extra "a") rfl | exact iUpLt (by k_extra "a") rfl | exact iDn (Int.add_le_add iLit iCast0) rfl | exact iDn iCast0 rfl | exact nUpLt (Nat.add_le_add (by k_extra "a") (Nat.le_refl _)) rfl | exact Nat.ne_of_lt (Nat.lt_succ_self _) | exact Ne.symm (Nat.ne_of_lt (Nat.lt_succ_self _)) | exact Nat.ne_of_lt (by k_extra "a") | exact Ne.symm (Nat.ne_of_lt (by k_extra "a")) | exact Ne.symm (Int.ne_of_lt (by k_extra "a")) | exact Int.not_le.mpr (iUpLt (iCast (by k_extra "a")) rfl) | lia
  k_with "my news" => first | k_asm | (refine cb_drop (by assumption) (by (intro p9 hp9;kst_mem)))
  k_with "ctr K" => first | exact rfl | assumption
  k_with "ctr D" => ((try simp only [depth_under_make,depth_under_kw,depth_in1,depth_deeper,depth_caller]);(try dsimp only [ktrTop]);k_extra "sh")
  k_with "ctr U" => ((try simp only [units_in1,units_deeper,Around.mark_units,units_caller]);(try dsimp only [ktrTop]);k_extra "sh")
  k_with "nmx" => (with_reducible show wpAny _ _ (eval _ (envX _ _ _ _ _ _)) _ _ _)
  k_with "^eval Name" => (k_here;k_extra "nmx";name_kind "globalImplicit";name_is_builtin;k_dflt (refine nameX_B (by k_asm) (by k_asm) (by k_asm) (by k_is) (by boot_fast) (by decide) ?_ (by rfl) (by kernel_rfl!));k_whole)
  k_with "^eval Name" => (k_here;k_extra "nmx";name_kind "globalImplicit";k_dflt (refine nameX_K (by k_asm) (by k_asm) (by k_asm) (by k_is) ?_ (by rfl) (by kernel_rfl!));k_whole)
  k_with "^eval Name" => (k_here;k_extra "nmx";name_kind "local";k_dflt (refine nmL (by rfl) (by rfl) (by k_asm) (by exact rfl) ?_);k_whole)
  k_with "call type:range" => ((rename Fr _ _ _ _=>f9);(rename News _ _ _ _=>n9);k_dflt (first | refine range1_rows f9 n9 ?_ | refine range2_rows f9 n9 ?_);intro _ _ _ _ _ _ _ _ _)
  k_with "call builtin:len" => ((with_reducible show wpAny _ _ (call (Value.builtin "len") [Value.str _ _]) _ _ _);refine SBL.len (by omega) ?_)
  k_with "ws here" => first | k_extra "a" | exact WsIn.mono (by k_extra "a") (by intro p hp;kst_mem)
  k_with "ctr back" => (intro r9 h9 tk9 hr9 F9 N9;obtain ⟨t9,hr9⟩ := hr9;subst hr9;(try dsimp only);(try k_fold))
  trivial
example:True := by
  k_with "^eval Name" => (k_extra "nmx";k_dflt (refine nmL (by kernel_rfl!) (by rfl) (by k_asm) (by first | (with_reducible assumption) | exact rfl | assumption) ?_);k_whole)
  trivial
theorem no_x {l:List Nat} (h:Signs l):120 ∉ l := fun hx=>by have := h 120 hx;lia
theorem mstage7 {w:World} {mean:ExcName→Option Value} {mg mb:Str→Option Value} {dp un:Nat} {gd:Option (List Code)} {a:Addr} {cd:Value} {A₀:Around} {base h₀:Heap} {L:Addr} {m:Str→Option Value} {s:Shared} {Q:Flow→Shared→Prop} {E:Value→Shared→Prop} {rest:List Stmt} {news:List (Addr × Obj)}
    {W:Nat→Str} {t0 t1 t2 t3:Tok} {lw:Addr} {nw:Nat} {ld:Str} {tld ti tb tn:Tok} {i:Nat} {bd n:Int} (hW:Leads W) (hi:i ≤ 6) (hld13:ld.length ≤ 13) (htx:tx ld = List.replicate i 9 ++ tx (W 0)) (hb0:-2 ≤ bd) (hb1:bd ≤ 11)
    (B:Below A₀ base [] h₀) (F:Fr h₀ L s.heap m) (X:(topT.heap_39 w.params).In h₀) (N:News h₀ L s.heap news) (TT:Top topProg LG mean mg mb h₀) (hd:dp ≤ 310) (hu:un ≤ 1000)
    (hl:(lw,listOf #[.str (W 0) t0,.str (W 1) t1,.str (W 2) t2,.str (W 3) t3] nw) ∈ news) (hw:m "walk" = some (.ref lw)) (eL:m "lead" = some (.str ld tld)) (eM:m "more" = some (.int (i:Int) ti)) (eB:m "bound" = some (.int bd tb)) (eN:m "last" = some (.int n tn))
    (k:∀ h' tk',Fr h₀ L h' m→News h₀ L h' news→wpAny (model PG w) (lawA dp un gd L a cd) (execs rest (lawEnv L a cd)) Q E { s with heap := h',toks := tk' }) :
    wpAny (model PG w) (lawA dp un gd L a cd) (execs (lawM7 :: lawM8 :: rest) (lawEnv L a cd)) Q E s := by
  intros w mean mg mb dp un gd a cd A₀ base h₀ L m s Q E rest news W t0 t1 t2 t3 lw nw ld tld ti tb tn i bd n _ hW hi hld13 htx hb0 hb1 B F X N TT hd hu hl hw eL eM eB eN k
  revert X;unfold PG;k_fill;intro X
  unfold PG at k
  have hWl := hW.ln 0 (by exact (by decide))
  have hsW := hW.sg 0 (by exact (by decide))
  have hL1:levOf (tx (W 0)) (tx ld) bd = 2 * (i:Int) := by
    rw [htx,lev_front,List.length_replicate]
  have hL2:∀ mc:Int,mc = 2 * (i:Int) ∨ mc = 2 * (i:Int) + 1→levOf (tx (W 0 ++ Str.ofString "x")) (tx (ld ++ Str.ofString "X")) mc = 2 * (i:Int) + 1 := by
    intro mc hmc
    rw [tx_app,tx_app,htx,show tx (Str.ofString "x") = [120] from by decide +kernel,show tx (Str.ofString "X") = [88] from by decide +kernel]
    have := lev_xX (w := tx (W 0)) (p := List.replicate i 9) (mc := mc) (no_x hsW) (fun h=>absurd (List.eq_of_mem_replicate h) (by decide)) (by rw [List.length_replicate,tx_len];exact (nUp (Nat.add_le_add hi hWl) rfl)) (by rw [List.length_replicate];exact hmc)
    rw [List.length_replicate] at this
    exact this
  have hm2:∀ q:Int,0 ≤ Int.fmod q 2 ∧ Int.fmod q 2 < 2 := fun q=>⟨Int.fmod_nonneg_of_pos q (by decide),Int.fmod_lt_of_pos q (by decide)⟩
  have h1x:(Str.ofString "x").length = 1 := by decide
  have h1X:(Str.ofString "X").length = 1 := by decide
  have hx1:(W 0).length + (Str.ofString "x").length ≤ sizeLine := by rw [h1x];unfold sizeLine;exact (nUp (Nat.add_le_add hWl nLit) rfl)
  have hx2:ld.length + (Str.ofString "X").length ≤ sizeLine := by rw [h1X];unfold sizeLine;exact (nUp (Nat.add_le_add hld13 nLit) rfl)
  have hy1:(W 0 ++ Str.ofString "x").length ≤ 100 := by rw [Str.length_append,h1x];exact (nUp (Nat.add_le_add hWl nLit) rfl)
  have hy2:(ld ++ Str.ofString "X").length ≤ 100 := by rw [Str.length_append,h1X];exact (nUp (Nat.add_le_add hld13 nLit) rfl)
  k_with "^subscriptTail Name" => k_dflt (refine item_listL (News.isList (by k_asm) (by k_mem)) (by exact (by decide)) (by exact (by decide)) (by rfl) ?_ (by with_unfolding_all rfl) (by intro _;with_unfolding_all rfl))
  k_with "call ref" => k_dflt (
    with_reducible show wpAny _ _ (call (Value.ref 142) [.str (W 0) _,_,_]) _ _ _
    refine ctr_use (by k_asm) (by k_asm) (by k_asm) (by k_asm) (by k_asm) (by walk_at "ctr K") (lev_tells (by exact (nUp hWl rfl)) (by exact (nUp hld13 rfl)) (by exact (iDn hb0 rfl)) (by exact (iUp hb1 rfl))) (by walk_at "ctr D") (by walk_at "ctr U") ?_
    intro r9 h9 tk9 hr9 F9 N9
    obtain ⟨t9,hr9⟩ := hr9
    rw [hL1] at hr9
    subst hr9)
  k_with "call ref" => k_dflt (
    with_reducible show wpAny _ _ (call (Value.ref 142) [.str (W 0 ++ Str.ofString "x") _,_,_]) _ _ _
    have hq2 := hm2 n
    refine ctr_use (by k_asm) (by k_asm) (by k_asm) (by k_asm) (by k_asm) (by walk_at "ctr K") (lev_tells hy1 hy2 (by exact (iDn (Int.add_le_add (iMulL iCast0 rfl) hq2.1) rfl)) (by exact (iUp (Int.add_le_add (iMulL (iCast hi) rfl) (iLt1 hq2.2)) rfl))) (by walk_at "ctr D") (by walk_at "ctr U") ?_
    intro r9 h9 tk9 hr9 F9 N9
    obtain ⟨t9,hr9⟩ := hr9
    rw [hL2 _ (by lia)] at hr9
    subst hr9)
  k_steps
  all_goals first
    | exact absurd rfl (by assumption)
    | exact k _ _ (by k_asm) (by k_asm)
end
section
example:True := by
  w_top off
  k_with_none
  k_with "a" => with_reducible assumption
  k_with "sh" => first | exact sh1 (by k_extra "a") rfl | exact sh2 (by k_extra "a") rfl | exact sh3 (by k_extra "a") rfl | exact sh4 (by k_extra "a") rfl | exact sl1 (by k_extra "a") rfl | exact sl2 (by k_extra "a") rfl | exact sl3 (by k_extra "a") rfl | omega
  k_with "omega" => first | k_extra "a" | decide | exact Int.not_le.mp (by k_extra "a") | exact Int.not_lt.mp (by k_extra "a") | exact nUp (by k_extra "a") rfl | exact iDn (by k_extra "a") rfl | exact iUp (by k_extra "a") rfl | exact iUpLt (by k_extra "a") rfl | exact iDn (Int.add_le_add iLit iCast0) rfl | exact iDn iCast0 rfl | exact nUpLt (Nat.add_le_add (by k_extra "a") (Nat.le_refl _)) rfl | exact Nat.ne_of_lt (Nat.lt_succ_self _) | exact Ne.symm (Nat.ne_of_lt (Nat.lt_succ_self _)) | exact Nat.ne_of_lt (by k_extra "a") | exact Ne.symm (Nat.ne_of_lt (by k_extra "a")) | exact Ne.symm (Int.ne_of_lt (by k_extra "a")) | exact Int.not_le.mpr (iUpLt (iCast (by k_extra "a")) rfl) | lia
  k_with "my news" => first | k_asm | (refine cb_drop (by assumption) (by (intro p9 hp9;kst_mem)))
  k_with "ctr K" => first | exact rfl | assumption
  k_with "ctr D" => ((try simp only [depth_under_make,depth_under_kw,depth_in1,depth_deeper,depth_caller]);(try dsimp only [ktrTop]);k_extra "sh")
  k_with "ctr U" => ((try simp only [units_in1,units_deeper,Around.mark_units,units_caller]);(try dsimp only [ktrTop]);k_extra "sh")
  k_with "nmx" => (with_reducible show wpAny _ _ (eval _ (envX _ _ _ _ _ _)) _ _ _)
  k_with "^eval Name" => (k_here;k_extra "nmx";name_kind "globalImplicit";name_is_builtin;k_dflt (refine nameX_B (by k_asm) (by k_asm) (by k_asm) (by k_is) (by boot_fast) (by decide) ?_ (by rfl) (by kernel_rfl!));k_whole)
  k_with "^eval Name" => (k_here;k_extra "nmx";name_kind "globalImplicit";k_dflt (refine nameX_K (by k_asm) (by k_asm) (by k_asm) (by k_is) ?_ (by rfl) (by kernel_rfl!));k_whole)
  k_with "^eval Name" => (k_here;k_extra "nmx";name_kind "local";k_dflt (refine nmL (by rfl) (by rfl) (by k_asm) (by exact rfl) ?_);k_whole)
  k_with "call type:range" => ((rename Fr _ _ _ _=>f9);(rename News _ _ _ _=>n9);k_dflt (first | refine range1_rows f9 n9 ?_ | refine range2_rows f9 n9 ?_);intro _ _ _ _ _ _ _ _ _)
  k_with "call builtin:len" => ((with_reducible show wpAny _ _ (call (Value.builtin "len") [Value.str _ _]) _ _ _);refine SBL.len (by omega) ?_)
  k_with "ws here" => first | k_extra "a" | exact WsIn.mono (by k_extra "a") (by intro p hp;kst_mem)
  k_with "ctr back" => (intro r9 h9 tk9 hr9 F9 N9;obtain ⟨t9,hr9⟩ := hr9;subst hr9;(try dsimp only);(try k_fold))
  trivial
example:True := by
  k_with "omega" => first | with_reducible assumption | lia
  trivial
noncomputable def OkT (x:Str):Prop := ∀ c ∈ tx x,c < 0x110000
theorem okT_iff {x:Str}:PyData.strOk x = true ↔ OkT x := by
  unfold PyData.strOk OkT tx
  rw [Array.all_eq_true_iff_forall_mem]
  constructor
  · intro h c hc
    have := h c (by simpa using hc)
    simpa using this
  · intro h c hc
    have := h c (by simpa using hc)
    simpa using this
theorem okT_app {a b:Str} (ha:OkT a) (hb:OkT b):OkT (a ++ b) := by
  intro c hc
  rw [tx_app] at hc
  rcases List.mem_append.mp hc with hc | hc
  · exact ha c hc
  · exact hb c hc
theorem okT_lead {x:Str} (h:IsLead x):OkT x := fun c hc=>by
  have := h c hc;lia
theorem okT_join {sep:Str} (hs:OkT sep):∀ {l:List Str},(∀ x ∈ l,OkT x)→OkT (Str.join sep l)
  | [],_=>by intro c hc;exact absurd hc (by rw [show tx (Str.join sep []) = [] from rfl];exact List.not_mem_nil)
  | [a],h=>h a (.head _)
  | a :: b :: r,h=>by
    show OkT (a ++ sep ++ Str.join sep (b :: r))
    exact okT_app (okT_app (h a (.head _)) hs) (okT_join hs fun x hx=>h x (.tail _ hx))
theorem digits4:∀ k:Fin 100,PyData.strOk (Str.ofString (toString ((k.val:Nat):Int))) = true := by decide +kernel
theorem okT_name {i:Nat} (h:i < 99):OkT (nameAt i) := by
  have := digits4 ⟨1 + i,by exact (nUpLt (Nat.add_le_add nLit (nLt1 h)) rfl)⟩
  unfold nameAt
  rw [show (((1 + i:Nat)):Int) = 1 + (i:Int) from by exact rfl] at this
  exact okT_iff.mp this
theorem okT_fmt {U ld:Str} {l:List Nat} (h:∀ i ∈ l,i < 99):OkT (fmtText (l.map (rowAt U ld))) := by
  rw [fmt_is rfl]
  refine okT_app (okT_app ?_ (okT_iff.mp (by decide +kernel))) ?_
  · split
    · exact okT_iff.mp (by decide +kernel)
    · exact okT_iff.mp (by decide +kernel)
  · unfold Txt.join
    rw [StrLaws.glued_eq_join]
    refine okT_join (okT_iff.mp (by decide +kernel)) fun x hx=>?_
    obtain ⟨i,hi,rfl⟩ := List.mem_map.mp hx
    exact okT_name (h i hi)
theorem okT_tail {T:Str} (h:T = ("x \t" : Str) ∨ T = "" ∨ T = "\n" ∨ T = "#\t "):OkT T := by
  rcases h with rfl | rfl | rfl | rfl <;> exact okT_iff.mp (by decide +kernel)
theorem runs_same {U ld W0:Str} {i:Nat} (htx:tx ld = List.replicate i 9 ++ tx W0) {M M':Nat} (h:MaxRun (tx U ++ 9 :: tx ld) M) (h':MaxRun (tx U ++ 9 :: tx W0) M'):M = M' := by
  rw [maxRun_is h,maxRun_is h',runs_app,runs_app,mx_app,mx_app,htx,runs_tabs]
theorem need_more {U ld W0:Str} {i M:Nat} {n0:Int} (htx:tx ld = List.replicate i 9 ++ tx W0) (hM:MaxRun (tx U ++ 9 :: tx ld) M) (hn:NeedIs U W0 n0):sel (fun j=>colAt U j ≥ colAt ld j) (1 + M) = [] ↔ ¬ (i:Int) < n0 := by
  obtain ⟨M',hM',h1,h2,h3⟩ := hn
  obtain rfl := runs_same htx hM hM'
  have key:∀ j:Nat,colAt U j ≥ colAt ld j ↔ (i:Int) + 1 ≤ needAt U W0 j := fun j=>by
    have e:colAt ld j = (1 + (j:Int)) * (i:Int) + colAt W0 j := by
      rw [colAt_is,colAt_is,htx,colF_front (by exact (iDn (Int.add_le_add iLit iCast0) rfl))]
    rw [e]
    unfold needAt
    show (1 + (j:Int)) * (i:Int) + colAt W0 j ≤ colAt U j ↔ (i:Int) + 1 ≤ Int.fdiv (colAt U j - colAt W0 j) (1 + (j:Int)) + 1
    rw [Int.fdiv_eq_ediv_of_nonneg _ (by exact (iDn (Int.add_le_add iLit iCast0) rfl))]
    have h := Int.le_ediv_iff_mul_le (a := (i:Int)) (b := colAt U j - colAt W0 j) (c := 1 + (j:Int)) (by exact (iDnLt (Int.add_le_add iLit iCast0) rfl))
    rw [Int.mul_comm] at h
    constructor
    · intro q
      have := h.mpr (bC (fk03 (Z0 (La V0 V1) V2 (Z4 V0 (Ls V2 V1) Lf)) rfl q))
      exact (Int.add_le_add_right this _)
    · intro q
      have := h.mp (bC (fk11 (Z0 (La V0 K1) (La V1 K1) (Z4 V0 V1 Lf)) rfl q))
      exact bC (fk03 (Z0 V0 (Ls V1 V2) (Z4 (La V0 V2) V1 Lf)) rfl this)
  rw [sel_nil]
  constructor
  · intro h q
    rcases h1 with h1 | ⟨j,hj,e⟩
    · exact (Int.lt_irrefl _ (Int.lt_of_lt_of_le q (iUp2 (Int.le_of_eq h1) iCast0 rfl)))
    · exact h j hj ((key j).mpr (bC (fk12 (Z2 V1 V2 (Z1 V0 V1 (Z4 (La V0 K1) V2 Lf))) rfl e q)))
  · intro q j hj hh
    have := (key j).mp hh
    have := h3 j hj
    exact fk12 (Z0 V1 V2 (Z0 (La V0 K1) V1 (Z5 V0 V2 Lf))) rfl this (by assumption) q
theorem need_le {U W:Str} {k:Int} (hU5:(U.length:Int) ≤ 5) (h:NeedIs U W k):0 ≤ k ∧ k ≤ 6 := by
  obtain ⟨M,_,h1,h2,_⟩ := h
  refine ⟨h2,?_⟩
  rcases h1 with h1 | ⟨j,hj,e⟩
  · exact (iUp (Int.le_of_eq h1) rfl)
  · have a1 := (colF_le (t := 1 + (j:Int)) (by exact (iDn (Int.add_le_add iLit iCast0) rfl)) (tx U) 0).2
    have a2 := (colF_le (t := 1 + (j:Int)) (by exact (iDn (Int.add_le_add iLit iCast0) rfl)) (tx W) 0).1
    rw [← colAt_is,tx_len] at a1
    rw [← colAt_is] at a2
    have hle:colAt U j - colAt W j ≤ 5 * (1 + (j:Int)) := by
      have:(1 + (j:Int)) * (U.length:Int) ≤ (1 + (j:Int)) * 5 := Int.mul_le_mul_of_nonneg_left hU5 (by exact (iDn (Int.add_le_add iLit iCast0) rfl))
      exact bC (fk23 (Z0 V2 (Lr (La K1 V0) 5) (Z0 (La K0 V1) V3 (Z0 V4 (La K0 V2) (Z12 V1 (Z4 (Ls V4 V3) (Lm 5 (La K1 V0)) Lf))))) rfl this a2 a1 trivial)
    have h5:Int.fdiv (colAt U j - colAt W j) (1 + (j:Int)) ≤ 5 := by
      rw [Int.fdiv_eq_ediv_of_nonneg _ (by exact (iDn (Int.add_le_add iLit iCast0) rfl))]
      have := Int.ediv_le_ediv (show 0 < 1 + (j:Int) by exact (iDnLt (Int.add_le_add iLit iCast0) rfl)) hle
      rwa [Int.mul_ediv_cancel _ (by exact (Ne.symm (Int.ne_of_lt (iDnLt (Int.add_le_add iLit iCast0) rfl))))] at this
    have:needAt U W j = Int.fdiv (colAt U j - colAt W j) (1 + (j:Int)) + 1 := rfl
    exact (iUp (Int.le_trans (Int.le_of_eq e) (Int.le_trans (Int.le_of_eq this) (Int.add_le_add h5 iLit))) rfl)
theorem nag_rows {U ld T W0:Str} {i M:Nat} {n0:Int} (hU:IsLead U) (hl:IsLead ld) (htx:tx ld = List.replicate i 9 ++ tx W0) (hM:MaxRun (tx U ++ 9 :: tx ld) M) (hn:NeedIs U W0 n0) :
    nagDat ld T i (witUpto (fun t=>indentOf (wsOf (tx U)) t ≥ indentOf (wsOf (tx ld)) t) (indentOf (wsOf (tx U))) (indentOf (wsOf (tx ld))) (topOf (wsOf (tx U)) (wsOf (tx ld))).toNat) =
      if (i:Int) < n0 then [.tuple [.int (i:Int),.str (("indent not greater e.g. " : Str) ++ fmtText ((sel (fun j=>colAt U j ≥ colAt ld j) (1 + M)).map (rowAt U ld))),.str (ld ++ T)]] else [] := by
  have e:witUpto (fun t=>indentOf (wsOf (tx U)) t ≥ indentOf (wsOf (tx ld)) t) (indentOf (wsOf (tx U))) (indentOf (wsOf (tx ld))) (topOf (wsOf (tx U)) (wsOf (tx ld))).toNat = (sel (fun j=>colAt U j ≥ colAt ld j) (1 + M)).map (rowAt U ld) := wit_rows hU hl hM fun i=>by rw [indent_at hU,indent_at hl]
  rw [e]
  unfold nagDat
  have h := need_more htx hM hn
  by_cases q:(i:Int) < n0
  · rw [if_pos q,if_neg (fun x=>(h.mp (List.map_eq_nil_iff.mp x)) q)]
  · rw [if_neg q,if_pos (by rw [h.mpr q];rfl)]
end
section
example:True := by
  w_top off
  k_with_none
  k_with "a" => with_reducible assumption
  k_with "sh" => first | exact sh1 (by k_extra "a") rfl | exact sh2 (by k_extra "a") rfl | exact sh3 (by k_extra "a") rfl | exact sh4 (by k_extra "a") rfl | exact sl1 (by k_extra "a") rfl | exact sl2 (by k_extra "a") rfl | exact sl3 (by k_extra "a") rfl | omega
  k_with "omega" => first | k_extra "a" | decide | exact Int.not_le.mp (by k_extra "a") | exact Int.not_lt.mp (by k_extra "a") | exact nUp (by k_extra "a") rfl | exact iDn (by k_extra "a") rfl | exact iUp (by k_extra "a") rfl | exact iUpLt (by k_extra "a") rfl | exact iDn (Int.add_le_add iLit iCast0) rfl | exact iDn iCast0 rfl | exact nUpLt (Nat.add_le_add (by k_extra "a") (Nat.le_refl _)) rfl | exact Nat.ne_of_lt (Nat.lt_succ_self _) | exact Ne.symm (Nat.ne_of_lt (Nat.lt_succ_self _)) | exact Nat.ne_of_lt (by k_extra "a") | exact Ne.symm (Nat.ne_of_lt (by k_extra "a")) | exact Ne.symm (Int.ne_of_lt (by k_extra "a")) | exact Int.not_le.mpr (iUpLt (iCast (by k_extra "a")) rfl) | lia
  k_with "my news" => first | k_asm | (refine cb_drop (by assumption) (by (intro p9 hp9;kst_mem)))
  k_with "ctr K" => first | exact rfl | assumption
  k_with "ctr D" => ((try simp only [depth_under_make,depth_under_kw,depth_in1,depth_deeper,depth_caller]);(try dsimp only [ktrTop]);k_extra "sh")
  k_with "ctr U" => ((try simp only [units_in1,units_deeper,Around.mark_units,units_caller]);(try dsimp only [ktrTop]);k_extra "sh")
  k_with "nmx" => (with_reducible show wpAny _ _ (eval _ (envX _ _ _ _ _ _)) _ _ _)
  k_with "^eval Name" => (k_here;k_extra "nmx";name_kind "globalImplicit";name_is_builtin;k_dflt (refine nameX_B (by k_asm) (by k_asm) (by k_asm) (by k_is) (by boot_fast) (by decide) ?_ (by rfl) (by kernel_rfl!));k_whole)
  k_with "^eval Name" => (k_here;k_extra "nmx";name_kind "globalImplicit";k_dflt (refine nameX_K (by k_asm) (by k_asm) (by k_asm) (by k_is) ?_ (by rfl) (by kernel_rfl!));k_whole)
  k_with "^eval Name" => (k_here;k_extra "nmx";name_kind "local";k_dflt (refine nmL (by rfl) (by rfl) (by k_asm) (by exact rfl) ?_);k_whole)
  k_with "call type:range" => ((rename Fr _ _ _ _=>f9);(rename News _ _ _ _=>n9);k_dflt (first | refine range1_rows f9 n9 ?_ | refine range2_rows f9 n9 ?_);intro _ _ _ _ _ _ _ _ _)
  k_with "call builtin:len" => ((with_reducible show wpAny _ _ (call (Value.builtin "len") [Value.str _ _]) _ _ _);refine SBL.len (by omega) ?_)
  k_with "ws here" => first | k_extra "a" | exact WsIn.mono (by k_extra "a") (by intro p hp;kst_mem)
  k_with "ctr back" => (intro r9 h9 tk9 hr9 F9 N9;obtain ⟨t9,hr9⟩ := hr9;subst hr9;(try dsimp only);(try k_fold))
  trivial
noncomputable abbrev moreSt:List Str := [Str.ofString "lead",Str.ofString "here",Str.ofString "nags",Str.ofString "nag",Str.ofString "words",Str.ofString "sizes"]
theorem more_off {z:Str} (h:List.contains moreSt z = false):z ≠ "lead" ∧ z ≠ "here" ∧ z ≠ "nags" ∧ z ≠ "nag" ∧ z ≠ "words" ∧ z ≠ "sizes" := by
  simp only [moreSt,List.contains_cons,List.contains_nil,Bool.or_eq_false_iff,beq_eq_false_iff_ne,Bool.or_false] at h
  exact ⟨h.1,h.2.1,h.2.2.1,h.2.2.2.1,h.2.2.2.2.1,h.2.2.2.2.2⟩
example:True := by
  k_with "^eval Name" => (k_extra "nmx";k_dflt (refine nmL (by kernel_rfl!) (by rfl) (by k_asm) (by first | (with_reducible assumption) | exact rfl | assumption) ?_);k_whole)
  trivial
theorem more_turn {w:World} {mean:ExcName→Option Value} {mg mb:Str→Option Value} {dp un:Nat} {gd:Option (List Code)} {a:Addr} {cd:Value} {A₀:Around} {base h₀:Heap} {L:Addr} {m m₁:Str→Option Value} {s:Shared} {Q:Flow→Shared→Prop} {E:Value→Shared→Prop} {news:List (Addr × Obj)} {oU oT oI:Obj} {tU tT:Tok}
    {U T:Str} {W:Nat→Str} {t0 t1 t2 t3 tk0 tb tn ti:Tok} {x lw ln I:Addr} {nw nk i:Nat} {ks:List Value} {n0 bd n:Int} {ps:Array Value} (hU:IsLead U) (hU5:(U.length:Int) ≤ 5) (hW:Leads W) (hT:TailOk T) (hTo:OkT T) (hb0:-2 ≤ bd) (hb1:bd ≤ 11)
    (hA:WsIn w news (.ref x) (wsOf (tx U))) (hn0:NeedIs U (W 0) n0) (hk0:ks[0]? = some (.int n0 tk0)) (hi6:i ≤ 6)
    (B:Below A₀ base [] h₀) (F:Fr h₀ L s.heap (fun y=>if y = "more" then some (.int (i:Int) ti) else m₁ y)) (X:(topT.heap_39 w.params).In h₀) (N:News h₀ L s.heap ((123,tabObj ps) :: (I,oI) :: news)) (hn3:∀ q ∈ news,q.1 ≠ 123) (hI:∀ q ∈ (123,tabObj ps) :: news,q.1 ≠ I) (TT:Top topProg LG mean mg mb h₀) (hd:dp ≤ 310) (hu:un ≤ 1000)
    (HC:CodeHd base 127 123) (hps:TriplesOk ps.toList) (hg:BareG s.gens)
    (cU:(L + 1,oU) ∈ news) (dU:oU.data = .cell (some (.str U tU))) (cT:(L + 1 + 1,oT) ∈ news) (dT:oT.data = .cell (some (.str T tT)))
    (hl:(lw,listOf #[.str (W 0) t0,.str (W 1) t1,.str (W 2) t2,.str (W 3) t3] nw) ∈ news) (mn:(ln,listOf ks.toArray nk) ∈ news)
    (e1:m₁ "walk" = some (.ref lw)) (e2:m₁ "above" = some (.ref x)) (e3:m₁ "needs" = some (.ref ln)) (e4:m₁ "bound" = some (.int bd tb)) (e5:m₁ "last" = some (.int n tn)) (hm₁:∀ z:Str,z ≠ "more" → List.contains moreSt z = false→m₁ z = m z) :
    wpAny (model PG w) (lawA dp un gd L a cd) (execs (lawM0 :: lawM1 :: lawM2 :: lawM3 :: lawM4 :: lawM5 :: lawM6 :: lawM7 :: lawM8 :: []) (lawEnv L a cd)) (MorePost h₀ L "more" moreSt m I oI news s Q) E s := by
  intros w mean mg mb dp un gd a cd A₀ base h₀ L m m₁ s Q E news oU oT oI tU tT U T W t0 t1 t2 t3 tk0 tb tn ti x lw ln I nw nk i ks n0 bd n ps _ hU hU5 hW hT hTo hb0 hb1 hA hn0 hk0 hi6 B F X N hn3 hI TT hd hu HC hps hg cU dU cT dT hl mn e1 e2 e3 e4 e5 hm₁
  have sub1:∀ p ∈ news,p ∈ (123,tabObj ps) :: (I,oI) :: news := fun p hp=>.tail _ (.tail _ hp)
  refine mstage0 (W := W) (T := T) (i := i) hW hi6 hT B F X N TT hd hu (sub1 _ cT) dT (sub1 _ hl) e1 (by rfl) ?_
  intro ld tld hx ng tl h2 tk2 htx hH hf2 hlt2 F2 N2
  have hld:IsLead ld := by
    intro c hc
    rw [htx] at hc
    rcases List.mem_append.mp hc with hc | hc
    · exact .inr (List.eq_of_mem_replicate hc)
    · exact hW.sg 0 (by exact (by decide)) c hc
  have hld13:ld.length ≤ 13 := by
    have := hW.ln 0 (by exact (by decide))
    rw [← tx_len,htx,List.length_append,List.length_replicate,tx_len];exact (nUp (Nat.add_le_add hi6 this) rfl)
  have hng:∀ q ∈ tl ++ (I,oI) :: news,q.1 ≠ ng := fun q hq=>Nat.ne_of_lt (hlt2 q (by
    rcases List.mem_append.mp hq with hq | hq
    · exact List.mem_append_left _ hq
    · exact List.mem_append_right _ (.tail _ hq)))
  have hn3':∀ q ∈ tl ++ (I,oI) :: news,q.1 ≠ 123 := fun q hq=>by
    rcases List.mem_append.mp hq with hq | hq
    · exact Ne.symm (hf2 q hq _ (.head _))
    · rcases List.mem_cons.mp hq with rfl | hq
      · exact Ne.symm (hI _ (.head _))
      · exact hn3 q hq
  have hn4:ng ≠ 123 := Nat.ne_of_gt (hlt2 (123,tabObj ps) (List.mem_append_right _ (.head _)))
  have sub2:∀ p ∈ news,p ∈ tl ++ (I,oI) :: news := fun p hp=>List.mem_append_right _ (.tail _ hp)
  refine mstage3 (U := U) (ld := ld) (T := T) (i := i) (ps := ps) hi6 hT hU hU5 hld hld13 (hA.mono sub2) (hH.mono fun p hp=>List.mem_append_left _ hp) B F2 X (cb_drop N2 (fun p hp=>?_)) hng hn3' hn4 TT hd hu HC hps hg (sub2 _ cT) dT (by exact e2) (by rfl) (by rfl) (by rfl) (by rfl) ?_
  · simp only [List.mem_cons,List.mem_append] at hp ⊢
    rcases hp with q | q | q | q | q <;> simp [q]
  intro vs nn tl3 u3 h3 tk3 ps3 gs3 hps3 hgs3 hda3 F3 N3
  have sub3:∀ p ∈ news,p ∈ (123,tabObj ps3) :: (ng,listOf vs.toArray nn) :: (tl3 ++ (tl ++ (I,oI) :: news)) := fun p hp=>.tail _ (.tail _ (List.mem_append_right _ (sub2 p hp)))
  refine mstage4 (U := U) (ld := ld) hU5 hld13 B F3 X N3 TT hd hu (sub3 _ cU) dU (by rfl) ?_
  intro M wt tw u4 h4 tk4 hM hwt hwl F4 N4
  have hnr := nag_rows (T := T) hU hld htx hM hn0
  rw [← hwt] at hnr
  have h99:∀ j ∈ sel (fun j=>colAt U j ≥ colAt ld j) (1 + M),j < 99 := fun j hj=>by
    have h1 := (sel_mem.mp hj).1
    have h2 := top_is hU hld hM
    have h3 := top_le (a := tx U) (b := tx ld) (by rw [tx_len];exact (nUp (nOfI hU5) rfl)) (by rw [tx_len];exact (nUp hld13 rfl))
    exact bC (fk31 (Z6 V0 (Lk 21) (Z3 V3 (La K1 V1) (Z7 V2 (La K1 V1) (Z3 V0 V3 (Z11 V2 (Lk 99) Lf))))) rfl h3 h2 h1 (tC (bC (fk11 (Z3 V1 (La K1 V0) (Z12 V0 (Z4 K0 V1 Lf))) rfl h2 trivial))))
  have hwo:PyData.strOk wt = true := okT_iff.mpr (by rw [hwt];exact okT_app (okT_iff.mp (by decide +kernel)) (okT_fmt h99))
  have hlo:PyData.strOk (ld ++ T) = true := okT_iff.mpr (okT_app (okT_lead hld) hTo)
  rw [hnr] at hda3
  refine mstage6 (ld := ld) (T := T) (wt := wt) (i := i) (n0 := n0) hT hld13 B F4 X N4 TT hd hu (sub3 _ cT) dT (by rfl) (by rfl) (by rfl) (by rfl) (by exact e3) (.tail _ (.head _)) (sub3 _ mn) hk0 (hda3.mono fun p hp=>.tail _ (.tail _ (List.mem_append_left _ hp))) ?_ (fun q=>if_pos q) (fun q=>if_neg q) hwo hlo ?_
  · intro d hd9
    split at hd9
    · rw [List.mem_singleton.mp hd9]
      simp [kqdOk,hwo,hlo]
    · cases hd9
  intro h5 tk5 F5 N5
  refine mstage7 (W := W) (ld := ld) (i := i) (bd := bd) (n := n) hW hi6 hld13 htx hb0 hb1 B F5 X N5 TT hd hu (sub3 _ hl) (by exact e1) (by rfl) (by rfl) (by exact e4) (by exact e5) ?_
  intro h6 tk6 F6 N6
  refine wpAny_execs_nil ?_
  refine ⟨h6,tk6,gs3,ps3,_,rfl,hps3,hgs3,?_,F6,cb_drop N6 (fun p hp=>?_)⟩
  · intro z hz hz2
    obtain ⟨z1,z2,z3,z4,z5,z6⟩ := more_off hz2
    simp only [if_neg z1,if_neg z2,if_neg z3,if_neg z4,if_neg z5,if_neg z6,if_neg hz]
    exact hm₁ z hz hz2
  · rcases List.mem_cons.mp hp with rfl | hp
    · exact .head _
    · exact .tail _ (.tail _ (List.mem_append_right _ (List.mem_append_right _ hp)))
theorem stage12 {w:World} {mean:ExcName→Option Value} {mg mb:Str→Option Value} {dp un:Nat} {gd:Option (List Code)} {a:Addr} {cd:Value} {A₀:Around} {base h₀:Heap} {L:Addr} {m:Str→Option Value} {s:Shared} {Q:Flow→Shared→Prop} {E:Value→Shared→Prop} {rest:List Stmt} {news:List (Addr × Obj)} {oU oT:Obj} {tU tT:Tok}
    {U T:Str} {W:Nat→Str} {t0 t1 t2 t3 tk0 tb tn:Tok} {x lw ln:Addr} {nw nk:Nat} {ks:List Value} {n0 bd n:Int} {ps:Array Value} (hU:IsLead U) (hU5:(U.length:Int) ≤ 5) (hW:Leads W) (hT:TailOk T) (hTo:OkT T) (hb0:-2 ≤ bd) (hb1:bd ≤ 11)
    (hA:WsIn w news (.ref x) (wsOf (tx U))) (hn0:NeedIs U (W 0) n0) (hk0:ks[0]? = some (.int n0 tk0))
    (B:Below A₀ base [] h₀) (F:Fr h₀ L s.heap m) (X:(topT.heap_39 w.params).In h₀) (N:News h₀ L s.heap ((123,tabObj ps) :: news)) (hn3:∀ q ∈ news,q.1 ≠ 123) (TT:Top topProg LG mean mg mb h₀) (hd:dp ≤ 310) (hu:un ≤ 1000) (hE:PassesOwn (model PG w) (lawA dp un gd L a cd) (lawEnv L a cd) E)
    (HC:CodeHd base 127 123) (hps:TriplesOk ps.toList) (hg:BareG s.gens)
    (cU:(L + 1,oU) ∈ news) (dU:oU.data = .cell (some (.str U tU))) (cT:(L + 1 + 1,oT) ∈ news) (dT:oT.data = .cell (some (.str T tT)))
    (hl:(lw,listOf #[.str (W 0) t0,.str (W 1) t1,.str (W 2) t2,.str (W 3) t3] nw) ∈ news) (mn:(ln,listOf ks.toArray nk) ∈ news)
    (eW:m "walk" = some (.ref lw)) (eA:m "above" = some (.ref x)) (eN:m "needs" = some (.ref ln)) (eB:m "bound" = some (.int bd tb)) (eL:m "last" = some (.int n tn))
    (k:∀ (m₁:Str→Option Value) h' tk' (ps':Array Value) gs',TriplesOk ps'.toList→BareG gs'→(∀ z:Str,z ≠ "more" → List.contains moreSt z = false→m₁ z = m z)→Fr h₀ L h' m₁→News h₀ L h' ((123,tabObj ps') :: news)→wpAny (model PG w) (lawA dp un gd L a cd) (execs rest (lawEnv L a cd)) Q E { s with heap := h',toks := tk',gens := gs' }) :
    wpAny (model PG w) (lawA dp un gd L a cd) (execs (lawS12 :: rest) (lawEnv L a cd)) Q E s := by
  intros w mean mg mb dp un gd a cd A₀ base h₀ L m s Q E rest news oU oT tU tT U T W t0 t1 t2 t3 tk0 tb tn x lw ln nw nk ks n0 bd n ps _ hU hU5 hW hT hTo hb0 hb1 hA hn0 hk0 B F X N hn3 TT hd hu hE HC hps hg cU dU cT dT hl mn eW eA eN eB eL k
  have hX := X
  revert X;unfold PG;k_fill;intro X
  unfold PG at k hE
  have hnl := need_le hU5 hn0
  refine wpAny_execs_cons ?_
  refine for_more (h₀ := h₀) (stored := moreSt) (m := m) (news := news) rfl rfl rfl ?_ (hE := hE)
  k_with "^subscriptTail Name" => k_dflt (refine item_listL (News.isList (by k_asm) (by k_mem)) (by exact (by decide)) (by exact (by decide)) (by exact hk0) ?_ (by with_unfolding_all rfl) (by intro _;with_unfolding_all rfl))
  k_with "Exists" => k_dflt (
    refine ⟨_,n0 + 1,_,_,_,(n0 + 1 - 0).toNat,ps,rfl,by assumption,small_one (by exact (by decide)) (by exact (by decide)) (by exact (iDn (Int.add_le_add hnl.1 iLit) rfl)) (by exact (iUpLt (Int.add_le_add hnl.2 iLit) rfl)),by exact rangeSize_nat _ _,by k_asm,by k_asm,hps,hg,?_,?_⟩
    intro i t I oI m₁ ps1 h tk gs hi hps1 hgs hm₁ hI F₁ N₁
    exact more_turn (s := { s with heap := h,toks := tk,gens := gs }) (i := i) (ps := ps1) hU hU5 hW hT hTo hb0 hb1 hA hn0 hk0 (bC (fk21 (Z7 V0 V1 (Z0 V2 (Lk 6) (Z2 V1 (Ls (La V2 K1) K0) (Z10 V0 (Lk 6) Lf)))) rfl hi hnl.2 (tC (bC (fk01 (Z0 K0 V0 (Z4 K0 (Ls (La V0 K1) K0) Lf)) rfl hnl.1))))) B F₁ hX N₁ hn3 hI TT hd hu HC hps1 hgs cU dU cT dT hl mn ((hm₁ "walk" (by decide) (by decide)).trans eW) ((hm₁ "above" (by decide) (by decide)).trans eA) ((hm₁ "needs" (by decide) (by decide)).trans eN) ((hm₁ "bound" (by decide) (by decide)).trans eB) ((hm₁ "last" (by decide) (by decide)).trans eL) hm₁
    intro m₁ ps1 h tk gs hps1 hgs hm₁ F₁ N₁
    exact k m₁ h tk ps1 gs hps1 hgs hm₁ F₁ N₁)
  k_steps
end
section
example:True := by
  w_top off
  k_with_none
  k_with "a" => with_reducible assumption
  k_with "sh" => first | exact sh1 (by k_extra "a") rfl | exact sh2 (by k_extra "a") rfl | exact sh3 (by k_extra "a") rfl | exact sh4 (by k_extra "a") rfl | exact sl1 (by k_extra "a") rfl | exact sl2 (by k_extra "a") rfl | exact sl3 (by k_extra "a") rfl | omega
  k_with "omega" => first | k_extra "a" | decide | exact Int.not_le.mp (by k_extra "a") | exact Int.not_lt.mp (by k_extra "a") | exact nUp (by k_extra "a") rfl | exact iDn (by k_extra "a") rfl | exact iUp (by k_extra "a") rfl | exact iUpLt (by k_extra "a") rfl | exact iDn (Int.add_le_add iLit iCast0) rfl | exact iDn iCast0 rfl | exact nUpLt (Nat.add_le_add (by k_extra "a") (Nat.le_refl _)) rfl | exact Nat.ne_of_lt (Nat.lt_succ_self _) | exact Ne.symm (Nat.ne_of_lt (Nat.lt_succ_self _)) | exact Nat.ne_of_lt (by k_extra "a") | exact Ne.symm (Nat.ne_of_lt (by k_extra "a")) | exact Ne.symm (Int.ne_of_lt (by k_extra "a")) | exact Int.not_le.mpr (iUpLt (iCast (by k_extra "a")) rfl) | lia
  k_with "my news" => first | k_asm | (refine cb_drop (by assumption) (by (intro p9 hp9;kst_mem)))
  k_with "ctr K" => first | exact rfl | assumption
  k_with "ctr D" => ((try simp only [depth_under_make,depth_under_kw,depth_in1,depth_deeper,depth_caller]);(try dsimp only [ktrTop]);k_extra "sh")
  k_with "ctr U" => ((try simp only [units_in1,units_deeper,Around.mark_units,units_caller]);(try dsimp only [ktrTop]);k_extra "sh")
  k_with "nmx" => (with_reducible show wpAny _ _ (eval _ (envX _ _ _ _ _ _)) _ _ _)
  k_with "^eval Name" => (k_here;k_extra "nmx";name_kind "globalImplicit";name_is_builtin;k_dflt (refine nameX_B (by k_asm) (by k_asm) (by k_asm) (by k_is) (by boot_fast) (by decide) ?_ (by rfl) (by kernel_rfl!));k_whole)
  k_with "^eval Name" => (k_here;k_extra "nmx";name_kind "globalImplicit";k_dflt (refine nameX_K (by k_asm) (by k_asm) (by k_asm) (by k_is) ?_ (by rfl) (by kernel_rfl!));k_whole)
  k_with "^eval Name" => (k_here;k_extra "nmx";name_kind "local";k_dflt (refine nmL (by rfl) (by rfl) (by k_asm) (by exact rfl) ?_);k_whole)
  k_with "call type:range" => ((rename Fr _ _ _ _=>f9);(rename News _ _ _ _=>n9);k_dflt (first | refine range1_rows f9 n9 ?_ | refine range2_rows f9 n9 ?_);intro _ _ _ _ _ _ _ _ _)
  k_with "call builtin:len" => ((with_reducible show wpAny _ _ (call (Value.builtin "len") [Value.str _ _]) _ _ _);refine SBL.len (by omega) ?_)
  k_with "ws here" => first | k_extra "a" | exact WsIn.mono (by k_extra "a") (by intro p hp;kst_mem)
  k_with "ctr back" => (intro r9 h9 tk9 hr9 F9 N9;obtain ⟨t9,hr9⟩ := hr9;subst hr9;(try dsimp only);(try k_fold))
  trivial
example:True := by
  k_with "omega" => first | with_reducible assumption | lia
  trivial
noncomputable def Walked (W:Nat→Str):Prop := ∀ j,j < 3→StrokeOut (W j) (W (j + 1))
theorem walk_al {W:Nat→Str} (h:Walked W):∀ k:Nat,k ≤ 3→∃ m:Int,m ≤ 2 * (k:Int) ∧ Al (tx (W 0)) (tx (W k)) m
  | 0,_=>⟨0,by exact (by decide),Al.same _⟩
  | k + 1,hk=>by
    obtain ⟨m,h1,h2⟩ := walk_al h k (bC (fk10 (Z6 (La V0 K1) (Lk 3) (Z10 V0 (Lk 3) Lf)) rfl hk))
    obtain ⟨m',h3,h4⟩ := h2.stroke (h k (bC (fk10 (Z6 (La V0 K1) (Lk 3) (Z11 V0 (Lk 3) Lf)) rfl hk))).1
    exact ⟨m',by exact bC (fk12 (Z0 V1 (La V2 K2) (Z0 V2 (Lm 2 V0) (Z4 V1 (Lm 2 (La V0 K1)) Lf))) rfl h3 h1),h4⟩
theorem blanks_snoc (l:List Nat) (x:Nat):blanks (l ++ [x]) = blanks l + (if x = 32 then 1 else 0) := by
  unfold blanks
  rw [List.filter_append,List.length_append]
  by_cases h:x = 32 <;> simp [h]
theorem ws_blanks (l:List Nat):Signs l→(wsOf l).n - (wsOf l).nt = blanks l := by
  refine rev_ind (P := fun l=>Signs l→(wsOf l).n - (wsOf l).nt = blanks l) ?_ ?_ l
  · intro _;rfl
  · intro l c ih hs
    have ih := ih fun x hx=>hs x (List.mem_append_left _ hx)
    rw [wsOf_snoc,blanks_snoc]
    unfold wsStep
    rcases hs c (List.mem_append_right _ (.head _)) with h | h
    · subst h;simp;exact Int.le_antisymm (bC (fk03 (Z2 (Ls V0 V1) V2 (Z4 (Ls (La V0 K1) V1) (La V2 K1) Lf)) rfl ih)) (bC (fk03 (Z3 (Ls V0 V1) V2 (Z4 (La V2 K1) (Ls (La V0 K1) V1) Lf)) rfl ih))
    · subst h;simp;exact Int.le_antisymm (bC (fk03 (Z2 (Ls V0 V1) V2 (Z4 (Ls (La V0 K1) (La V1 K1)) V2 Lf)) rfl ih)) (bC (fk03 (Z3 (Ls V0 V1) V2 (Z4 V2 (Ls (La V0 K1) (La V1 K1)) Lf)) rfl ih))
theorem told_facts {a b:Str} {d:Int} (ha:IsLead a) (hb:IsLead b) (hd:Dist (tx a) (tx b) d):∃ e:Nat,d = 2 * (e:Int) ∧ (∀ i:Nat,Int.fdiv (((colAt a i - colAt b i).natAbs:Int) + (1 + (i:Int)) - 1) (1 + (i:Int)) ≤ e) ∧ (((wsOf (tx a)).n - (wsOf (tx a)).nt - ((wsOf (tx b)).n - (wsOf (tx b)).nt)).natAbs:Int) ≤ e ∧ (d = 0 ↔ a = b) := by
  obtain ⟨e,h1,h2,h3,h4⟩ := hd.1.signs ha hb
  refine ⟨e,h1,fun i=>?_,?_,?_⟩
  · have := h2 (1 + (i:Int)) (by exact (iDn (Int.add_le_add iLit iCast0) rfl)) 0
    rw [colAt_is,colAt_is,Int.fdiv_eq_ediv_of_nonneg _ (by exact (iDn (Int.add_le_add iLit iCast0) rfl))]
    have k := Int.ediv_lt_iff_lt_mul (a := (((colF (1 + (i:Int)) 0 (tx a) - colF (1 + (i:Int)) 0 (tx b)).natAbs:Int) + (1 + (i:Int)) - 1)) (b := (e:Int) + 1) (c := 1 + (i:Int)) (by exact (iDnLt (Int.add_le_add iLit iCast0) rfl))
    have:((e:Int) + 1) * (1 + (i:Int)) = (1 + (i:Int)) * (e:Int) + (1 + (i:Int)) := by
      rw [Int.add_mul,Int.mul_comm,Int.one_mul]
    rw [this] at k
    have := k.mpr (by omega)
    exact bC (fk11 (Z1 V1 (La V0 K1) (Z4 V1 V0 Lf)) rfl this)
  · rw [ws_blanks _ ha,ws_blanks _ hb]
    lia
  · rw [lev_zero hd]
    constructor
    · intro h
      rcases a with ⟨⟨l⟩⟩
      rcases b with ⟨⟨r⟩⟩
      simp only [tx] at h
      rw [h]
    · intro h;rw [h]
theorem needs_far {U A W:Str} {n:Int} (hU:IsLead U) (hA:IsLead A) (hW:IsLead W) (lA:A.length ≤ 40) (lW:W.length ≤ 40) (h0:NeedIs U A 0) (hn:NeedIs U W n):2 * n ≤ levOf (tx A) (tx W) (2 * n - 1) := by
  obtain ⟨d,hd⟩ := dist_ex (tx A) (tx W)
  obtain ⟨e,h1,h2,h3,h4⟩ := hd.1.signs hA hW
  have hlv := lev_is (mc := 2 * n - 1) (by rw [tx_len];exact lA) (by rw [tx_len];exact lW) hd
  have hl := (less_is hU hA).mp ((need_less hU hA h0).mp rfl)
  have hall := less_all hl
  obtain ⟨M,hM,hk,hk0,_⟩ := hn
  rcases hk with hk | ⟨i,hi,hk⟩
  · omega
  · have h5 := hall (1 + (i:Int)) (by exact (iDn (Int.add_le_add iLit iCast0) rfl))
    rw [indent_at hU,indent_at hA] at h5
    have h6 := h2 (1 + (i:Int)) (by exact (iDn (Int.add_le_add iLit iCast0) rfl)) 0
    rw [← colAt_is,← colAt_is] at h6
    have h7:n - 1 < (e:Int) := by
      rw [hk]
      unfold needAt
      rw [Int.fdiv_eq_ediv_of_nonneg _ (by exact (iDn (Int.add_le_add iLit iCast0) rfl))]
      have k := Int.ediv_lt_iff_lt_mul (a := colAt U i - colAt W i) (b := (e:Int)) (c := 1 + (i:Int)) (by exact (iDnLt (Int.add_le_add iLit iCast0) rfl))
      rw [Int.mul_comm] at k
      have := k.mpr (bC (fk04 (Z0 V0 (La V1 V2) (Z1 V3 V0 (Z5 (Ls V3 V1) V2 Lf))) rfl h6.2 h5))
      show (colAt U i - colAt W i) / (1 + (i:Int)) + 1 - 1 < _
      exact bC (fk11 (Z1 V1 V0 (Z5 (Ls (La V1 K1) K1) V0 Lf)) rfl this)
    lia
theorem equal_rows {U W:Str} (hU:IsLead U) (hW:IsLead W) {M n:Nat} (hM:MaxRun (tx U ++ 9 :: tx W) M) (hn:n = 1 + M):((wsOf (tx U)).count = (wsOf (tx W)).count ∧ (wsOf (tx U)).b = (wsOf (tx W)).b) ↔ (sel (fun j=>colAt U j ≠ colAt W j) n).map (rowAt U W) = [] := by
  subst hn
  rw [equal_is,List.map_eq_nil_iff,sel_nil,top_is hU hW hM]
  constructor
  · intro h i hi
    have := h (1 + (i:Int)) (by exact (iDn (Int.add_le_add iLit iCast0) rfl)) (bC (fk20 (Z7 V0 (La K1 V1) (Z4 (La K1 V0) (La K1 V1) Lf)) rfl hi))
    rw [indent_at hU,indent_at hW] at this
    exact fun q=>q this
  · intro h t h1 h2
    have := h (t - 1).toNat (bC (fk21 (Z0 V2 (La K1 V0) (Z2 V1 (Ls V2 K1) (Z11 V1 (La K1 V0) Lf))) rfl h2 (tC (bC (fk01 (Z0 K1 V0 (Z4 K0 (Ls V0 K1) Lf)) rfl h1)))))
    rw [← indent_at hU,← indent_at hW,show 1 + (((t - 1).toNat:Nat):Int) = t by exact Int.le_antisymm (bC (fk11 (Z2 V0 (Ls V1 K1) (Z4 (La K1 V0) V1 Lf)) rfl (tC (bC (fk01 (Z0 K1 V0 (Z4 K0 (Ls V0 K1) Lf)) rfl h1))))) (bC (fk11 (Z3 V0 (Ls V1 K1) (Z4 V1 (La K1 V0) Lf)) rfl (tC (bC (fk01 (Z0 K1 V0 (Z4 K0 (Ls V0 K1) Lf)) rfl h1)))))] at this
    exact Decidable.of_not_not this
theorem due_told {a b:Str} {n:Nat} {mc:Int} (la:a.length ≤ 40) (lb:b.length ≤ 40) (hd:Dist (tx a) (tx b) (2 * (n:Int))):(levOf (tx a) (tx b) mc = 2 * (n:Int) ∨ (mc < 2 * (n:Int) ∧ levOf (tx a) (tx b) mc = mc + 1)) ∧ levOf (tx b) (tx a) (2 * (n:Int)) = 2 * (n:Int) :=
  ⟨lev_is (by rw [tx_len];exact la) (by rw [tx_len];exact lb) hd,lev_le (by rw [tx_len];exact lb) (by rw [tx_len];exact la) hd.symm (by exact (Int.le_refl _))⟩
theorem fr_twice {h₀ h:Heap} {L:Addr} {m:Str→Option Value} {x:Str} {v u:Option Value} (F:Fr h₀ L h (fun y=>if y = x then v else if y = x then u else m y)):Fr h₀ L h (fun y=>if y = x then v else m y) := by
  have e:(fun y=>if y = x then v else if y = x then u else m y) = (fun y=>if y = x then v else m y) := by
    funext y
    by_cases q:y = x <;> simp [q]
  rw [e] at F
  exact F
end
section
example:True := by
  w_top off
  k_with_none
  k_with "a" => with_reducible assumption
  k_with "sh" => first | exact sh1 (by k_extra "a") rfl | exact sh2 (by k_extra "a") rfl | exact sh3 (by k_extra "a") rfl | exact sh4 (by k_extra "a") rfl | exact sl1 (by k_extra "a") rfl | exact sl2 (by k_extra "a") rfl | exact sl3 (by k_extra "a") rfl | omega
  k_with "omega" => first | k_extra "a" | decide | exact Int.not_le.mp (by k_extra "a") | exact Int.not_lt.mp (by k_extra "a") | exact nUp (by k_extra "a") rfl | exact iDn (by k_extra "a") rfl | exact iUp (by k_extra "a") rfl | exact iUpLt (by k_extra "a") rfl | exact iDn (Int.add_le_add iLit iCast0) rfl | exact iDn iCast0 rfl | exact nUpLt (Nat.add_le_add (by k_extra "a") (Nat.le_refl _)) rfl | exact Nat.ne_of_lt (Nat.lt_succ_self _) | exact Ne.symm (Nat.ne_of_lt (Nat.lt_succ_self _)) | exact Nat.ne_of_lt (by k_extra "a") | exact Ne.symm (Nat.ne_of_lt (by k_extra "a")) | exact Ne.symm (Int.ne_of_lt (by k_extra "a")) | exact Int.not_le.mpr (iUpLt (iCast (by k_extra "a")) rfl) | lia
  k_with "my news" => first | k_asm | (refine cb_drop (by assumption) (by (intro p9 hp9;kst_mem)))
  k_with "ctr K" => first | exact rfl | assumption
  k_with "ctr D" => ((try simp only [depth_under_make,depth_under_kw,depth_in1,depth_deeper,depth_caller]);(try dsimp only [ktrTop]);k_extra "sh")
  k_with "ctr U" => ((try simp only [units_in1,units_deeper,Around.mark_units,units_caller]);(try dsimp only [ktrTop]);k_extra "sh")
  k_with "nmx" => (with_reducible show wpAny _ _ (eval _ (envX _ _ _ _ _ _)) _ _ _)
  k_with "^eval Name" => (k_here;k_extra "nmx";name_kind "globalImplicit";name_is_builtin;k_dflt (refine nameX_B (by k_asm) (by k_asm) (by k_asm) (by k_is) (by boot_fast) (by decide) ?_ (by rfl) (by kernel_rfl!));k_whole)
  k_with "^eval Name" => (k_here;k_extra "nmx";name_kind "globalImplicit";k_dflt (refine nameX_K (by k_asm) (by k_asm) (by k_asm) (by k_is) ?_ (by rfl) (by kernel_rfl!));k_whole)
  k_with "^eval Name" => (k_here;k_extra "nmx";name_kind "local";k_dflt (refine nmL (by rfl) (by rfl) (by k_asm) (by exact rfl) ?_);k_whole)
  k_with "call type:range" => ((rename Fr _ _ _ _=>f9);(rename News _ _ _ _=>n9);k_dflt (first | refine range1_rows f9 n9 ?_ | refine range2_rows f9 n9 ?_);intro _ _ _ _ _ _ _ _ _)
  k_with "call builtin:len" => ((with_reducible show wpAny _ _ (call (Value.builtin "len") [Value.str _ _]) _ _ _);refine SBL.len (by omega) ?_)
  k_with "ws here" => first | k_extra "a" | exact WsIn.mono (by k_extra "a") (by intro p hp;kst_mem)
  k_with "ctr back" => (intro r9 h9 tk9 hr9 F9 N9;obtain ⟨t9,hr9⟩ := hr9;subst hr9;(try dsimp only);(try k_fold))
  trivial
example:True := by
  k_with "^eval Name" => (k_extra "nmx";k_dflt (refine nmL (by kernel_rfl!) (by rfl) (by k_asm) (by first | (with_reducible assumption) | exact rfl | assumption) ?_);k_whole)
  trivial
noncomputable def forTarget:Stmt→Expr
  | .For t _ _ _ _=>t
  | _=>.Name "" default
theorem tabs_turn {w:World} {mean:ExcName→Option Value} {mg mb:Str→Option Value} {dp un:Nat} {gd:Option (List Code)} {a:Addr} {cd:Value} {A₀:Around} {base h₀:Heap} {L:Addr} {m:Str→Option Value} {s:Shared} {Q:Flow→Shared→Prop} {E:Value→Shared→Prop} {news:List (Addr × Obj)}
    {W:Nat→Str} {t0 t1 t2 t3 tk:Tok} {lw:Addr} {nw:Nat} (hW:Leads W) {n:Nat} (hn:n = 39 ∨ n = 40)
    (B:Below A₀ base [] h₀) (F:Fr h₀ L s.heap m) (X:(topT.heap_39 w.params).In h₀) (N:News h₀ L s.heap news) (TT:Top topProg LG mean mg mb h₀) (hd:dp ≤ 310) (hu:un ≤ 1000)
    (hl:(lw,listOf #[.str (W 0) t0,.str (W 1) t1,.str (W 2) t2,.str (W 3) t3] nw) ∈ news) (hw:m "walk" = some (.ref lw))
    (k:∀ h' tk',Fr h₀ L h' (fun y=>if y = "tabs" then some (.int (n:Int) tk) else m y)→News h₀ L h' news→Q .next { s with heap := h',toks := tk' }) :
    wpAny (model PG w) (lawA dp un gd L a cd) (assign (forTarget lawS13) (lawEnv L a cd) (.int (n:Int) tk)) (fun _ s₂=>wpAny (model PG w) (lawA dp un gd L a cd) (execs (forBody lawS13) (lawEnv L a cd)) Q E s₂) E s := by
  intros w mean mg mb dp un gd a cd A₀ base h₀ L m s Q E news W t0 t1 t2 t3 tk lw nw n _ hW hn B F X N TT hd hu hl hw k
  revert X;unfold PG;k_fill;intro X
  unfold lawS13 pick
  dsimp only [forTarget,forBody]
  have hWl := hW.ln 0 (by exact (by decide))
  have h1x:(Str.ofString "x").length = 1 := by decide
  have h1X:(Str.ofString "X").length = 1 := by decide
  have hx1:(W 0).length + (Str.ofString "x").length ≤ sizeLine := by rw [h1x];unfold sizeLine;exact (nUp (Nat.add_le_add hWl nLit) rfl)
  have hlt:∀ i:Nat,(Txt.mul (Str.ofString "\t") (i:Int)).length = i := fun i=>by rw [← tx_len,tx_tabs,List.length_replicate]
  have h39:levOf (tx (W 0 ++ Str.ofString "x")) (tx (W 0 ++ Txt.mul (Str.ofString "\t") ((39:Nat):Int) ++ Str.ofString "X")) 200 = 79 := by
    rw [tx_app,tx_app,tx_app,tx_tabs,show tx (Str.ofString "x") = [120] from by decide +kernel,show tx (Str.ofString "X") = [88] from by decide +kernel]
    exact lev_39
  have h40:levOf (tx (W 0 ++ Str.ofString "x")) (tx (W 0 ++ Txt.mul (Str.ofString "\t") ((40:Nat):Int) ++ Str.ofString "X")) 200 = 201 := by
    rw [tx_app,tx_app,tx_app,tx_tabs,show tx (Str.ofString "x") = [120] from by decide +kernel,show tx (Str.ofString "X") = [88] from by decide +kernel]
    exact lev_40
  have hV:∃ V:Int,levOf (tx (W 0 ++ Str.ofString "x")) (tx (W 0 ++ Txt.mul (Str.ofString "\t") (n:Int) ++ Str.ofString "X")) 200 = V ∧ ((n:Int) = 39→V = 79) ∧ ((n:Int) ≠ 39→V = 201) := by
    rcases hn with rfl | rfl
    · exact ⟨_,h39,fun _=>rfl,fun q=>absurd rfl q⟩
    · exact ⟨_,h40,fun q=>absurd q (by decide),fun _=>rfl⟩
  obtain ⟨V,hV,hV1,hV2⟩ := hV
  have hn50:n ≤ 50 := by lia
  clear h39 h40 hn
  have hsz:(Txt.mul (Str.ofString "\t") (n:Int)).length = n := hlt n
  k_with "^subscriptTail Name" => k_dflt (refine item_listL (News.isList (by k_asm) (by k_mem)) (by exact (by decide)) (by exact (by decide)) (by rfl) ?_ (by with_unfolding_all rfl) (by intro _;with_unfolding_all rfl))
  k_with "call ref" => k_dflt (
    with_reducible show wpAny _ _ (call (Value.ref 142) [.str (W 0 ++ Str.ofString "x") _,_,_]) _ _ _
    refine ctr_use (by k_asm) (by k_asm) (by k_asm) (by k_asm) (by k_asm) (by walk_at "ctr K") (lev_tells (by rw [Str.length_append,h1x];exact (nUp (Nat.add_le_add hWl nLit) rfl)) (by rw [Str.length_append,Str.length_append,h1X,hsz];exact (nUp (Nat.add_le_add (Nat.add_le_add hWl hn50) nLit) rfl)) (by exact (by decide)) (by exact (by decide))) (by walk_at "ctr D") (by walk_at "ctr U") ?_
    intro r9 h9 tk9 hr9 F9 N9
    obtain ⟨t9,hr9⟩ := hr9
    rw [hV] at hr9
    subst hr9)
  k_steps
  all_goals first
    | exact k _ _ (by k_asm) (by k_asm)
    | (exfalso;lia)
theorem stage13 {w:World} {mean:ExcName→Option Value} {mg mb:Str→Option Value} {dp un:Nat} {gd:Option (List Code)} {a:Addr} {cd:Value} {A₀:Around} {base h₀:Heap} {L:Addr} {m:Str→Option Value} {s:Shared} {Q:Flow→Shared→Prop} {E:Value→Shared→Prop} {rest:List Stmt} {news:List (Addr × Obj)}
    {W:Nat→Str} {t0 t1 t2 t3:Tok} {lw:Addr} {nw:Nat} (hW:Leads W)
    (B:Below A₀ base [] h₀) (F:Fr h₀ L s.heap m) (X:(topT.heap_39 w.params).In h₀) (N:News h₀ L s.heap news) (TT:Top topProg LG mean mg mb h₀) (hd:dp ≤ 310) (hu:un ≤ 1000) (hE:PassesOwn (model PG w) (lawA dp un gd L a cd) (lawEnv L a cd) E)
    (hl:(lw,listOf #[.str (W 0) t0,.str (W 1) t1,.str (W 2) t2,.str (W 3) t3] nw) ∈ news) (hw:m "walk" = some (.ref lw))
    (k:∀ v h' tk',Fr h₀ L h' (fun y=>if y = "tabs" then v else m y)→News h₀ L h' news→wpAny (model PG w) (lawA dp un gd L a cd) (execs rest (lawEnv L a cd)) Q E { s with heap := h',toks := tk' }) :
    wpAny (model PG w) (lawA dp un gd L a cd) (execs (lawS13 :: rest) (lawEnv L a cd)) Q E s := by
  intros w mean mg mb dp un gd a cd A₀ base h₀ L m s Q E rest news W t0 t1 t2 t3 lw nw _ hW B F X N TT hd hu hE hl hw k
  have hX := X
  have mw:∀ v:Option Value,(fun y=>if y = "tabs" then v else m y) "walk" = some (.ref lw) := fun _=>hw
  revert X;unfold PG;k_fill;intro X
  unfold PG at k hE
  refine wpAny_execs_cons ?_
  refine For_turns F ?_ (hE := hE)
  k_with "pyIter ref" => k_dflt (
    refine iter_tupTurns (vs := [.int ((39:Nat):Int) _,.int ((40:Nat):Int) _]) (by rfl) (by k_asm) (by k_asm) (List.mem_cons_self) (by rfl) (by rfl) ?_
    intro I l1
    refine ItemsRest.val ?_
    intro h5 tk5 F5
    refine AllObj.cons (fun o5 hc5=>?_)
    refine AllObj.nil (fun N5=>?_)
    refine tabs_turn (s := { s with heap := h5,toks := tk5 }) (n := 39) hW (.inl rfl) B F5 hX N5 TT hd hu (.tail _ (.tail _ hl)) hw ?_
    intro h6 tk6 F6 N6
    refine ⟨h6,tk6,_,_,rfl,F6,N6,?_,⟨List.mem_cons_self,trivial⟩,?_⟩
    rotate_left
    refine ItemsRest.val ?_
    intro h7 tk7 F7
    refine AllObj.cons (fun o7 hc7=>?_)
    refine AllObj.nil (fun N7=>?_)
    refine tabs_turn (s := { s with heap := h7,toks := tk7 }) (n := 40) hW (.inr rfl) B F7 hX N7 TT hd hu (.tail _ (.tail _ hl)) hw ?_
    intro h8 tk8 F8 N8
    refine ⟨h8,tk8,_,_,rfl,F8,N8,?_,⟨List.mem_cons_self,trivial⟩,?_⟩
    rotate_left
    refine ItemsRest.zero ?_
    intro h9 tk9 F9 N9
    exact k _ h9 tk9 (fr_twice F9) (cb_drop N9 (fun p hp=>.tail _ hp))
    intro p hp q hq
    rw [List.mem_singleton.mp hq]
    exact Nat.ne_of_lt (l1 p hp)
    intro p hp q hq
    rw [List.mem_singleton.mp hq]
    exact Nat.ne_of_lt (l1 p hp))
  k_steps
end
section
example:True := by
  w_top off
  k_with_none
  k_with "a" => with_reducible assumption
  k_with "sh" => first | exact sh1 (by k_extra "a") rfl | exact sh2 (by k_extra "a") rfl | exact sh3 (by k_extra "a") rfl | exact sh4 (by k_extra "a") rfl | exact sl1 (by k_extra "a") rfl | exact sl2 (by k_extra "a") rfl | exact sl3 (by k_extra "a") rfl | omega
  k_with "omega" => first | k_extra "a" | decide | exact Int.not_le.mp (by k_extra "a") | exact Int.not_lt.mp (by k_extra "a") | exact nUp (by k_extra "a") rfl | exact iDn (by k_extra "a") rfl | exact iUp (by k_extra "a") rfl | exact iUpLt (by k_extra "a") rfl | exact iDn (Int.add_le_add iLit iCast0) rfl | exact iDn iCast0 rfl | exact nUpLt (Nat.add_le_add (by k_extra "a") (Nat.le_refl _)) rfl | exact Nat.ne_of_lt (Nat.lt_succ_self _) | exact Ne.symm (Nat.ne_of_lt (Nat.lt_succ_self _)) | exact Nat.ne_of_lt (by k_extra "a") | exact Ne.symm (Nat.ne_of_lt (by k_extra "a")) | exact Ne.symm (Int.ne_of_lt (by k_extra "a")) | exact Int.not_le.mpr (iUpLt (iCast (by k_extra "a")) rfl) | lia
  k_with "my news" => first | k_asm | (refine cb_drop (by assumption) (by (intro p9 hp9;kst_mem)))
  k_with "ctr K" => first | exact rfl | assumption
  k_with "ctr D" => ((try simp only [depth_under_make,depth_under_kw,depth_in1,depth_deeper,depth_caller]);(try dsimp only [ktrTop]);k_extra "sh")
  k_with "ctr U" => ((try simp only [units_in1,units_deeper,Around.mark_units,units_caller]);(try dsimp only [ktrTop]);k_extra "sh")
  k_with "nmx" => (with_reducible show wpAny _ _ (eval _ (envX _ _ _ _ _ _)) _ _ _)
  k_with "^eval Name" => (k_here;k_extra "nmx";name_kind "globalImplicit";name_is_builtin;k_dflt (refine nameX_B (by k_asm) (by k_asm) (by k_asm) (by k_is) (by boot_fast) (by decide) ?_ (by rfl) (by kernel_rfl!));k_whole)
  k_with "^eval Name" => (k_here;k_extra "nmx";name_kind "globalImplicit";k_dflt (refine nameX_K (by k_asm) (by k_asm) (by k_asm) (by k_is) ?_ (by rfl) (by kernel_rfl!));k_whole)
  k_with "^eval Name" => (k_here;k_extra "nmx";name_kind "local";k_dflt (refine nmL (by rfl) (by rfl) (by k_asm) (by exact rfl) ?_);k_whole)
  k_with "call type:range" => ((rename Fr _ _ _ _=>f9);(rename News _ _ _ _=>n9);k_dflt (first | refine range1_rows f9 n9 ?_ | refine range2_rows f9 n9 ?_);intro _ _ _ _ _ _ _ _ _)
  k_with "call builtin:len" => ((with_reducible show wpAny _ _ (call (Value.builtin "len") [Value.str _ _]) _ _ _);refine SBL.len (by omega) ?_)
  k_with "ws here" => first | k_extra "a" | exact WsIn.mono (by k_extra "a") (by intro p hp;kst_mem)
  k_with "ctr back" => (intro r9 h9 tk9 hr9 F9 N9;obtain ⟨t9,hr9⟩ := hr9;subst hr9;(try dsimp only);(try k_fold))
  trivial
noncomputable def lawNB (n:Nat):List Stmt := (forBody lawS14).drop n
noncomputable abbrev lawN0:Stmt := pick (l := lawNB 0) rfl
noncomputable abbrev lawN1:Stmt := pick (l := lawNB 1) rfl
noncomputable abbrev lawN2:Stmt := pick (l := lawNB 2) rfl
noncomputable abbrev lawN3:Stmt := pick (l := lawNB 3) rfl
noncomputable abbrev lawN4:Stmt := pick (l := lawNB 4) rfl
noncomputable abbrev lawN5:Stmt := pick (l := lawNB 5) rfl
noncomputable abbrev lawN6:Stmt := pick (l := lawNB 6) rfl
noncomputable abbrev lawN7:Stmt := pick (l := lawNB 7) rfl
noncomputable def lstAt (a b:Str) (i:Nat):Int := Int.fdiv (((colAt a i - colAt b i).natAbs:Int) + (1 + (i:Int)) - 1) (1 + (i:Int))
noncomputable def gapOf (a b:WS):Int := a.n - a.nt - (b.n - b.nt)
noncomputable def LeastOk (a b:Str) (q:Int):Prop := ∀ e:Int,0 ≤ e→(∀ i,lstAt a b i ≤ e)→((gapOf (wsOf (tx a)) (wsOf (tx b))).natAbs:Int) ≤ e→q ≤ e
theorem walk_item {W:Nat→Str} {t0 t1 t2 t3:Tok} {i:Nat} (h:i < 4):∃ t,([.str (W 0) t0,.str (W 1) t1,.str (W 2) t2,.str (W 3) t3]:List Value)[i]? = some (.str (W i) t) := by
  rcases i with _ | _ | _ | _ | i
  · exact ⟨_,rfl⟩
  · exact ⟨_,rfl⟩
  · exact ⟨_,rfl⟩
  · exact ⟨_,rfl⟩
  · lia
example:True := by
  k_with "^subscriptTail Name Constant ref int" => (k_here;k_dflt (refine item_tupleT (News.isTup (by k_asm) (by k_mem)) (by decide) (by decide) (by rfl) (by rfl) ?_);k_whole)
  k_with "^eval Name" => (k_extra "nmx";k_dflt (refine nmL (by kernel_rfl!) (by rfl) (by k_asm) (by first | (with_reducible assumption) | exact rfl | assumption) ?_);k_whole)
  k_with "eval ListComp" => (k_here;k_dflt (refine LCt.ListComp_T (F₀ := by k_asm) (by with_unfolding_all rfl) (by decide) (by rfl) (by decide) (by rfl) ?_))
  trivial
theorem nstage0 {w:World} {mean:ExcName→Option Value} {mg mb:Str→Option Value} {dp un:Nat} {gd:Option (List Code)} {a:Addr} {cd:Value} {A₀:Around} {base h₀:Heap} {L:Addr} {m:Str→Option Value} {s:Shared} {Q:Flow→Shared→Prop} {E:Value→Shared→Prop} {rest:List Stmt} {news:List (Addr × Obj)}
    {W:Nat→Str} {lp:Addr} {np:Nat} {ps:List Value} {j:Nat} {tj:Tok} {v0 vj:Value} (hW:Leads W) (hj:j < 4) (hP0:WsIn w news v0 (wsOf (tx (W 0)))) (hPj:WsIn w news vj (wsOf (tx (W j)))) (p0:ps[0]? = some v0) (pj:ps[j]? = some vj)
    (B:Below A₀ base [] h₀) (F:Fr h₀ L s.heap m) (X:(topT.heap_39 w.params).In h₀) (N:News h₀ L s.heap news) (TT:Top topProg LG mean mg mb h₀) (hd:dp ≤ 310) (hu:un ≤ 1000)
    (mp:(lp,listOf ps.toArray np) ∈ news) (eP:m "page" = some (.ref lp)) (eK:m "k" = some (.int (j:Int) tj))
    (k:∀ lr vs nr tl h' tk',(lr,listOf vs.toArray nr) ∈ tl→DatAll tl vs (witUpto (fun t=>indentOf (wsOf (tx (W 0))) t ≠ indentOf (wsOf (tx (W j))) t) (indentOf (wsOf (tx (W 0)))) (indentOf (wsOf (tx (W j)))) (topOf (wsOf (tx (W 0))) (wsOf (tx (W j)))).toNat)→Fresh tl news→Fr h₀ L h' (fun y=>if y = "rows" then some (.ref lr) else m y)→News h₀ L h' (tl ++ news)→wpAny (model PG w) (lawA dp un gd L a cd) (execs rest (lawEnv L a cd)) Q E { s with heap := h',toks := tk' }) :
    wpAny (model PG w) (lawA dp un gd L a cd) (execs (lawN0 :: rest) (lawEnv L a cd)) Q E s := by
  intros w mean mg mb dp un gd a cd A₀ base h₀ L m s Q E rest news W lp np ps j tj v0 vj _ hW hj hP0 hPj p0 pj B F X N TT hd hu mp eP eK k
  revert X;unfold PG;k_fill;intro X
  unfold PG at k
  have hA0 := hP0
  obtain ⟨xx,dA,tpA,tcA,rawA,k1,k2,k3,k4,k5,tr,t2',t3',t4,vsA,hxx,mX,mD,mP,mC,hI⟩ := hA0
  subst hxx
  have l0 := hW.ln 0 (by exact (by decide))
  have lj := hW.ln j hj
  k_with "^subscriptTail Name" => k_dflt (refine item_listL (News.isList (by k_asm) (by k_mem)) (by (first | exact (by decide) | exact (iDn iCast0 rfl))) (by (first | exact (by decide) | exact (iUpLt (iCast (nLt1 hj)) rfl))) (by first | exact p0 | exact pj) ?_ (by with_unfolding_all rfl) (by intro _;with_unfolding_all rfl))
  k_with "call ref" => k_dflt (
    with_reducible show wpAny _ _ (call (Value.ref 100) _) _ _ _
    refine ctrO_use (by k_asm) (by k_asm) (by k_asm) (by k_asm) (by k_asm) (by walk_at "ctr K") (new_tells hP0 hPj (ws_ok (by rw [tx_len];exact (nUp l0 rfl))) (ws_ok (by rw [tx_len];exact (nUp lj rfl)))) (by walk_at "ctr D") (by walk_at "ctr U") ?_
    intro r9 tl9 h9 tk9 hW9 hf9 F9 N9
    obtain ⟨l9,v9,m9,hr9,hl9,hd9⟩ := dat_list hW9
    subst hr9)
  k_steps
  exact k _ _ _ _ _ _ hl9 hd9 hf9 (by k_asm) (by k_asm)
end
section
example:True := by
  w_top off
  k_with_none
  k_with "a" => with_reducible assumption
  k_with "sh" => first | exact sh1 (by k_extra "a") rfl | exact sh2 (by k_extra "a") rfl | exact sh3 (by k_extra "a") rfl | exact sh4 (by k_extra "a") rfl | exact sl1 (by k_extra "a") rfl | exact sl2 (by k_extra "a") rfl | exact sl3 (by k_extra "a") rfl | omega
  k_with "omega" => first | k_extra "a" | decide | exact Int.not_le.mp (by k_extra "a") | exact Int.not_lt.mp (by k_extra "a") | exact nUp (by k_extra "a") rfl | exact iDn (by k_extra "a") rfl | exact iUp (by k_extra "a") rfl | exact iUpLt (by k_extra "a") rfl | exact iDn (Int.add_le_add iLit iCast0) rfl | exact iDn iCast0 rfl | exact nUpLt (Nat.add_le_add (by k_extra "a") (Nat.le_refl _)) rfl | exact Nat.ne_of_lt (Nat.lt_succ_self _) | exact Ne.symm (Nat.ne_of_lt (Nat.lt_succ_self _)) | exact Nat.ne_of_lt (by k_extra "a") | exact Ne.symm (Nat.ne_of_lt (by k_extra "a")) | exact Ne.symm (Int.ne_of_lt (by k_extra "a")) | exact Int.not_le.mpr (iUpLt (iCast (by k_extra "a")) rfl) | lia
  k_with "my news" => first | k_asm | (refine cb_drop (by assumption) (by (intro p9 hp9;kst_mem)))
  k_with "ctr K" => first | exact rfl | assumption
  k_with "ctr D" => ((try simp only [depth_under_make,depth_under_kw,depth_in1,depth_deeper,depth_caller]);(try dsimp only [ktrTop]);k_extra "sh")
  k_with "ctr U" => ((try simp only [units_in1,units_deeper,Around.mark_units,units_caller]);(try dsimp only [ktrTop]);k_extra "sh")
  k_with "nmx" => (with_reducible show wpAny _ _ (eval _ (envX _ _ _ _ _ _)) _ _ _)
  k_with "^eval Name" => (k_here;k_extra "nmx";name_kind "globalImplicit";name_is_builtin;k_dflt (refine nameX_B (by k_asm) (by k_asm) (by k_asm) (by k_is) (by boot_fast) (by decide) ?_ (by rfl) (by kernel_rfl!));k_whole)
  k_with "^eval Name" => (k_here;k_extra "nmx";name_kind "globalImplicit";k_dflt (refine nameX_K (by k_asm) (by k_asm) (by k_asm) (by k_is) ?_ (by rfl) (by kernel_rfl!));k_whole)
  k_with "^eval Name" => (k_here;k_extra "nmx";name_kind "local";k_dflt (refine nmL (by rfl) (by rfl) (by k_asm) (by exact rfl) ?_);k_whole)
  k_with "call type:range" => ((rename Fr _ _ _ _=>f9);(rename News _ _ _ _=>n9);k_dflt (first | refine range1_rows f9 n9 ?_ | refine range2_rows f9 n9 ?_);intro _ _ _ _ _ _ _ _ _)
  k_with "call builtin:len" => ((with_reducible show wpAny _ _ (call (Value.builtin "len") [Value.str _ _]) _ _ _);refine SBL.len (by omega) ?_)
  k_with "ws here" => first | k_extra "a" | exact WsIn.mono (by k_extra "a") (by intro p hp;kst_mem)
  k_with "ctr back" => (intro r9 h9 tk9 hr9 F9 N9;obtain ⟨t9,hr9⟩ := hr9;subst hr9;(try dsimp only);(try k_fold))
  trivial
example:True := by
  k_with "^subscriptTail Name Constant ref int" => (k_here;k_dflt (refine item_tupleT (News.isTup (by k_asm) (by k_mem)) (by decide) (by decide) (by rfl) (by rfl) ?_);k_whole)
  k_with "^eval Name" => (k_extra "nmx";k_dflt (refine nmL (by kernel_rfl!) (by rfl) (by k_asm) (by first | (with_reducible assumption) | exact rfl | assumption) ?_);k_whole)
  k_with "eval ListComp" => (k_here;k_dflt (refine LCt.ListComp_T (F₀ := by k_asm) (by with_unfolding_all rfl) (by decide) (by rfl) (by decide) (by rfl) ?_))
  trivial
theorem nstage1 {w:World} {mean:ExcName→Option Value} {mg mb:Str→Option Value} {dp un:Nat} {gd:Option (List Code)} {a:Addr} {cd:Value} {A₀:Around} {base h₀:Heap} {L:Addr} {m:Str→Option Value} {s:Shared} {Q:Flow→Shared→Prop} {E:Value→Shared→Prop} {rest:List Stmt} {news:List (Addr × Obj)}
    {W:Nat→Str} {t0 t1 t2 t3:Tok} {lw lp lr:Addr} {nw np nr:Nat} {ps vs:List Value} {j:Nat} {tj:Tok} {v0 vj:Value} (hW:Leads W) (hj:j < 4) (hP0:WsIn w news v0 (wsOf (tx (W 0)))) (hPj:WsIn w news vj (wsOf (tx (W j)))) (p0:ps[0]? = some v0) (pj:ps[j]? = some vj)
    (B:Below A₀ base [] h₀) (F:Fr h₀ L s.heap m) (X:(topT.heap_39 w.params).In h₀) (N:News h₀ L s.heap news) (TT:Top topProg LG mean mg mb h₀) (hd:dp ≤ 310) (hu:un ≤ 1000)
    (hl:(lw,listOf #[.str (W 0) t0,.str (W 1) t1,.str (W 2) t2,.str (W 3) t3] nw) ∈ news) (mp:(lp,listOf ps.toArray np) ∈ news) (mr:(lr,listOf vs.toArray nr) ∈ news)
    (hda:DatAll news vs (witUpto (fun t=>indentOf (wsOf (tx (W 0))) t ≠ indentOf (wsOf (tx (W j))) t) (indentOf (wsOf (tx (W 0)))) (indentOf (wsOf (tx (W j)))) (topOf (wsOf (tx (W 0))) (wsOf (tx (W j)))).toNat))
    (eW:m "walk" = some (.ref lw)) (eP:m "page" = some (.ref lp)) (eK:m "k" = some (.int (j:Int) tj)) (eR:m "rows" = some (.ref lr))
    (k:∀ M h' tk',M ≤ 41→DatAll news vs ((sel (fun i=>colAt (W 0) i ≠ colAt (W j) i) (1 + M)).map (rowAt (W 0) (W j)))→Fr h₀ L h' m→News h₀ L h' news→wpAny (model PG w) (lawA dp un gd L a cd) (execs rest (lawEnv L a cd)) Q E { s with heap := h',toks := tk' }) :
    wpAny (model PG w) (lawA dp un gd L a cd) (execs (lawN1 :: lawN2 :: rest) (lawEnv L a cd)) Q E s := by
  intros w mean mg mb dp un gd a cd A₀ base h₀ L m s Q E rest news W t0 t1 t2 t3 lw lp lr nw np nr ps vs j tj v0 vj _ hW hj hP0 hPj p0 pj B F X N TT hd hu hl mp mr hda eW eP eK eR k
  revert X;unfold PG;k_fill;intro X
  unfold PG at k
  have hA0 := hP0
  obtain ⟨xx,dA,tpA,tcA,rawA,k1,k2,k3,k4,k5,tr,t2',t3',t4,vsA,hxx,mX,mD,mP,mC,hI⟩ := hA0
  subst hxx
  have l0 := hW.ln 0 (by exact (by decide))
  have lj := hW.ln j hj
  have s0 := hW.sg 0 (by exact (by decide))
  have sj := hW.sg j hj
  obtain ⟨tw9,wj⟩ := walk_item (W := W) (t0 := t0) (t1 := t1) (t2 := t2) (t3 := t3) hj
  k_with "^subscriptTail Name" => k_dflt (refine item_listL (News.isList (by k_asm) (by k_mem)) (by (first | exact (by decide) | exact (iDn iCast0 rfl))) (by (first | exact (by decide) | exact (iUpLt (iCast (nLt1 hj)) rfl))) (by first | exact p0 | exact pj | exact wj | rfl) ?_ (by with_unfolding_all rfl) (by intro _;with_unfolding_all rfl))
  k_with "call ref" => k_dflt (
    with_reducible show wpAny _ _ (call (Value.ref 171) _) _ _ _
    refine ctrO_use (by k_asm) (by k_asm) (by k_asm) (by k_asm) (by k_asm) (by walk_at "ctr K") (rows_tells (by exact (nUp l0 rfl)) (by exact (nUp lj rfl))) (by walk_at "ctr D") (by walk_at "ctr U") ?_
    intro r9 tlr9 h9 tk9 hW9 hf9 F9 N9
    obtain ⟨M,lz,vr,nz,hzv,hM,hM41,hlr,hvl,hdr⟩ := rows_open hW9
    subst hzv)
  k_with "call ref" => k_dflt (
    with_reducible show wpAny _ _ (call (Value.ref 93) _) _ _ _
    refine ctr_use (by k_asm) (by k_asm) (by k_asm) (by k_asm) (by k_asm) (by walk_at "ctr K") (equal_tells (hP0.mono (by intro p hp;kst_mem)) (hPj.mono (by intro p hp;kst_mem))) (by walk_at "ctr D") (by walk_at "ctr U") ?_
    intro r9 h9 tk9 hr9 F9 N9
    subst hr9)
  k_with "CompSrcT" => k_dflt (
    refine LCt.CompSrcT.ledger (its := vr.toArray) (k := nz) (by rfl) (by k_asm) (by k_asm) (by show (lz,listOf vr.toArray nz) ∈ _;k_mem) (by rw [List.size_toArray];unfold sizeLine;exact (nUp (Nat.le_trans (Nat.le_of_eq hvl) (Nat.add_le_add nLit hM41)) rfl)) ?_
    intro g'
    refine lt_rest (fun i=>colAt (W 0) i ≠ colAt (W j) i) (fun i y=>vr[i]? = some y) (.inr ⟨_,(by show (lz,listOf vr.toArray nz) ∈ _;k_mem),rfl,nz,rfl⟩) ?_ ?_ ?_
    intro i v I oI C oC D m₂ ys h tk E' hi hv hC hx F' N' off ne
    obtain ⟨tt,kt,t1,t2,t3,hv9,hmt⟩ := rows_meet hdr (show vr[i]? = some v by simpa using hv)
    subst hv9
    rotate_left
    intro i v I oI C oC D m₂ ys h tk E' hi hv hT hC hx F' N' off ne
    rotate_left
    intro ys hp9
    rotate_left)
  k_with "compareOp NotEq ref ref" => k_dflt (
    have hds := picked_dat hdr (by rw [List.size_toArray,hvl];exact Nat.le_refl _) hp9
    refine kqd_ne (by k_asm) (by k_mem) rfl rfl hda (by intro p hp;simp only [List.mem_cons,List.mem_append,hp,or_true,true_or]) (List.mem_cons_self) rfl rfl hds (by intro p hp;simp only [List.mem_cons,List.mem_append,hp,or_true,true_or]) (wit_row_ok _) rows_ok (by dsimp only [ktrTop];have := cLine_is;exact (nUpLt (Nat.add_le_add hu nLit) rfl)) ?_
    simp only [ne_rows s0 sj hM hvl,decide_true,Bool.not_true])
  k_with "compareOp Eq ref ref" => k_dflt (
    have hw0 := ne_rows s0 sj hM hvl
    have hw1 := equal_rows s0 sj hM (show vr.toArray.size = 1 + M by rw [List.size_toArray,hvl])
    rw [← hw0] at hw1
    refine kqd_eq (by k_asm) (by k_mem) rfl rfl hda (by intro p hp;simp only [List.mem_cons,List.mem_append,hp,or_true,true_or]) (by k_mem) rfl rfl (.nil) (fun _ h=>h) (wit_row_ok _) (by intro d hd;cases hd) (by dsimp only [ktrTop];have := cLine_is;exact (nUpLt (Nat.add_le_add hu nLit) rfl)) ?_
    simp only [← hw1])
  k_steps
  · exact TestE.intro (by k_asm) (by k_asm) (by rw [bne_iff_ne])
  · exact TEnd.intro (by k_asm) (by k_asm) (by simpa using hv)
  all_goals first
    | refine k M _ _ hM41 ?_ (by k_asm) (by walk_at "my news")
    | (rename_i hbad;simp at hbad)
  have hw9 := ne_rows s0 sj hM hvl
  rw [List.size_toArray,hvl] at hw9
  rw [hw9] at hda
  exact hda
theorem abs_is (x:Int):(if x < 0 then -x else x) = (x.natAbs:Int) := by split <;> (first | (first | exact Int.le_antisymm (bC (fk11 (Z3 V0 (Lg V1) (Z4 (Lg V1) V0 Lf)) rfl (Int.ofNat_natAbs_of_nonpos (bC (fk01 (Z1 V0 K0 (Z4 V0 K0 Lf)) rfl (by assumption)))))) (bC (fk11 (Z2 V0 (Lg V1) (Z4 V0 (Lg V1) Lf)) rfl (Int.ofNat_natAbs_of_nonpos (bC (fk01 (Z1 V0 K0 (Z4 V0 K0 Lf)) rfl (by assumption)))))) | exact Int.le_antisymm (bC (fk11 (Z3 V0 V1 (Z4 V1 V0 Lf)) rfl (Int.natAbs_of_nonneg (bC (fk01 (Z5 V0 K0 (Z4 K0 V0 Lf)) rfl (by assumption)))))) (bC (fk11 (Z2 V0 V1 (Z4 V0 V1 Lf)) rfl (Int.natAbs_of_nonneg (bC (fk01 (Z5 V0 K0 (Z4 K0 V0 Lf)) rfl (by assumption))))))) | omega)
theorem least_ok {a b:Str} {M:Int} {g:Nat→Nat} {n:Nat} (h:M ∈ [0] ++ List.map (fun i=>lstAt a b (g i)) (List.range n)) :
    LeastOk a b (if (if (wsOf (tx a)).n - (wsOf (tx a)).nt - ((wsOf (tx b)).n - (wsOf (tx b)).nt) < 0 then -((wsOf (tx a)).n - (wsOf (tx a)).nt - ((wsOf (tx b)).n - (wsOf (tx b)).nt)) else (wsOf (tx a)).n - (wsOf (tx a)).nt - ((wsOf (tx b)).n - (wsOf (tx b)).nt)) > M then
      if (wsOf (tx a)).n - (wsOf (tx a)).nt - ((wsOf (tx b)).n - (wsOf (tx b)).nt) < 0 then -((wsOf (tx a)).n - (wsOf (tx a)).nt - ((wsOf (tx b)).n - (wsOf (tx b)).nt)) else (wsOf (tx a)).n - (wsOf (tx a)).nt - ((wsOf (tx b)).n - (wsOf (tx b)).nt) else M) := by
  intro e he h1 h2
  rw [abs_is]
  unfold gapOf at h2
  have hM:M ≤ e := by
    rcases List.mem_append.mp h with h | h
    · rw [List.mem_singleton.mp h];exact he
    · obtain ⟨i,_,rfl⟩ := List.mem_map.mp h
      exact h1 _
  split <;> assumption
theorem row_dat {news:List (Addr × Obj)} {vs:List Value} {one other:Str} {pl:List Nat} (h:DatAll news vs (pl.map (rowAt one other))) {i:Nat} {v:Value} (hv:vs[i]? = some v) :
    RowV news v (1 + ((pl.getD i 0:Nat):Int)) (colAt one (pl.getD i 0)) (colAt other (pl.getD i 0)) := by
  have hl := h.length
  have hi:i < vs.length := (List.getElem?_eq_some_iff.mp hv).1
  obtain ⟨v',hv',hd⟩ := h.get (show i < (pl.map (rowAt one other)).length by rw [← hl];exact hi)
  rw [hv] at hv'
  cases hv'
  have hi2:i < pl.length := by rw [hl,List.length_map] at hi;exact hi
  rw [List.getElem_map] at hd
  have e:pl.getD i 0 = pl[i] := by simp [hi2]
  rw [e]
  obtain ⟨t,its,k,rfl,hm,t1,t2,t3,rfl⟩ := dat_tuple hd
  exact ⟨t,k,t1,t2,t3,rfl,hm⟩
example:True := by
  k_with "^subscriptTail Name Constant ref int" => (k_here;k_dflt (refine item_tupleT (News.isTup (by k_asm) (by k_mem)) (by decide) (by decide) (by rfl) (by rfl) ?_);k_whole)
  k_with "^eval Name" => (k_extra "nmx";k_dflt (refine nmL (by kernel_rfl!) (by rfl) (by k_asm) (by first | (with_reducible assumption) | exact rfl | assumption) ?_);k_whole)
  k_with "eval ListComp" => (k_here;k_dflt (refine ListComp_3 (F₀ := by k_asm) (by with_unfolding_all rfl) (by decide) (by rfl) (by decide) (by rfl) (by rfl) (by rfl) (by decide) ?_))
  trivial
theorem nstage3 {w:World} {mean:ExcName→Option Value} {mg mb:Str→Option Value} {dp un:Nat} {gd:Option (List Code)} {a:Addr} {cd:Value} {A₀:Around} {base h₀:Heap} {L:Addr} {m:Str→Option Value} {s:Shared} {Q:Flow→Shared→Prop} {E:Value→Shared→Prop} {rest:List Stmt} {news:List (Addr × Obj)}
    {W:Nat→Str} {lp lr:Addr} {np nr M:Nat} {ps vs:List Value} {j:Nat} {tj:Tok} {v0 vj:Value} (hW:Leads W) (hj:j < 4) (hM:M ≤ 41) (hP0:WsIn w news v0 (wsOf (tx (W 0)))) (hPj:WsIn w news vj (wsOf (tx (W j)))) (p0:ps[0]? = some v0) (pj:ps[j]? = some vj)
    (B:Below A₀ base [] h₀) (F:Fr h₀ L s.heap m) (X:(topT.heap_39 w.params).In h₀) (N:News h₀ L s.heap news) (TT:Top topProg LG mean mg mb h₀) (hd:dp ≤ 310) (hu:un ≤ 1000)
    (mp:(lp,listOf ps.toArray np) ∈ news) (mr:(lr,listOf vs.toArray nr) ∈ news) (hda:DatAll news vs ((sel (fun i=>colAt (W 0) i ≠ colAt (W j) i) (1 + M)).map (rowAt (W 0) (W j))))
    (eP:m "page" = some (.ref lp)) (eK:m "k" = some (.int (j:Int) tj)) (eR:m "rows" = some (.ref lr))
    (k:∀ q tq h' tk',LeastOk (W 0) (W j) q→Fr h₀ L h' (fun y=>if y = "least" then some (.int q tq) else m y)→News h₀ L h' news→wpAny (model PG w) (lawA dp un gd L a cd) (execs rest (lawEnv L a cd)) Q E { s with heap := h',toks := tk' }) :
    wpAny (model PG w) (lawA dp un gd L a cd) (execs (lawN3 :: lawN4 :: rest) (lawEnv L a cd)) Q E s := by
  intros w mean mg mb dp un gd a cd A₀ base h₀ L m s Q E rest news W lp lr np nr M ps vs j tj v0 vj _ hW hj hM hP0 hPj p0 pj B F X N TT hd hu mp mr hda eP eK eR k
  revert X;unfold PG;k_fill;intro X
  unfold PG at k
  have hvs:vs.length ≤ 42 := by
    rw [hda.length,List.length_map]
    unfold sel
    refine Nat.le_trans (List.length_filter_le _ _) ?_
    rw [List.length_range];exact (nUp (Nat.add_le_add nLit hM) rfl)
  have hpl:∀ i,(sel (fun i=>colAt (W 0) i ≠ colAt (W j) i) (1 + M)).getD i 0 ≤ 42 := fun i=>by
    by_cases q:i < (sel (fun i=>colAt (W 0) i ≠ colAt (W j) i) (1 + M)).length
    · have := (sel_mem.mp (List.getElem_mem q)).1
      simp only [List.getD,List.getElem?_eq_getElem q,Option.getD_some]
      exact (nUp (Nat.le_trans (nLt1 this) (Nat.sub_le_sub_right (Nat.add_le_add nLit hM) _)) rfl)
    · simp only [List.getD,List.getElem?_eq_none (Nat.le_of_not_lt q),Option.getD_none]
      exact (by decide)
  generalize sel (fun i=>colAt (W 0) i ≠ colAt (W j) i) (1 + M) = pl at hda hpl
  obtain ⟨x,d,tp,tc,raw,k1,k2,k3,k4,k5,tr,t2,t3,t4,ws,hx0,mX,mD,mP,mC,hI⟩ := hP0
  obtain ⟨x',d',tp',tc',raw',k1',k2',k3',k4',k5',tr',t2',t3',t4',ws',hx1,mX',mD',mP',mC',hI'⟩ := hPj
  subst hx0 hx1
  k_with "^subscriptTail Name" => k_dflt (refine item_listL (News.isList (by k_asm) (by k_mem)) (by (first | exact (by decide) | exact (iDn iCast0 rfl))) (by (first | exact (by decide) | exact (iUpLt (iCast (nLt1 hj)) rfl))) (by first | exact p0 | exact pj) ?_ (by with_unfolding_all rfl) (by intro _;with_unfolding_all rfl))
  k_with "Src3" => k_dflt (
    refine Src3.mk (its := vs.toArray) (k := nr) (fun i=>1 + ((pl.getD i 0:Nat):Int)) (fun i=>colAt (W 0) (pl.getD i 0)) (fun i=>colAt (W j) (pl.getD i 0)) (fun _=>True) (fun i y=>∃ t,y = Value.int (lstAt (W 0) (W j) (pl.getD i 0)) t) (by rfl) (by k_asm) (by k_asm) (by show (lr,listOf vs.toArray nr) ∈ _;k_mem) (by rw [List.size_toArray];unfold sizeLine;exact (nUp hvs rfl)) (fun i v hv=>row_dat (hda.mono (by intro p hp;kst_mem)) (by simpa using hv)) (fun g i t1 t2 t3 I oI C oC D oD m₂ h tk E' hi hC h1 h2 h3 F N off ne=>wpAny_tests_nil (TestE.intro F N ⟨fun _=>True.intro,fun _=>rfl⟩)) ?_ ?_
    intro g2 i t1 t2 t3 I2 oI2 C2 oC2 D2 oD2 m2 h2 tk2 E2 hi _ hC2 x1 x2 x3 F2 N2 off2 ne2
    generalize hpi:pl.getD i 0 = pi at x1 x2 x3 ⊢
    have hpz:(1 + (pi:Int)) ≠ 0 := by exact (Ne.symm (Int.ne_of_lt (iDnLt (Int.add_le_add iLit iCast0) rfl)))
    have hpb:pi ≤ 42 := by have := hpl i;exact (Nat.le_trans (Nat.le_of_eq (Eq.symm hpi)) this)
    rotate_left
    intro g2 ys2 hp2
    have hi9 := picked_ints hp2
    rotate_right)
  k_with "binaryOp Add ref ref" => k_dflt (
    refine add_arrays_ints (by k_asm) (by k_asm) (by exact led_list (by k_asm) (by k_mem)) (by exact led_list (by k_asm) (by k_mem)) (.cons 0 _ .nil) (by simpa using hi9) (fun h4 F4 N4 hi4=>?_) (by simp [sizeLine];exact (nUp (Nat.add_le_add nLit hvs) rfl)))
  k_steps
  · exact TEnd.intro (by k_asm) (by k_asm) ⟨_,by rw [abs_is];rfl⟩
  · exact k _ _ _ _ (least_ok (by assumption)) (fr_twice (by k_asm)) (by walk_at "my news")
example:True := by
  k_with "^subscriptTail Name Constant ref int" => (k_here;k_dflt (refine item_tupleT (News.isTup (by k_asm) (by k_mem)) (by decide) (by decide) (by rfl) (by rfl) ?_);k_whole)
  k_with "^eval Name" => (k_extra "nmx";k_dflt (refine nmL (by kernel_rfl!) (by rfl) (by k_asm) (by first | (with_reducible assumption) | exact rfl | assumption) ?_);k_whole)
  trivial
theorem told_zero {x:Int} {a b:Str} (h:x = 0 ↔ a = b) (hb:((x == 0) != (a == b)) = true):False := by
  rw [bne_iff_ne] at hb
  refine hb ?_
  rw [Bool.eq_iff_iff,beq_iff_eq,beq_iff_eq]
  exact h
theorem nstage5 {w:World} {mean:ExcName→Option Value} {mg mb:Str→Option Value} {dp un:Nat} {gd:Option (List Code)} {a:Addr} {cd:Value} {A₀:Around} {base h₀:Heap} {L:Addr} {m:Str→Option Value} {s:Shared} {Q:Flow→Shared→Prop} {E:Value→Shared→Prop} {rest:List Stmt} {news:List (Addr × Obj)}
    {U:Str} {W:Nat→Str} {t0 t1 t2 t3:Tok} {lw ln:Addr} {nw nk:Nat} {ks:List Value} {j:Nat} {tj tq tk0 tkj:Tok} {q n0 nj:Int} (hU:IsLead U) (hU5:(U.length:Int) ≤ 5) (hW:Leads W) (hWk:Walked W) (hj:j < 4) (hq:LeastOk (W 0) (W j) q) (hn0:NeedIs U (W 0) n0) (hnj:NeedIs U (W j) nj) (hk0:ks[0]? = some (.int n0 tk0)) (hkj:ks[j]? = some (.int nj tkj))
    (B:Below A₀ base [] h₀) (F:Fr h₀ L s.heap m) (X:(topT.heap_39 w.params).In h₀) (N:News h₀ L s.heap news) (TT:Top topProg LG mean mg mb h₀) (hd:dp ≤ 310) (hu:un ≤ 1000)
    (hl:(lw,listOf #[.str (W 0) t0,.str (W 1) t1,.str (W 2) t2,.str (W 3) t3] nw) ∈ news) (mn:(ln,listOf ks.toArray nk) ∈ news)
    (eW:m "walk" = some (.ref lw)) (eN:m "needs" = some (.ref ln)) (eK:m "k" = some (.int (j:Int) tj)) (eQ:m "least" = some (.int q tq))
    (k:∀ v h' tk',Fr h₀ L h' (fun y=>if y = "told" then v else m y)→News h₀ L h' news→wpAny (model PG w) (lawA dp un gd L a cd) (execs rest (lawEnv L a cd)) Q E { s with heap := h',toks := tk' }) :
    wpAny (model PG w) (lawA dp un gd L a cd) (execs (lawN5 :: lawN6 :: lawN7 :: rest) (lawEnv L a cd)) Q E s := by
  intros w mean mg mb dp un gd a cd A₀ base h₀ L m s Q E rest news U W t0 t1 t2 t3 lw ln nw nk ks j tj tq tk0 tkj q n0 nj _ hU hU5 hW hWk hj hq hn0 hnj hk0 hkj B F X N TT hd hu hl mn eW eN eK eQ k
  revert X;unfold PG;k_fill;intro X
  unfold PG at k
  have l0 := hW.ln 0 (by exact (by decide))
  have lj := hW.ln j hj
  have s0 := hW.sg 0 (by exact (by decide))
  have sj := hW.sg j hj
  have hnl := need_le hU5 hn0
  obtain ⟨tw9,wj⟩ := walk_item (W := W) (t0 := t0) (t1 := t1) (t2 := t2) (t3 := t3) hj
  obtain ⟨d,hD⟩ := dist_ex (tx (W 0)) (tx (W j))
  obtain ⟨e,he,he1,he2,he3⟩ := told_facts s0 sj hD
  obtain ⟨al,hal,hAl⟩ := walk_al hWk j (by exact (nUp (nLt1 hj) rfl))
  have hdl := hD.2 al hAl
  have hq9:q ≤ (e:Int) := hq e (by exact (iDn iCast0 rfl)) he1 he2
  have hL:levOf (tx (W 0)) (tx (W j)) (2 * (j:Int)) = 2 * (e:Int) := by
    rw [lev_le (by rw [tx_len];exact (nUp l0 rfl)) (by rw [tx_len];exact (nUp lj rfl)) hD (by exact (Int.le_trans hdl hal))];exact he
  k_with "^subscriptTail Name" => k_dflt (refine item_listL (News.isList (by k_asm) (by k_mem)) (by (first | exact (by decide) | exact (iDn iCast0 rfl))) (by (first | exact (by decide) | exact (iUpLt (iCast (nLt1 hj)) rfl))) (by first | exact hk0 | exact hkj | exact wj | rfl) ?_ (by with_unfolding_all rfl) (by intro _;with_unfolding_all rfl))
  k_with "call ref" => k_dflt (
    with_reducible show wpAny _ _ (call (Value.ref 142) [.str (W 0) _,.str (W j) _,_]) _ _ _
    refine ctr_use (by k_asm) (by k_asm) (by k_asm) (by k_asm) (by k_asm) (by walk_at "ctr K") (lev_tells (by exact (nUp l0 rfl)) (by exact (nUp lj rfl)) (by exact (iDn (iMulL iCast0 rfl) rfl)) (by exact (iUp (iMulL (iCast (nLt1 hj)) rfl) rfl))) (by walk_at "ctr D") (by walk_at "ctr U") ?_
    intro r9 h9 tk9 hr9 F9 N9
    obtain ⟨t9,hr9⟩ := hr9
    rw [hL] at hr9
    subst hr9)
  k_with "call ref" => k_dflt (
    with_reducible show wpAny _ _ (call (Value.ref 142) [.str (W j) _,.str (W 0) _,_]) _ _ _
    refine ctr_use (by k_asm) (by k_asm) (by k_asm) (by k_asm) (by k_asm) (by walk_at "ctr K") (lev_tells (by exact (nUp lj rfl)) (by exact (nUp l0 rfl)) (by exact (iDn (Int.sub_le_sub (iMulL hnl.1 rfl) iLit) rfl)) (by exact (iUp (Int.sub_le_sub (iMulL hnl.2 rfl) iLit) rfl))) (by walk_at "ctr D") (by walk_at "ctr U") ?_
    intro r9 h9 tk9 hr9 F9 N9
    obtain ⟨t9,hr9⟩ := hr9
    subst hr9)
  k_steps
  all_goals first
    | exact k _ _ _ (by k_asm) (by k_asm)
    | (rename (_ != _) = true=>hbad;exact (told_zero (he ▸ he3) hbad).elim)
    | (rename nj = 0=>hz;rename levOf _ _ _ < _=>hlt;subst hz;have := needs_far hU sj s0 (by exact (nUp lj rfl)) (by exact (nUp l0 rfl)) hnj hn0;exfalso;exact (Int.lt_irrefl _ (Int.lt_of_le_of_lt this hlt)))
end
section
example:True := by
  w_top off
  k_with_none
  k_with "a" => with_reducible assumption
  k_with "sh" => first | exact sh1 (by k_extra "a") rfl | exact sh2 (by k_extra "a") rfl | exact sh3 (by k_extra "a") rfl | exact sh4 (by k_extra "a") rfl | exact sl1 (by k_extra "a") rfl | exact sl2 (by k_extra "a") rfl | exact sl3 (by k_extra "a") rfl | omega
  k_with "omega" => first | k_extra "a" | decide | exact Int.not_le.mp (by k_extra "a") | exact Int.not_lt.mp (by k_extra "a") | exact nUp (by k_extra "a") rfl | exact iDn (by k_extra "a") rfl | exact iUp (by k_extra "a") rfl | exact iUpLt (by k_extra "a") rfl | exact iDn (Int.add_le_add iLit iCast0) rfl | exact iDn iCast0 rfl | exact nUpLt (Nat.add_le_add (by k_extra "a") (Nat.le_refl _)) rfl | exact Nat.ne_of_lt (Nat.lt_succ_self _) | exact Ne.symm (Nat.ne_of_lt (Nat.lt_succ_self _)) | exact Nat.ne_of_lt (by k_extra "a") | exact Ne.symm (Nat.ne_of_lt (by k_extra "a")) | exact Ne.symm (Int.ne_of_lt (by k_extra "a")) | exact Int.not_le.mpr (iUpLt (iCast (by k_extra "a")) rfl) | lia
  k_with "my news" => first | k_asm | (refine cb_drop (by assumption) (by (intro p9 hp9;kst_mem)))
  k_with "ctr K" => first | exact rfl | assumption
  k_with "ctr D" => ((try simp only [depth_under_make,depth_under_kw,depth_in1,depth_deeper,depth_caller]);(try dsimp only [ktrTop]);k_extra "sh")
  k_with "ctr U" => ((try simp only [units_in1,units_deeper,Around.mark_units,units_caller]);(try dsimp only [ktrTop]);k_extra "sh")
  k_with "nmx" => (with_reducible show wpAny _ _ (eval _ (envX _ _ _ _ _ _)) _ _ _)
  k_with "^eval Name" => (k_here;k_extra "nmx";name_kind "globalImplicit";name_is_builtin;k_dflt (refine nameX_B (by k_asm) (by k_asm) (by k_asm) (by k_is) (by boot_fast) (by decide) ?_ (by rfl) (by kernel_rfl!));k_whole)
  k_with "^eval Name" => (k_here;k_extra "nmx";name_kind "globalImplicit";k_dflt (refine nameX_K (by k_asm) (by k_asm) (by k_asm) (by k_is) ?_ (by rfl) (by kernel_rfl!));k_whole)
  k_with "^eval Name" => (k_here;k_extra "nmx";name_kind "local";k_dflt (refine nmL (by rfl) (by rfl) (by k_asm) (by exact rfl) ?_);k_whole)
  k_with "call type:range" => ((rename Fr _ _ _ _=>f9);(rename News _ _ _ _=>n9);k_dflt (first | refine range1_rows f9 n9 ?_ | refine range2_rows f9 n9 ?_);intro _ _ _ _ _ _ _ _ _)
  k_with "call builtin:len" => ((with_reducible show wpAny _ _ (call (Value.builtin "len") [Value.str _ _]) _ _ _);refine SBL.len (by omega) ?_)
  k_with "ws here" => first | k_extra "a" | exact WsIn.mono (by k_extra "a") (by intro p hp;kst_mem)
  k_with "ctr back" => (intro r9 h9 tk9 hr9 F9 N9;obtain ⟨t9,hr9⟩ := hr9;subst hr9;(try dsimp only);(try k_fold))
  trivial
theorem nturn {w:World} {mean:ExcName→Option Value} {mg mb:Str→Option Value} {dp un:Nat} {gd:Option (List Code)} {a:Addr} {cd:Value} {A₀:Around} {base h₀:Heap} {L:Addr} {m:Str→Option Value} {s:Shared} {Q:Flow→Shared→Prop} {E:Value→Shared→Prop} {news:List (Addr × Obj)}
    {U:Str} {W:Nat→Str} {t0 t1 t2 t3:Tok} {lw lp ln:Addr} {nw np nk:Nat} {ps ks:List Value} {j:Nat} {tj tk0 tkj:Tok} {n0 nj:Int} {v0 vj:Value} (hU:IsLead U) (hU5:(U.length:Int) ≤ 5) (hW:Leads W) (hWk:Walked W) (hj:j < 4)
    (hP0:WsIn w news v0 (wsOf (tx (W 0)))) (hPj:WsIn w news vj (wsOf (tx (W j)))) (p0:ps[0]? = some v0) (pj:ps[j]? = some vj) (hn0:NeedIs U (W 0) n0) (hnj:NeedIs U (W j) nj) (hk0:ks[0]? = some (.int n0 tk0)) (hkj:ks[j]? = some (.int nj tkj))
    (B:Below A₀ base [] h₀) (F:Fr h₀ L s.heap m) (X:(topT.heap_39 w.params).In h₀) (N:News h₀ L s.heap news) (TT:Top topProg LG mean mg mb h₀) (hd:dp ≤ 310) (hu:un ≤ 1000)
    (hl:(lw,listOf #[.str (W 0) t0,.str (W 1) t1,.str (W 2) t2,.str (W 3) t3] nw) ∈ news) (mp:(lp,listOf ps.toArray np) ∈ news) (mn:(ln,listOf ks.toArray nk) ∈ news)
    (eW:m "walk" = some (.ref lw)) (eP:m "page" = some (.ref lp)) (eN:m "needs" = some (.ref ln)) (eK:m "k" = some (.int (j:Int) tj))
    (k:∀ (m':Str→Option Value) h' tk',(∀ z:Str,z ≠ "rows" → z ≠ "least" → z ≠ "told" → m' z = m z)→Fr h₀ L h' m'→News h₀ L h' news→Q .next { s with heap := h',toks := tk' }) :
    wpAny (model PG w) (lawA dp un gd L a cd) (execs (lawN0 :: lawN1 :: lawN2 :: lawN3 :: lawN4 :: lawN5 :: lawN6 :: lawN7 :: []) (lawEnv L a cd)) Q E s := by
  intros w mean mg mb dp un gd a cd A₀ base h₀ L m s Q E news U W t0 t1 t2 t3 lw lp ln nw np nk ps ks j tj tk0 tkj n0 nj v0 vj _ hU hU5 hW hWk hj hP0 hPj p0 pj hn0 hnj hk0 hkj B F X N TT hd hu hl mp mn eW eP eN eK k
  refine nstage0 hW hj hP0 hPj p0 pj B F X N TT hd hu mp eP eK ?_
  intro lr vs nr tl h1 tk1 hlr hda hf F1 N1
  have sub1:∀ p ∈ news,p ∈ tl ++ news := fun p hp=>List.mem_append_right _ hp
  refine nstage1 hW hj (hP0.mono sub1) (hPj.mono sub1) p0 pj B F1 X N1 TT hd hu (sub1 _ hl) (sub1 _ mp) (List.mem_append_left _ hlr) (hda.mono fun p hp=>List.mem_append_left _ hp) (by exact eW) (by exact eP) (by exact eK) (by rfl) ?_
  intro M h2 tk2 hM hda2 F2 N2
  refine nstage3 hW hj hM (hP0.mono sub1) (hPj.mono sub1) p0 pj B F2 X N2 TT hd hu (sub1 _ mp) (List.mem_append_left _ hlr) hda2 (by exact eP) (by exact eK) (by rfl) ?_
  intro q tq h3 tk3 hq F3 N3
  refine nstage5 hU hU5 hW hWk hj hq hn0 hnj hk0 hkj B F3 X N3 TT hd hu (sub1 _ hl) (sub1 _ mn) (by exact eW) (by exact eN) (by exact eK) (by rfl) ?_
  intro v h4 tk4 F4 N4
  refine wpAny_execs_nil ?_
  exact k _ h4 tk4 (fun z z1 z2 z3=>by simp only [if_neg z1,if_neg z2,if_neg z3]) F4 (cb_drop N4 sub1)
noncomputable abbrev markSt:List Str := [Str.ofString "rows",Str.ofString "least",Str.ofString "told"]
theorem mark_off {z:Str} (h:List.contains markSt z = false):z ≠ "rows" ∧ z ≠ "least" ∧ z ≠ "told" := by
  simp only [markSt,List.contains_cons,List.contains_nil,Bool.or_eq_false_iff,beq_eq_false_iff_ne,Bool.or_false] at h
  exact ⟨h.1,h.2.1,h.2.2⟩
theorem stage14 {w:World} {mean:ExcName→Option Value} {mg mb:Str→Option Value} {dp un:Nat} {gd:Option (List Code)} {a:Addr} {cd:Value} {A₀:Around} {base h₀:Heap} {L:Addr} {m:Str→Option Value} {s:Shared} {Q:Flow→Shared→Prop} {E:Value→Shared→Prop} {rest:List Stmt} {news:List (Addr × Obj)}
    {U:Str} {W:Nat→Str} {t0 t1 t2 t3:Tok} {lw lp ln:Addr} {nw np nk:Nat} {ps ks:List Value} (hU:IsLead U) (hU5:(U.length:Int) ≤ 5) (hW:Leads W) (hWk:Walked W)
    (hP:∀ (i:Nat) y,ps[i]? = some y→WsIn w news y (wsOf (tx (W i)))) (hK:∀ (i:Nat) y,ks[i]? = some y→∃ k t,y = .int k t ∧ NeedIs U (W i) k) (lpl:ps.length = 4) (lnl:ks.length = 4)
    (B:Below A₀ base [] h₀) (F:Fr h₀ L s.heap m) (X:(topT.heap_39 w.params).In h₀) (N:News h₀ L s.heap news) (TT:Top topProg LG mean mg mb h₀) (hd:dp ≤ 310) (hu:un ≤ 1000) (hE:PassesOwn (model PG w) (lawA dp un gd L a cd) (lawEnv L a cd) E)
    (hl:(lw,listOf #[.str (W 0) t0,.str (W 1) t1,.str (W 2) t2,.str (W 3) t3] nw) ∈ news) (mp:(lp,listOf ps.toArray np) ∈ news) (mn:(ln,listOf ks.toArray nk) ∈ news)
    (eW:m "walk" = some (.ref lw)) (eP:m "page" = some (.ref lp)) (eN:m "needs" = some (.ref ln))
    (k:∀ (m':Str→Option Value) h' tk',(∀ z:Str,z ≠ "k" → List.contains markSt z = false→m' z = m z)→Fr h₀ L h' m'→News h₀ L h' news→wpAny (model PG w) (lawA dp un gd L a cd) (execs rest (lawEnv L a cd)) Q E { s with heap := h',toks := tk' }) :
    wpAny (model PG w) (lawA dp un gd L a cd) (execs (lawS14 :: rest) (lawEnv L a cd)) Q E s := by
  intros w mean mg mb dp un gd a cd A₀ base h₀ L m s Q E rest news U W t0 t1 t2 t3 lw lp ln nw np nk ps ks _ hU hU5 hW hWk hP hK lpl lnl B F X N TT hd hu hE hl mp mn eW eP eN k
  have hX := X
  revert X;unfold PG;k_fill;intro X
  unfold PG at k hE
  refine wpAny_execs_cons ?_
  refine For_invVF F (by exact rfl) (by exact rfl) ?_ (hE := hE)
  k_with "pyIter ref" => k_dflt (
    refine my_static (n := 3) (fun _=>True) markSt (by rfl) (by assumption) (by decide) (by decide) (by k_asm) (by k_asm) True.intro ?_ ?_
    intro i t u h tk own hi hoff _ F₁ N₁
    have e1:(1:Int) + (i:Int) = ((1 + i:Nat):Int) := by exact rfl
    rw [e1] at F₁
    obtain ⟨v0,hv0⟩ := get_lt lpl (show 0 < 4 by exact (by decide))
    obtain ⟨vj,hvj⟩ := get_lt lpl (show 1 + i < 4 by exact (nUpLt (Nat.add_le_add nLit (nLt1 hi)) rfl))
    obtain ⟨c0,hc0⟩ := get_lt lnl (show 0 < 4 by exact (by decide))
    obtain ⟨cj,hcj⟩ := get_lt lnl (show 1 + i < 4 by exact (nUpLt (Nat.add_le_add nLit (nLt1 hi)) rfl))
    obtain ⟨n0,q0,e0,hn0⟩ := hK 0 c0 hc0
    obtain ⟨nj,qj,ej,hnj⟩ := hK (1 + i) cj hcj
    subst e0 ej
    have sub:∀ p ∈ news,p ∈ news ++ own := fun p hp=>List.mem_append_left _ hp
    refine nturn (s := { s with heap := h,toks := tk }) (j := 1 + i) hU hU5 hW hWk (by exact (nUpLt (Nat.add_le_add nLit (nLt1 hi)) rfl)) ((hP 0 v0 hv0).mono sub) ((hP (1 + i) vj hvj).mono sub) hv0 hvj hn0 hnj hc0 hcj B F₁ hX N₁ TT hd hu (sub _ hl) (sub _ mp) (sub _ mn) (by exact eW) (by exact eP) (by exact eN) (by rfl) ?_
    intro m2 h2 tk2 hm2 F2 N2
    refine st_end F2 N2 sub (fun p hp=>List.mem_append_right _ hp) hoff True.intro ?_
    intro z z1 _ z2
    obtain ⟨y1,y2,y3⟩ := mark_off z2
    rw [hm2 z y1 y2 y3]
    simp only [if_neg z1,z2,if_false,Bool.false_eq_true]
    intro u h tk _ F₁ N₁
    refine k _ h tk ?_ F₁ N₁
    intro z z1 z2
    simp only [if_neg z1,z2,if_false,Bool.false_eq_true])
  k_steps
end
section
example:True := by
  w_top off
  k_with_none
  k_with "a" => with_reducible assumption
  k_with "sh" => first | exact sh1 (by k_extra "a") rfl | exact sh2 (by k_extra "a") rfl | exact sh3 (by k_extra "a") rfl | exact sh4 (by k_extra "a") rfl | exact sl1 (by k_extra "a") rfl | exact sl2 (by k_extra "a") rfl | exact sl3 (by k_extra "a") rfl | omega
  k_with "omega" => first | k_extra "a" | decide | exact Int.not_le.mp (by k_extra "a") | exact Int.not_lt.mp (by k_extra "a") | exact nUp (by k_extra "a") rfl | exact iDn (by k_extra "a") rfl | exact iUp (by k_extra "a") rfl | exact iUpLt (by k_extra "a") rfl | exact iDn (Int.add_le_add iLit iCast0) rfl | exact iDn iCast0 rfl | exact nUpLt (Nat.add_le_add (by k_extra "a") (Nat.le_refl _)) rfl | exact Nat.ne_of_lt (Nat.lt_succ_self _) | exact Ne.symm (Nat.ne_of_lt (Nat.lt_succ_self _)) | exact Nat.ne_of_lt (by k_extra "a") | exact Ne.symm (Nat.ne_of_lt (by k_extra "a")) | exact Ne.symm (Int.ne_of_lt (by k_extra "a")) | exact Int.not_le.mpr (iUpLt (iCast (by k_extra "a")) rfl) | lia
  k_with "my news" => first | k_asm | (refine cb_drop (by assumption) (by (intro p9 hp9;kst_mem)))
  k_with "ctr K" => first | exact rfl | assumption
  k_with "ctr D" => ((try simp only [depth_under_make,depth_under_kw,depth_in1,depth_deeper,depth_caller]);(try dsimp only [ktrTop]);k_extra "sh")
  k_with "ctr U" => ((try simp only [units_in1,units_deeper,Around.mark_units,units_caller]);(try dsimp only [ktrTop]);k_extra "sh")
  k_with "nmx" => (with_reducible show wpAny _ _ (eval _ (envX _ _ _ _ _ _)) _ _ _)
  k_with "^eval Name" => (k_here;k_extra "nmx";name_kind "globalImplicit";name_is_builtin;k_dflt (refine nameX_B (by k_asm) (by k_asm) (by k_asm) (by k_is) (by boot_fast) (by decide) ?_ (by rfl) (by kernel_rfl!));k_whole)
  k_with "^eval Name" => (k_here;k_extra "nmx";name_kind "globalImplicit";k_dflt (refine nameX_K (by k_asm) (by k_asm) (by k_asm) (by k_is) ?_ (by rfl) (by kernel_rfl!));k_whole)
  k_with "^eval Name" => (k_here;k_extra "nmx";name_kind "local";k_dflt (refine nmL (by rfl) (by rfl) (by k_asm) (by exact rfl) ?_);k_whole)
  k_with "call type:range" => ((rename Fr _ _ _ _=>f9);(rename News _ _ _ _=>n9);k_dflt (first | refine range1_rows f9 n9 ?_ | refine range2_rows f9 n9 ?_);intro _ _ _ _ _ _ _ _ _)
  k_with "call builtin:len" => ((with_reducible show wpAny _ _ (call (Value.builtin "len") [Value.str _ _]) _ _ _);refine SBL.len (by omega) ?_)
  k_with "ws here" => first | k_extra "a" | exact WsIn.mono (by k_extra "a") (by intro p hp;kst_mem)
  k_with "ctr back" => (intro r9 h9 tk9 hr9 F9 N9;obtain ⟨t9,hr9⟩ := hr9;subst hr9;(try dsimp only);(try k_fold))
  trivial
example:True := by
  k_with "^eval Name" => (k_extra "nmx";k_dflt (refine nmL (by kernel_rfl!) (by rfl) (by k_asm) (by first | (with_reducible assumption) | exact rfl | assumption) ?_);k_whole)
  k_with "^eval Name" => (k_extra "nmx";k_dflt (refine nmC (by kernel_rfl!) (by rfl) (by k_asm) (by rfl) (by with_reducible assumption) (by with_reducible assumption) ?_);k_whole)
  trivial
theorem stage15 {w:World} {mean:ExcName→Option Value} {mg mb:Str→Option Value} {dp un:Nat} {gd:Option (List Code)} {a:Addr} {cd:Value} {A₀:Around} {base h₀:Heap} {L:Addr} {m:Str→Option Value} {s:Shared} {Q:Flow→Shared→Prop} {E:Value→Shared→Prop} {news:List (Addr × Obj)} {oU:Obj} {tU:Tok}
    {U:Str} {W:Nat→Str} {t0 t1 t2 t3 tb:Tok} {lw:Addr} {nw:Nat} {bd:Int} (hU:IsLead U) (hU5:(U.length:Int) ≤ 5) (hW:Leads W) (hW4:((W 0).length:Int) ≤ 4) (hb0:-2 ≤ bd) (hb1:bd ≤ 11)
    (B:Below A₀ base [] h₀) (F:Fr h₀ L s.heap m) (X:(topT.heap_39 w.params).In h₀) (N:News h₀ L s.heap news) (TT:Top topProg LG mean mg mb h₀) (hd:dp ≤ 310) (hu:un ≤ 1000)
    (cU:(L + 1,oU) ∈ news) (dU:oU.data = .cell (some (.str U tU))) (hl:(lw,listOf #[.str (W 0) t0,.str (W 1) t1,.str (W 2) t2,.str (W 3) t3] nw) ∈ news) (eW:m "walk" = some (.ref lw)) (eB:m "bound" = some (.int bd tb))
    (k:∀ (m':Str→Option Value) h' tk',Fr h₀ L h' m'→News h₀ L h' news→Q (.ret (.bool true)) { s with heap := h',toks := tk' }) :
    wpAny (model PG w) (lawA dp un gd L a cd) (execs (lawS15 :: lawS16 :: lawS17 :: lawS18 :: []) (lawEnv L a cd)) Q E s := by
  intros w mean mg mb dp un gd a cd A₀ base h₀ L m s Q E news oU tU U W t0 t1 t2 t3 tb lw nw bd _ hU hU5 hW hW4 hb0 hb1 B F X N TT hd hu cU dU hl eW eB k
  revert X;unfold PG;k_fill;intro X
  have l0:(W 0).length ≤ 4 := by exact (nUp (nOfI hW4) rfl)
  have s0 := hW.sg 0 (by exact (by decide))
  k_with "^subscriptTail Name" => k_dflt (refine item_listL (News.isList (by k_asm) (by k_mem)) (by exact (by decide)) (by exact (by decide)) (by rfl) ?_ (by with_unfolding_all rfl) (by intro _;with_unfolding_all rfl))
  k_with "call ref" => k_dflt (
    with_reducible show wpAny _ _ (call (Value.ref 142) [.str U _,.str (W 0) _,_]) _ _ _
    refine ctr_use (by k_asm) (by k_asm) (by k_asm) (by k_asm) (by k_asm) (by walk_at "ctr K") (lev_tells (by exact (nUp (nOfI hU5) rfl)) (by exact (nUp l0 rfl)) (by exact (iDn hb0 rfl)) (by exact (iUp hb1 rfl))) (by walk_at "ctr D") (by walk_at "ctr U") ?_
    intro r9 h9 tk9 hr9 F9 N9
    obtain ⟨t9,hr9⟩ := hr9
    generalize hlv:levOf (tx U) (tx (W 0)) bd = lv at *
    have hle1 := (due_told (mc := bd) (by exact (nUp (nOfI hU5) rfl)) (by exact (nUp l0 rfl)) hn9.2).1
    subst hr9)
  k_with "call ref" => k_dflt (
    with_reducible show wpAny _ _ (call (Value.ref 142) [.str (W 0) _,.str U _,_]) _ _ _
    refine ctr_use (by k_asm) (by k_asm) (by k_asm) (by k_asm) (by k_asm) (by walk_at "ctr K") (lev_tells (by exact (nUp l0 rfl)) (by exact (nUp (nOfI hU5) rfl)) (by exact (iDn (iMulL iCast0 rfl) rfl)) (by exact (iUp (iMulL (iCast hn9.1) rfl) rfl))) (by walk_at "ctr D") (by walk_at "ctr U") ?_
    intro r9 h9 tk9 hr9 F9 N9
    obtain ⟨t9,hr9⟩ := hr9
    rw [(due_told (mc := bd) (by exact (nUp (nOfI hU5) rfl)) (by exact (nUp l0 rfl)) hn9.2).2] at hr9
    subst hr9)
  k_with "call ref" => k_dflt (
    with_reducible show wpAny _ _ (call (Value.ref 176) [.str U _,.str (W 0) _]) _ _ _
    refine ctr_use (by k_asm) (by k_asm) (by k_asm) (by k_asm) (by k_asm) (by walk_at "ctr K") (strokes_tells (by exact (nUp (nOfI hU5) rfl)) (by exact l0)) (by walk_at "ctr D") (by walk_at "ctr U") ?_
    intro r9 h9 tk9 hr9 F9 N9
    obtain ⟨n9,t9,hr9,hf9⟩ := hr9
    have hn9 := hit_dist (by rw [tx_len];exact (nUp (nOfI hU5) rfl)) (by rw [tx_len];exact l0) hU s0 hf9
    subst hr9)
  k_steps
  all_goals first
    | (rw [beq_self_eq_true];exact k _ _ _ (by k_asm) (by walk_at "my news"))
    | (exfalso;omega)
end
section
example:True := by
  w_top off
  k_with_none
  k_with "a" => with_reducible assumption
  k_with "sh" => first | exact sh1 (by k_extra "a") rfl | exact sh2 (by k_extra "a") rfl | exact sh3 (by k_extra "a") rfl | exact sh4 (by k_extra "a") rfl | exact sl1 (by k_extra "a") rfl | exact sl2 (by k_extra "a") rfl | exact sl3 (by k_extra "a") rfl | omega
  k_with "omega" => first | k_extra "a" | decide | exact Int.not_le.mp (by k_extra "a") | exact Int.not_lt.mp (by k_extra "a") | exact nUp (by k_extra "a") rfl | exact iDn (by k_extra "a") rfl | exact iUp (by k_extra "a") rfl | exact iUpLt (by k_extra "a") rfl | exact iDn (Int.add_le_add iLit iCast0) rfl | exact iDn iCast0 rfl | exact nUpLt (Nat.add_le_add (by k_extra "a") (Nat.le_refl _)) rfl | exact Nat.ne_of_lt (Nat.lt_succ_self _) | exact Ne.symm (Nat.ne_of_lt (Nat.lt_succ_self _)) | exact Nat.ne_of_lt (by k_extra "a") | exact Ne.symm (Nat.ne_of_lt (by k_extra "a")) | exact Ne.symm (Int.ne_of_lt (by k_extra "a")) | exact Int.not_le.mpr (iUpLt (iCast (by k_extra "a")) rfl) | lia
  k_with "my news" => first | k_asm | (refine cb_drop (by assumption) (by (intro p9 hp9;kst_mem)))
  k_with "ctr K" => first | exact rfl | assumption
  k_with "ctr D" => ((try simp only [depth_under_make,depth_under_kw,depth_in1,depth_deeper,depth_caller]);(try dsimp only [ktrTop]);k_extra "sh")
  k_with "ctr U" => ((try simp only [units_in1,units_deeper,Around.mark_units,units_caller]);(try dsimp only [ktrTop]);k_extra "sh")
  k_with "nmx" => (with_reducible show wpAny _ _ (eval _ (envX _ _ _ _ _ _)) _ _ _)
  k_with "^eval Name" => (k_here;k_extra "nmx";name_kind "globalImplicit";name_is_builtin;k_dflt (refine nameX_B (by k_asm) (by k_asm) (by k_asm) (by k_is) (by boot_fast) (by decide) ?_ (by rfl) (by kernel_rfl!));k_whole)
  k_with "^eval Name" => (k_here;k_extra "nmx";name_kind "globalImplicit";k_dflt (refine nameX_K (by k_asm) (by k_asm) (by k_asm) (by k_is) ?_ (by rfl) (by kernel_rfl!));k_whole)
  k_with "^eval Name" => (k_here;k_extra "nmx";name_kind "local";k_dflt (refine nmL (by rfl) (by rfl) (by k_asm) (by exact rfl) ?_);k_whole)
  k_with "call type:range" => ((rename Fr _ _ _ _=>f9);(rename News _ _ _ _=>n9);k_dflt (first | refine range1_rows f9 n9 ?_ | refine range2_rows f9 n9 ?_);intro _ _ _ _ _ _ _ _ _)
  k_with "call builtin:len" => ((with_reducible show wpAny _ _ (call (Value.builtin "len") [Value.str _ _]) _ _ _);refine SBL.len (by omega) ?_)
  k_with "ws here" => first | k_extra "a" | exact WsIn.mono (by k_extra "a") (by intro p hp;kst_mem)
  k_with "ctr back" => (intro r9 h9 tk9 hr9 F9 N9;obtain ⟨t9,hr9⟩ := hr9;subst hr9;(try dsimp only);(try k_fold))
  trivial
theorem list_ne {h₀ h:Heap} {L a:Addr} {vs ps:Array Value} {n:Nat} {news:List (Addr × Obj)} (N:News h₀ L h news) (ha:(a,listOf vs n) ∈ news) (hb:(123,tabObj ps) ∈ news):a ≠ 123 := by
  intro e
  subst e
  have h1 := (N _ ha).1
  have h2 := (N _ hb).1
  have h3 := congrArg Obj.cls (Option.some.inj (h1.symm.trans h2))
  exact absurd h3 (by intro h;cases h)
theorem lead_ln {W:Nat→Str} (h0:((W 0).length:Int) ≤ 4) (h:Walked W):∀ i,i < 4→(W i).length ≤ 4 + i
  | 0,_=>by exact (nUp (nOfI h0) rfl)
  | i + 1,hi=>by
    have h1 := lead_ln h0 h i (bC (fk10 (Z7 (La V0 K1) (Lk 4) (Z11 V0 (Lk 4) Lf)) rfl hi))
    have h2 := (h i (bC (fk10 (Z7 (La V0 K1) (Lk 4) (Z11 V0 (Lk 3) Lf)) rfl hi))).2.2
    exact bC (fk30 (Z6 V0 (La V1 K1) (Z6 V1 (La (Lk 4) V2) (Z10 V0 (La (Lk 4) (La V2 K1)) Lf))) rfl h2 h1)
theorem lead_sg {W:Nat→Str} (h0:IsLead (W 0)) (h:Walked W):∀ i,i < 4→IsLead (W i)
  | 0,_=>h0
  | i + 1,hi=>(h i (bC (fk10 (Z7 (La V0 K1) (Lk 4) (Z11 V0 (Lk 3) Lf)) rfl hi))).2.1 (lead_sg h0 h i (bC (fk10 (Z7 (La V0 K1) (Lk 4) (Z11 V0 (Lk 4) Lf)) rfl hi)))
theorem law_walk {w:World} {mean:ExcName→Option Value} {mg mb:Str→Option Value} {dp un:Nat} {gd:Option (List Code)} {a:Addr} {cd:Value} {A₀:Around} {base h₀:Heap} {L:Addr} {m:Str→Option Value} {s:Shared} {Q:Flow→Shared→Prop} {E:Value→Shared→Prop} {l:Addr} {vs:List Value} {ns:List Int} {o1 o2:Obj}
    (HL:base.IsList l vs.toArray) (hi:IntsAre vs ns) (hln:ns.length ≤ 63) (B:Below A₀ base [] h₀) (F:Fr h₀ L s.heap m) (X:(topT.heap_39 w.params).In h₀) (N:News h₀ L s.heap [(L + 1 + 1,o2),(L + 1,o1),(123,tabObj #[])]) (TT:Top topProg LG mean mg mb h₀) (hd:dp ≤ 310) (hu:un ≤ 1000) (hE:PassesOwn (model PG w) (lawA dp un gd L a cd) (lawEnv L a cd) E)
    (HC:CodeHd base 127 123) (hg:BareG s.gens) (d1:o1.data = .cell none) (d2:o2.data = .cell none) (hs:m "script" = some (.ref l)) (h123:123 < L)
    (k:∀ (m':Str→Option Value) h' tk' gs' (ps:Array Value),BareG gs'→Fr h₀ L h' m'→News h₀ L h' [(123,tabObj ps)]→Q (.ret (.bool true)) { s with heap := h',toks := tk',gens := gs' }) :
    wpAny (model PG w) (lawA dp un gd L a cd) (execs (lawS0 :: lawS1 :: lawS2 :: lawS3 :: lawS4 :: lawS5 :: lawS6 :: lawS7 :: lawS8 :: lawS9 :: lawS10 :: lawS11 :: lawS12 :: lawS13 :: lawS14 :: lawS15 :: lawS16 :: lawS17 :: lawS18 :: []) (lawEnv L a cd)) Q E s := by
  refine stage0 HL hi hln B F X N TT hd hu d1 hs ?_ ?_
  · intro q hq
    rcases List.mem_cons.mp hq with rfl | hq
    · exact Nat.succ_ne_self _
    · rw [List.mem_singleton.mp hq]
      exact Nat.ne_of_lt (Nat.lt_succ_of_lt h123)
  intro U tu oU h1 tk1 hU hU5 dU F1 N1
  refine stage1 HL hi hln B F1 X N1 TT hd hu hs ?_
  intro lw W0 t0 nw st ts h2 tk2 hW0 hW4 hlt F2 N2
  refine stage3 hW0 hW4 hlt B F2 X N2 TT hd hu hE (by rfl) (by rfl) ?_
  intro W1 W2 W3 t0 t1 t2 t3 nw u h3 tk3 k1 k2 k3 F3 N3
  obtain ⟨W,rfl,rfl,rfl,rfl⟩:∃ W:Nat→Str,W 0 = W0 ∧ W 1 = W1 ∧ W 2 = W2 ∧ W 3 = W3 := ⟨fun i=>match i with | 0=>W0 | 1=>W1 | 2=>W2 | _=>W3,rfl,rfl,rfl,rfl⟩
  have hWk:Walked W := fun j hj=>by
    rcases j with _ | _ | _ | j
    · exact k1
    · exact k2
    · exact k3
    · lia
  have hW:Leads W := ⟨lead_sg hW0 hWk,fun i hi=>by have := lead_ln hW4 hWk i hi;exact (nUp (Nat.le_trans this (Nat.add_le_add nLit (nLt1 hi))) rfl)⟩
  have hlw2:L + 1 + 1 < lw := hlt _ (.head _)
  have hlw1:L + 1 < lw := hlt _ (.tail _ (.head _))
  have N3':News h₀ L h3 ((L + 1 + 1,o2) :: (lw,listOf #[.str (W 0) t0,.str (W 1) t1,.str (W 2) t2,.str (W 3) t3] nw) :: (L + 1,oU) :: [(123,tabObj #[])]) := cb_drop N3 (fun p hp=>by
    simp only [List.mem_cons,List.not_mem_nil,or_false] at hp ⊢
    rcases hp with q | q | q | q <;> simp [q])
  refine stage4 HL hi hln B F3 X N3' TT hd hu ?_ d2 hs ?_
  · intro q hq
    rcases List.mem_cons.mp hq with rfl | hq
    · exact Nat.ne_of_gt hlw2
    rcases List.mem_cons.mp hq with rfl | hq
    · exact Nat.ne_of_lt (Nat.lt_succ_self _)
    · rw [List.mem_singleton.mp hq]
      exact Nat.ne_of_lt (Nat.lt_succ_of_lt (Nat.lt_succ_of_lt h123))
  intro T tT oT n tn bd tb h4 tk4 hTc hn28 hbd dT F4 N4
  have hT := tail_ok hTc
  have hTo := okT_tail hTc
  have hb0:-2 ≤ bd := by have := Int.fmod_nonneg_of_pos (Int.fdiv n 4) (show (0:Int) < 14 by decide);exact (iDn (Int.le_trans (Int.sub_le_sub this iLit) (Int.le_of_eq (Eq.symm hbd))) rfl)
  have hb1:bd ≤ 11 := by have := Int.fmod_lt_of_pos (Int.fdiv n 4) (show (0:Int) < 14 by decide);exact (iUp (Int.le_trans (Int.le_of_eq hbd) (Int.sub_le_sub (iLt1 this) iLit)) rfl)
  refine stage7 hU hU5 hT B F4 X N4 TT hd hu (by k_mem) dU (by k_mem) dT ?_
  intro x tl7 h7 tk7 hA f7 F7 N7
  generalize hrA:([(L + 1 + 1,oT),(lw,listOf #[.str (W 0) t0,.str (W 1) t1,.str (W 2) t2,.str (W 3) t3] nw),(L + 1,oU)]:List (Addr × Obj)) = rA
  have N7':News h₀ L h7 (tl7 ++ (rA ++ [(123,tabObj #[])])) := by rw [← hrA];exact N7
  have f7':Fresh tl7 (rA ++ [(123,tabObj #[])]) := by rw [← hrA];exact f7
  have mT:(L + 1 + 1,oT) ∈ rA := by rw [← hrA];k_mem
  have mW:(lw,listOf #[.str (W 0) t0,.str (W 1) t1,.str (W 2) t2,.str (W 3) t3] nw) ∈ rA := by rw [← hrA];k_mem
  have mU:(L + 1,oU) ∈ rA := by rw [← hrA];k_mem
  have oA:∀ q ∈ rA,q.1 ≠ 123 := by
    rw [← hrA]
    intro q hq
    rcases List.mem_cons.mp hq with rfl | hq
    · exact Nat.ne_of_gt (Nat.lt_succ_of_lt (Nat.lt_succ_of_lt h123))
    rcases List.mem_cons.mp hq with rfl | hq
    · exact Nat.ne_of_gt (Nat.lt_trans (Nat.lt_succ_of_lt h123) hlw1)
    · rw [List.mem_singleton.mp hq]
      exact Nat.ne_of_gt (Nat.lt_succ_of_lt h123)
  clear hrA N7 f7
  refine stage8 hW hT B F7 X N7' TT hd hu (by k_mem) dT (by k_mem) (by rfl) ?_
  intro lp ps np tl8 h8 tk8 hpl hP f8 F8 N8
  refine stage9 hW hU5 B F8 X N8 TT hd hu (by k_mem) dU (by k_mem) (by rfl) ?_
  intro lt zs nt tl9 h9 tk9 hzl hZ f9 F9 N9
  refine stage10 hzl (fun i y hy=>(hZ i y hy).mono fun p hp=>by kst_mem) B F9 X N9 TT hd hu (by k_mem) (by rfl) ?_
  intro ln ks nk h10 tk10 hkl hK F10 N10
  refine stage11 hU hU5 hW (hA.mono fun p hp=>by kst_mem) (fun i y hy=>(hP i y hy).mono fun p hp=>by kst_mem) (fun i y hy=>(hZ i y hy).mono fun p hp=>by kst_mem) hK hpl hzl hkl B F10 X N10 TT hd hu hE (by k_mem) (by k_mem) (by k_mem) (by rfl) (by rfl) (by rfl) (by rfl) ?_
  intro u11 h11 tk11 F11 N11
  generalize hnw:(ln,listOf ks.toArray nk) :: (lt,listOf zs.toArray nt) :: (tl9 ++ (lp,listOf ps.toArray np) :: (tl8 ++ (tl7 ++ rA))) = nw12
  have N12:News h₀ L h11 ((123,tabObj #[]) :: nw12) := by
    rw [← hnw]
    exact cb_drop N11 (fun p hp=>by
      simp only [List.mem_cons,List.mem_append,List.not_mem_nil,or_false] at hp ⊢
      rcases hp with q | q | q | q | q | q | q | q <;> simp only [q,true_or,or_true])
  have hn3:∀ q ∈ nw12,q.1 ≠ 123 := by
    rw [← hnw]
    intro q hq
    rcases List.mem_cons.mp hq with rfl | hq
    · exact list_ne N11 (by k_mem) (by k_mem)
    rcases List.mem_cons.mp hq with rfl | hq
    · exact list_ne N11 (by k_mem) (by k_mem)
    rcases List.mem_append.mp hq with hq | hq
    · exact Ne.symm (f9 q hq (123,tabObj #[]) (by k_mem))
    rcases List.mem_cons.mp hq with rfl | hq
    · exact list_ne N11 (by k_mem) (by k_mem)
    rcases List.mem_append.mp hq with hq | hq
    · exact Ne.symm (f8 q hq (123,tabObj #[]) (by k_mem))
    rcases List.mem_append.mp hq with hq | hq
    · exact Ne.symm (f7' q hq (123,tabObj #[]) (by k_mem))
    · exact oA q hq
  have nA:WsIn w nw12 (.ref x) (wsOf (tx U)) := hA.mono fun p hp=>by rw [← hnw];kst_mem
  have nP:∀ (i:Nat) y,ps[i]? = some y→WsIn w nw12 y (wsOf (tx (W i))) := fun i y hy=>(hP i y hy).mono fun p hp=>by rw [← hnw];kst_mem
  have nT:(L + 1 + 1,oT) ∈ nw12 := by rw [← hnw];k_mem
  have nU:(L + 1,oU) ∈ nw12 := by rw [← hnw];k_mem
  have nW:(lw,listOf #[.str (W 0) t0,.str (W 1) t1,.str (W 2) t2,.str (W 3) t3] nw) ∈ nw12 := by rw [← hnw];k_mem
  have nL:(lp,listOf ps.toArray np) ∈ nw12 := by rw [← hnw];k_mem
  have nN:(ln,listOf ks.toArray nk) ∈ nw12 := by rw [← hnw];k_mem
  clear hnw
  obtain ⟨c0,hc0⟩ := get_lt hkl (show 0 < 4 by exact (by decide))
  obtain ⟨n0,q0,e0,hn0⟩ := hK 0 c0 hc0
  subst e0
  refine stage12 hU hU5 hW hT hTo hb0 hb1 nA hn0 hc0 B F11 X N12 hn3 TT hd hu hE HC (by exact trivial) hg nU dU nT dT nW nN (by rfl) (by rfl) (by rfl) (by rfl) (by rfl) ?_
  intro m12 h12 tk12 ps12 gs12 hps12 hgs12 hm12 F12 N12'
  have eW := (hm12 "walk" (by decide) (by decide)).trans (by rfl:_ = some (Value.ref lw))
  have eP := (hm12 "page" (by decide) (by decide)).trans (by rfl:_ = some (Value.ref lp))
  have eN := (hm12 "needs" (by decide) (by decide)).trans (by rfl:_ = some (Value.ref ln))
  have eB := (hm12 "bound" (by decide) (by decide)).trans (by rfl:_ = some (Value.int bd tb))
  have up:∀ p ∈ nw12,p ∈ (123,tabObj ps12) :: nw12 := fun p hp=>.tail _ hp
  refine stage13 hW B F12 X N12' TT hd hu hE (up _ nW) eW ?_
  intro v13 h13 tk13 F13 N13
  refine stage14 hU hU5 hW hWk (fun i y hy=>(nP i y hy).mono up) hK hpl hkl B F13 X N13 TT hd hu hE (up _ nW) (up _ nL) (up _ nN) (by exact eW) (by exact eP) (by exact eN) ?_
  intro m14 h14 tk14 hm14 F14 N14
  refine stage15 hU hU5 hW hW4 hb0 hb1 B F14 X N14 TT hd hu (up _ nU) dU (up _ nW) ((hm14 "walk" (by decide) (by decide)).trans eW) ((hm14 "bound" (by decide) (by decide)).trans eB) ?_
  intro m15 h15 tk15 F15 N15
  exact k m15 h15 tk15 gs12 ps12 hgs12 F15 (cb_drop N15 fun p hp=>by rw [List.mem_singleton.mp hp];exact .head _)
end
section
theorem lawX:PySem.Challenge.rw_pg0242_01.Holds := topT (by
  k_fill
  intro w s₀ s₁ mg mb G Y fa o pm cd doc dV kV ho hd hcd hD hmg hg args vals as hpre hlay hrd hwl hlo
  have KX := kIn_of Y
  have V := (Ground.X G).2
  refine Ground.open G ?_
  intro T B D TE TW
  try (refine guard_noD D (by decide +kernel) ?_;clear D)
  have hT9:TabsAt [(127,123)] _ := List.forall_mem_cons.mpr ⟨tab_of (x := "format_witnesses") (c := 127) (P := 123) T KX rfl (by kernel_rfl),fun _ h=>nomatch h⟩
  clear hmg
  wrow_args hpre hlay hrd hwl hlo
  all_goals (
    first | refine callC_kw (enter_call ?_) | refine enter_call ?_
    w_top on
    refine kn_postB hT9 (fun _=>rfl) ?_ ?_
    (case refine_1=>exact law_post _)
    w_call any ho hd hcd hD T F
    clear hd
    kn_ghosts F T
    k_drop)
  all_goals try k_fold
  rename Fr _ _ _ _=>F9
  rename News _ _ _ _=>N9
  have hg0:BareG s₁.gens := fun y hy=>by rw [hg] at hy;exact absurd hy (by simp)
  rename ¬ (63:Int) < _=>hln
  refine law_walk (mean := ExcName.means s₀.heap) (mg := mg) (mb := mb) lifted (by assumption) (by omega) (by assumption) F9 (by assumption) N9 (by assumption) (by decide) (by decide) (by passes_own) codeHd hg0 (by assumption) (by assumption) (by rfl) (by assumption) ?_
  intro m' h' tk' gs' ps hgs' F8 N8
  exact ⟨rfl,fun b o e=>F8.keep b o e,rfl,hgs',GrownAt.of N8 (.head _),trivial⟩)
end
end Mine
end
theorem PySem.Challenge.cw_pg0242_01_holds : PySem.Challenge.rw_pg0242_01.Holds := by
  exact Mine.lawX
