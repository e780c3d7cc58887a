import JvmDerived
import JvmDerived.Pilot.@@N@@Statement
import JvmDerived.Pilot.@@N@@Code
set_option linter.unusedVariables false
set_option linter.unusedSimpArgs false
namespace Jvm.Pilot.@@N@@
open Jvm Jvm.ClassFile Sem Op Lib Jvm.Free Jvm.Stand Jvm.LawKit Jvm.RoadKit Bundle Jvm.Pilot.@@N@@.Jvm.D

/-! own kit: the walk goes forward, from state to state, to an end that the contract names -/
section OwnKit
variable {p : Program} {l : Launch} {e : Env} {R : Room} {s : State} {m : MethodId} {args : Array Value} {below : List Frame} {meth : Method} {c : Code} {T : State} {locs : List Loc} {cells slots : Nat} {Z : State} {a0 : Array Value} {h : Heap}
def own_Go (tb : Tables) (e : Env) (below : List Frame) (F : State → Outcome → Prop) (S : State) : Prop := ∃ t o, Steps tb e below S t ∧ F t o
theorem own_go {tb : Tables} {F : State → Outcome → Prop} {S S' : State} (k : ∀ t, Steps tb e below S' t → Steps tb e below S t) (q : own_Go tb e below F S') : own_Go tb e below F S := by
  obtain ⟨t, o, a, b⟩ := q; exact ⟨t, o, k t a, b⟩
theorem own_gt {tb : Tables} {F : State → Outcome → Prop} {S S' : State} (k : Steps tb e below S S') (q : own_Go tb e below F S') : own_Go tb e below F S := own_go (fun _ r => k.trans r) q
def own_Fin (s : State) (below : List Frame) (Q : Option Value → Heap → List Loc → Prop) (nc ns : Nat) (t : State) (o : Outcome) : Prop :=
  t.status = .running ∧ Ended t below o ∧ ∃ v L, o = .returned v ∧ Q v t.heap L ∧ FrameEnd s o t L nc ns
def own_Met (l : Launch) (y : MethodName) (ws : List Jvm.Cond) (rm : Room) (Z : State) (h : Heap) (as : Array Value) (Q : Option Value → Heap → List Loc → Prop) : Prop :=
  MetFree l y (head1 ws rm) (fun a U => a = as ∧ Z.Warmed39 U.vm ∧ U.heap = h) (fun _ _ _ _ _ => True) (fun _ U o U' => ∃ v L, o = .returned v ∧ Q v U'.heap L ∧ FrameEnd U o U' L rm.cells rm.slots)
theorem own_body {y : MethodName} {bytes : ByteArray} {mx : Nat} {rt : Option FieldType} {rm : Room} {ws : List Jvm.Cond} {as : Array Value} {Q : Option Value → Heap → List Loc → Prop} (pn : plainName y.cls = true)
    (H : ∀ (p : Program) (e : Env) (s : State) (m : MethodId) (below : List Frame) (meth : Method) (c : Code) (s₁ : State), p.tables.exec = Jvm.exec → c.code = bytes → c.maxLocals = mx → s.vm.findClass y.cls = some m.cls → meth.name = y.name → meth.sig.returnType = rt → meth.locks = false → Z.Warmed39 s.vm →
      Stand p l e rm s m as below meth c s₁ [] 0 0 → s₁.heap = h → own_Go p.tables e below (own_Fin s below Q rm.cells rm.slots) (s₁.setTop (entryFrame m as mx))) :
    own_Met l y (Jvm.Cond.code y bytes mx rt :: ws) rm Z h as Q := by
  refine MetFree.of_bodySF (plainFor_of_name pn) hisR ?_
  intro p e s m args below meth c s₁ Bd hml hP hK
  obtain ⟨rfl, hZ, hh⟩ := hP
  exact H p e s m below meth c s₁ Bd.exec Bd.bytes hml (findClass_of_methodNamed Bd.named) (name_of_methodNamed Bd.named Bd.method).1 Bd.returns Bd.notSynchronized hZ (Stand.of_body Bd) (by rw [← hh, Bd.state]; rfl)
theorem own_end (X : Stand p l e R s m args below meth c T locs cells slots) {v : Option Value} {g : JFrame} {Q : Option Value → Heap → List Loc → Prop} {nc ns : Nat} (hlk : meth.locks = false) (hv : meth.sig.returnType = none → v = none)
    (st : ∀ fs, (∀ (f : JFrame) (acts : List Action), f.method = m → f.locked = none → f.entered = [] → (doReturn e (T.setTop f) acts v).1 = T.setFrames fs) → Steps p.tables e below (T.setTop g) (T.setFrames fs)) (hQ : Q v T.heap locs) (h1 : cells ≤ nc) (h2 : slots ≤ ns) :
    own_Go p.tables e below (own_Fin s below Q nc ns) (T.setTop g) := by
  obtain ⟨fs, hr, hrun, hended, hW, hsame⟩ := X.leave (v := v) hv hlk
  exact ⟨_, _, st fs hr, hrun, hended, _, _, rfl, hQ, ⟨_, rfl⟩, hW, hsame.mono h1 h2⟩
theorem own_retI (X : Stand p l e R s m args below meth c T locs cells slots) (hx : p.tables.exec = Jvm.exec) {pc : Nat} {Ls : Array Slot} {z : Int32} {t : FieldType} {rest : List Value} {Q : Option Value → Heap → List Loc → Prop} {nc ns : Nat} (hlk : meth.locks = false) (hret : meth.sig.returnType = some t) (ht : t = .int ∨ t = .boolean ∨ t = .byte ∨ t = .char ∨ t = .short) (hn : narrow t (.int z) = .int z)
    (hd : decode c.code pc = .ok (.ireturn, 1)) (hQ : Q (some (.int z)) T.heap locs) (h1 : cells ≤ nc) (h2 : slots ≤ ns) : own_Go p.tables e below (own_Fin s below Q nc ns) (T.setTop (mkF m pc Ls (.int z :: rest))) :=
  own_end X hlk (fun q => by rw [hret] at q; cases q) (fun fs hr => retOut X hx hret hn (Or.inl ⟨rfl, ht, _, rfl⟩) hd hr) hQ h1 h2
theorem own_retJ (X : Stand p l e R s m args below meth c T locs cells slots) (hx : p.tables.exec = Jvm.exec) {pc : Nat} {Ls : Array Slot} {z : Int64} {rest : List Value} {Q : Option Value → Heap → List Loc → Prop} {nc ns : Nat} (hlk : meth.locks = false) (hret : meth.sig.returnType = some .long)
    (hd : decode c.code pc = .ok (.lreturn, 1)) (hQ : Q (some (.long z)) T.heap locs) (h1 : cells ≤ nc) (h2 : slots ≤ ns) : own_Go p.tables e below (own_Fin s below Q nc ns) (T.setTop (mkF m pc Ls (.long z :: rest))) :=
  own_end X hlk (fun q => by rw [hret] at q; cases q) (fun fs hr => retOut X hx hret rfl (Or.inr (Or.inl ⟨rfl, rfl, _, rfl⟩)) hd hr) hQ h1 h2
theorem own_retA (X : Stand p l e R s m args below meth c T locs cells slots) (hx : p.tables.exec = Jvm.exec) {pc : Nat} {Ls : Array Slot} {w : Value} {t : FieldType} {rest : List Value} {Q : Option Value → Heap → List Loc → Prop} {nc ns : Nat} (hlk : meth.locks = false) (hret : meth.sig.returnType = some t) (ht : t.isReference = true) (hw : w.isRef = true)
    (hd : decode c.code pc = .ok (.areturn, 1)) (hQ : Q (some w) T.heap locs) (h1 : cells ≤ nc) (h2 : slots ≤ ns) : own_Go p.tables e below (own_Fin s below Q nc ns) (T.setTop (mkF m pc Ls (w :: rest))) :=
  own_end X hlk (fun q => by rw [hret] at q; cases q) (fun fs hr => retOut X hx hret (by cases t <;> first | (cases ht; done) | (cases w <;> first | rfl | cases hw)) (Or.inr (Or.inr (Or.inr (Or.inr ⟨rfl, ht, hw⟩)))) hd hr) hQ h1 h2
theorem own_retV (X : Stand p l e R s m args below meth c T locs cells slots) (hx : p.tables.exec = Jvm.exec) {pc : Nat} {Ls : Array Slot} {Q : Option Value → Heap → List Loc → Prop} {nc ns : Nat} (hlk : meth.locks = false) (hret : meth.sig.returnType = none)
    (hd : decode c.code pc = .ok (.return_, 1)) (hQ : Q none T.heap locs) (h1 : cells ≤ nc) (h2 : slots ≤ ns) : own_Go p.tables e below (own_Fin s below Q nc ns) (T.setTop (mkF m pc Ls [])) :=
  own_end X hlk (fun _ => rfl) (fun fs hr => X.returnOut hx hret hd hr) hQ h1 h2
theorem own_callS (X : Stand p l e R s m args below meth c T locs cells slots) (hx : p.tables.exec = Jvm.exec) (hZ : Z.Warmed39 s.vm) {own : String} {index : Nat} {y : MethodName} {bytes : ByteArray} {mx : Nat} {rt : Option FieldType} {rm : Room} {W pc : Nat} {Ls : Array Slot} {St argsL rest : List Value} {Q : Option Value → Heap → List Loc → Prop} {F : State → Outcome → Prop}
    (hown : s.vm.findClass own = some m.cls) (w1 : (Jvm.Cond.methodLink own index y).before a0 Z = true) (w2 : (Jvm.Cond.static y).before a0 Z = true) (w3 : (Jvm.Cond.initialized y.cls).before a0 Z = true) (w4 : (Jvm.Cond.code y bytes mx rt).before a0 Z = true)
    (hy : y.cls ≠ "java/lang/invoke/MethodHandle" ∧ y.cls ≠ "java/lang/invoke/VarHandle") (M : own_Met l y [Jvm.Cond.code y bytes mx rt] rm Z h argsL.toArray Q) (eT : T.heap = h) (hf : rm.frames + 1 ≤ R.frames) (hl : W + (mx + 11) + rm.locals ≤ R.locals) (hc : cells + rm.cells ≤ R.cells) (hs : slots + rm.slots ≤ R.slots)
    (hsz : Ls.size = c.maxLocals) (hlen : ∀ sig, parseMethodDescriptor y.desc = some sig → argsL.length = sig.parameters.length) (hst : St = argsL.reverse ++ rest) (hW : (rest.map fun v => v.category).sum ≤ W) (hd : decode c.code pc = .ok (.invokestatic index, 3))
    (K : ∀ v T' L, Stand p l e R s m args below meth c T' (locs ++ L) (cells + rm.cells) (slots + rm.slots) → Q v T'.heap L → own_Go p.tables e below F (T'.setTop (mkF m (pc + 3) Ls (v.toList ++ rest)))) :
    own_Go p.tables e below F (T.setTop (mkF m pc Ls St)) := by
  obtain ⟨v, _, ⟨T', L', k', n'⟩, -, X', ⟨L, hQ, l1, l2, l3⟩, st⟩ := Jvm.LawKit.callS X hx (y := y) hown (mvT hZ w1) (mvT hZ w2) (mvT hZ w3) (mvT hZ w4) hy (backOf (W := W) M hZ w4 w3 hf hl) (g := mkF m pc Ls St) rfl hsz (argsL := argsL) (rest := rest) hlen hst (by show 2 * 0 + _ ≤ _; rw [Nat.mul_zero, Nat.zero_add]; exact hW) hd (fun _ _ => ⟨rfl, eT, hc, hs⟩)
  dsimp only [Pt.U, Pt.locs, Pt.cells, Pt.slots] at X' l1 l2 l3 st hQ
  subst l1 l2 l3
  exact own_go st (K v T' L X' hQ)
theorem own_callV (X : Stand p l e R s m args below meth c T locs cells slots) (hx : p.tables.exec = Jvm.exec) (hZ : Z.Warmed39 s.vm) {own C : String} {index : Nat} {z : MethodName} {bytes : ByteArray} {mx : Nat} {rt : Option FieldType} {rm : Room} {W pc : Nat} {Ls : Array Slot} {a : Addr} {St argsL rest : List Value} {Q : Option Value → Heap → List Loc → Prop} {F : State → Outcome → Prop}
    (hown : s.vm.findClass own = some m.cls) (w1 : (Jvm.Cond.methodLink own index z).before a0 Z = true) (w2 : (Jvm.Cond.declares z).before a0 Z = true) (w3 : (Jvm.Cond.selects C z z).before a0 Z = true) (w4 : (Jvm.Cond.instanceMethod z).before a0 Z = true) (w5 : (Jvm.Cond.code z bytes mx rt).before a0 Z = true) (w6 : (Jvm.Cond.initialized z.cls).before a0 Z = true)
    (hy : z.cls ≠ "java/lang/invoke/MethodHandle" ∧ z.cls ≠ "java/lang/invoke/VarHandle") (E : Exa Z h a C) (M : own_Met l z [Jvm.Cond.code z bytes mx rt] rm Z h (.ref a :: argsL).toArray Q) (eT : T.heap = h) (hf : rm.frames + 1 ≤ R.frames) (hl : W + (mx + 11) + rm.locals ≤ R.locals) (hc : cells + rm.cells ≤ R.cells) (hs : slots + rm.slots ≤ R.slots)
    (hsz : Ls.size = c.maxLocals) (hlen : ∀ sig, parseMethodDescriptor z.desc = some sig → argsL.length = sig.parameters.length) (hst : St = argsL.reverse ++ .ref a :: rest) (hW : (rest.map fun v => v.category).sum ≤ W) (hd : decode c.code pc = .ok (.invokevirtual index, 3))
    (K : ∀ v T' L, Stand p l e R s m args below meth c T' (locs ++ L) (cells + rm.cells) (slots + rm.slots) → Q v T'.heap L → own_Go p.tables e below F (T'.setTop (mkF m (pc + 3) Ls (v.toList ++ rest)))) :
    own_Go p.tables e below F (T.setTop (mkF m pc Ls St)) := by
  obtain ⟨cq, kq, q1, q2, q3⟩ := isOf hZ eT E
  obtain ⟨v, _, ⟨T', L', k', n'⟩, -, X', ⟨L, hQ, l1, l2, l3⟩, st⟩ := X.virtualBack hx (y := z) (z := z) hown (mvT hZ w1) (mvT hZ w2) (notFace_of_selects (args := #[]) (mvT hZ w3)) (mvT hZ w3) (mvT hZ w4) hy (backOf (W := W) M hZ w5 w6 hf hl) q1 q3 (g := mkF m pc Ls St) rfl hsz (Steps.refl _) (argsL := argsL) (rest := rest) hlen hst (by show 2 * 0 + _ ≤ _; rw [Nat.mul_zero, Nat.zero_add]; exact hW) hd (fun _ _ => ⟨rfl, eT, hc, hs⟩)
  dsimp only [Pt.U, Pt.locs, Pt.cells, Pt.slots] at X' l1 l2 l3 st hQ
  subst l1 l2 l3
  exact own_gt st (K v T' L X' hQ)
theorem own_callI (X : Stand p l e R s m args below meth c T locs cells slots) (hx : p.tables.exec = Jvm.exec) (hZ : Z.Warmed39 s.vm) {own : String} {index : Nat} {y : MethodName} {bytes : ByteArray} {mx : Nat} {rm : Room} {W pc : Nat} {Ls : Array Slot} {a : Addr} {St argsL rest : List Value} {Q : Option Value → Heap → List Loc → Prop} {F : State → Outcome → Prop}
    (hown : s.vm.findClass own = some m.cls) (w1 : (Jvm.Cond.methodLink own index y).before a0 Z = true) (w2 : (Jvm.Cond.instanceMethod y).before a0 Z = true) (w3 : (Jvm.Cond.code y bytes mx none).before a0 Z = true) (w4 : (Jvm.Cond.initialized y.cls).before a0 Z = true) (hi : y.name = "<init>")
    (hy : y.cls ≠ "java/lang/invoke/MethodHandle" ∧ y.cls ≠ "java/lang/invoke/VarHandle") (M : own_Met l y [Jvm.Cond.code y bytes mx none] rm Z h (.ref a :: argsL).toArray Q) (eT : T.heap = h) (hf : rm.frames + 1 ≤ R.frames) (hl : W + (mx + 11) + rm.locals ≤ R.locals) (hc : cells + rm.cells ≤ R.cells) (hs : slots + rm.slots ≤ R.slots)
    (hsz : Ls.size = c.maxLocals) (hlen : ∀ sig, parseMethodDescriptor y.desc = some sig → argsL.length = sig.parameters.length) (hst : St = argsL.reverse ++ .ref a :: rest) (hW : (rest.map fun v => v.category).sum ≤ W) (hd : decode c.code pc = .ok (.invokespecial index, 3))
    (K : ∀ v T' L, Stand p l e R s m args below meth c T' (locs ++ L) (cells + rm.cells) (slots + rm.slots) → Q v T'.heap L → own_Go p.tables e below F (T'.setTop (mkF m (pc + 3) Ls (v.toList ++ rest)))) :
    own_Go p.tables e below F (T.setTop (mkF m pc Ls St)) := by
  obtain ⟨v, _, ⟨T', L', k', n'⟩, -, X', ⟨L, hQ, l1, l2, l3⟩, st⟩ := X.specialBack hx (y := y) hi hown (mvT hZ w1) (mvT hZ w2) (mvT hZ w3) hy (backOf (W := W) M hZ w3 w4 hf hl) (g := mkF m pc Ls St) rfl hsz (Steps.refl _) (a := a) (argsL := argsL) (rest := rest) hlen hst (by show 2 * 0 + _ ≤ _; rw [Nat.mul_zero, Nat.zero_add]; exact hW) hd (fun _ _ => ⟨rfl, eT, hc, hs⟩)
  dsimp only [Pt.U, Pt.locs, Pt.cells, Pt.slots] at X' l1 l2 l3 st hQ
  subst l1 l2 l3
  exact own_gt st (K v T' L X' hQ)
end OwnKit

def own_b (P : Prop) [Decidable P] : Int32 := if P then 1 else 0
abbrev own_D (c : Int32) : Prop := c = 45 ∨ (¬ c < 8208 ∧ ¬ 8213 < c)
abbrev own_E (c : Int32) : Prop := c = 45 ∨ c = 8208 ∨ c = 8209 ∨ c = 8210 ∨ c = 8211 ∨ c = 8212 ∨ c = 8213
theorem own_DE (c : Int32) : own_D c ↔ own_E c := by
  have l1 : (45 : Int32).toInt = 45 := rfl
  have l2 : (8208 : Int32).toInt = 8208 := rfl
  have l3 : (8209 : Int32).toInt = 8209 := rfl
  have l4 : (8210 : Int32).toInt = 8210 := rfl
  have l5 : (8211 : Int32).toInt = 8211 := rfl
  have l6 : (8212 : Int32).toInt = 8212 := rfl
  have l7 : (8213 : Int32).toInt = 8213 := rfl
  unfold own_D own_E
  simp only [Int32.lt_iff_toInt_lt, ← Int32.toInt_inj, l1, l2, l3, l4, l5, l6, l7]
  omega
theorem own_DEb (c : Int32) : own_b (own_D c) = own_b (own_E c) := by
  unfold own_b
  by_cases q : own_D c
  · rw [if_pos q, if_pos ((own_DE c).mp q)]
  · rw [if_neg q, if_neg (fun z => q ((own_DE c).mpr z))]
theorem own_d1_0 : decode prog_72_method_11_code 0 = .ok (.iload_n 0, 1) := by decide +kernel
theorem own_d1_1 : decode prog_72_method_11_code 1 = .ok (.bipush 45, 2) := by decide +kernel
theorem own_d1_3 : decode prog_72_method_11_code 3 = .ok (.if_icmp .eq 17, 3) := by decide +kernel
theorem own_d1_6 : decode prog_72_method_11_code 6 = .ok (.iload_n 0, 1) := by decide +kernel
theorem own_d1_7 : decode prog_72_method_11_code 7 = .ok (.sipush 8208, 3) := by decide +kernel
theorem own_d1_10 : decode prog_72_method_11_code 10 = .ok (.if_icmp .lt 14, 3) := by decide +kernel
theorem own_d1_13 : decode prog_72_method_11_code 13 = .ok (.iload_n 0, 1) := by decide +kernel
theorem own_d1_14 : decode prog_72_method_11_code 14 = .ok (.sipush 8213, 3) := by decide +kernel
theorem own_d1_17 : decode prog_72_method_11_code 17 = .ok (.if_icmp .gt 7, 3) := by decide +kernel
theorem own_d1_20 : decode prog_72_method_11_code 20 = .ok (.iconst 1, 1) := by decide +kernel
theorem own_d1_21 : decode prog_72_method_11_code 21 = .ok (.goto 4, 3) := by decide +kernel
theorem own_d1_24 : decode prog_72_method_11_code 24 = .ok (.iconst 0, 1) := by decide +kernel
theorem own_d1_25 : decode prog_72_method_11_code 25 = .ok (.ireturn, 1) := by decide +kernel
theorem own_pn_1 : plainName "com/example/clausewright/clausewright/SourceText" = true := by first | (simp [plainName, overriddenIn]; done) | decide +kernel
theorem own_d2_0 : decode method_2_code 0 = .ok (.iload_n 0, 1) := by decide +kernel
theorem own_d2_1 : decode method_2_code 1 = .ok (.bipush 45, 2) := by decide +kernel
theorem own_d2_3 : decode method_2_code 3 = .ok (.if_icmp .eq 45, 3) := by decide +kernel
theorem own_d2_6 : decode method_2_code 6 = .ok (.iload_n 0, 1) := by decide +kernel
theorem own_d2_7 : decode method_2_code 7 = .ok (.sipush 8208, 3) := by decide +kernel
theorem own_d2_10 : decode method_2_code 10 = .ok (.if_icmp .eq 38, 3) := by decide +kernel
theorem own_d2_13 : decode method_2_code 13 = .ok (.iload_n 0, 1) := by decide +kernel
theorem own_d2_14 : decode method_2_code 14 = .ok (.sipush 8209, 3) := by decide +kernel
theorem own_d2_17 : decode method_2_code 17 = .ok (.if_icmp .eq 31, 3) := by decide +kernel
theorem own_d2_20 : decode method_2_code 20 = .ok (.iload_n 0, 1) := by decide +kernel
theorem own_d2_21 : decode method_2_code 21 = .ok (.sipush 8210, 3) := by decide +kernel
theorem own_d2_24 : decode method_2_code 24 = .ok (.if_icmp .eq 24, 3) := by decide +kernel
theorem own_d2_27 : decode method_2_code 27 = .ok (.iload_n 0, 1) := by decide +kernel
theorem own_d2_28 : decode method_2_code 28 = .ok (.sipush 8211, 3) := by decide +kernel
theorem own_d2_31 : decode method_2_code 31 = .ok (.if_icmp .eq 17, 3) := by decide +kernel
theorem own_d2_34 : decode method_2_code 34 = .ok (.iload_n 0, 1) := by decide +kernel
theorem own_d2_35 : decode method_2_code 35 = .ok (.sipush 8212, 3) := by decide +kernel
theorem own_d2_38 : decode method_2_code 38 = .ok (.if_icmp .eq 10, 3) := by decide +kernel
theorem own_d2_41 : decode method_2_code 41 = .ok (.iload_n 0, 1) := by decide +kernel
theorem own_d2_42 : decode method_2_code 42 = .ok (.sipush 8213, 3) := by decide +kernel
theorem own_d2_45 : decode method_2_code 45 = .ok (.if_icmp .ne 7, 3) := by decide +kernel
theorem own_d2_48 : decode method_2_code 48 = .ok (.iconst 1, 1) := by decide +kernel
theorem own_d2_49 : decode method_2_code 49 = .ok (.goto 4, 3) := by decide +kernel
theorem own_d2_52 : decode method_2_code 52 = .ok (.iconst 0, 1) := by decide +kernel
theorem own_d2_53 : decode method_2_code 53 = .ok (.ireturn, 1) := by decide +kernel
theorem own_pn_2 : plainName "com/example/clausewright/clausewright/SourceTextIsDashPinLaw" = true := by first | (simp [plainName, overriddenIn]; done) | decide +kernel
theorem own_pn_0 : plainName "com/example/clausewright/clausewright/SourceTextIsDashPinLaw" = true := by first | (simp [plainName, overriddenIn]; done) | decide +kernel
theorem own_pd__C_Z : parseMethodDescriptor "(C)Z" = some ⟨[.char], (some .boolean)⟩ := by decide +kernel
theorem own_1 {P : Prop} [Decidable P] (h : P) : some (Value.int 1) = some (Value.int (own_b P)) := by unfold own_b; rw [if_pos h]
theorem own_0 {P : Prop} [Decidable P] (h : ¬ P) : some (Value.int 0) = some (Value.int (own_b P)) := by unfold own_b; rw [if_neg h]
theorem own_rm1_ef (m : MethodId) (p1 : Int32)  : entryFrame m #[(.int p1)] 1 = mkF m 0 #[.val (.int p1)] [] := by first | (simp [entryFrame, mkF, argsToLocals, Value.category, maxLocals]; done) | rfl
set_option maxRecDepth 65536 in
set_option maxHeartbeats 40000000 in
theorem own_rm1 (l : Launch) (Z : State) (a0 : Array Value) (hw : ∀ d ∈ tables_1, d.before a0 Z = true) (p1 : Int32) (h0 : Heap) (n0 : Nat) (Z0 : n0 ≤ h0.size)  :
    own_Met l (⟨"com/example/clausewright/clausewright/SourceText", "isDash", "(C)Z"⟩ : MethodName) (Jvm.Cond.code (⟨"com/example/clausewright/clausewright/SourceText", "isDash", "(C)Z"⟩ : MethodName) prog_72_method_11_code 1 (some .boolean) :: []) ({ frames := 0, cells := 0, slots := 0, locals := 0 } : Room) Z h0 #[(.int p1)] (fun v h L => v = some (.int (own_b (own_D p1))) ∧ Fr n0 L ∧ h = h0) := by
  refine own_body (pn := own_pn_1) ?_
  intro p e s m below meth c s₁ hx hby hml hown hnm hret hlk hZ X0 e0
  have N0 := Fr.nil n0
  refine own_go (fun _ kont => castTop (own_rm1_ef m p1 ) kont) ?_
  show own_Go p.tables e below _ (s₁.setTop (mkF m 0 #[.val (.int p1)] []))
  refine own_go (fun _ kont => XS.iloadN X0.here hx rfl (hb hby own_d1_0) rfl kont) ?_
  show own_Go p.tables e below _ (s₁.setTop (mkF m 1 #[.val (.int p1)] [(.int p1)]))
  refine own_go (fun _ kont => XS.bipush X0.here hx rfl (hb hby own_d1_1) kont) ?_
  show own_Go p.tables e below _ (s₁.setTop (mkF m 3 #[.val (.int p1)] [(.int (45 : Int32)), (.int p1)]))
  by_cases b101 : p1 = (45 : Int32)
  · skip
    refine own_go (fun _ kont => XS.icmpYes X0.here hx rfl (pc0 := 3) (pc' := 20) rfl (hb hby own_d1_3) rfl (XT.ii_eq_t (b101)) (by decide) (by decide) kont) ?_
    show own_Go p.tables e below _ (s₁.setTop (mkF m 20 #[.val (.int p1)] []))
    refine own_go (fun _ kont => XS.iconst X0.here hx rfl (hb hby own_d1_20) kont) ?_
    show own_Go p.tables e below _ (s₁.setTop (mkF m 21 #[.val (.int p1)] [(.int (1 : Int32))]))
    refine own_go (fun _ kont => XS.goto X0.here hx rfl (pc0 := 21) (pc' := 25) rfl (hb hby own_d1_21) (by decide) (by decide) kont) ?_
    show own_Go p.tables e below _ (s₁.setTop (mkF m 25 #[.val (.int p1)] [(.int (1 : Int32))]))
    exact own_retI X0 hx hlk hret (by simp) rfl (hb hby own_d1_25) (⟨own_1 (by unfold own_D; simp [b101]), N0, e0⟩) (by decide) (by decide)
  · skip
    refine own_go (fun _ kont => XS.icmpNo X0.here hx rfl (hb hby own_d1_3) rfl (XT.ii_eq_f (b101)) kont) ?_
    show own_Go p.tables e below _ (s₁.setTop (mkF m 6 #[.val (.int p1)] []))
    refine own_go (fun _ kont => XS.iloadN X0.here hx rfl (hb hby own_d1_6) rfl kont) ?_
    show own_Go p.tables e below _ (s₁.setTop (mkF m 7 #[.val (.int p1)] [(.int p1)]))
    refine own_go (fun _ kont => XS.sipush X0.here hx rfl (hb hby own_d1_7) kont) ?_
    show own_Go p.tables e below _ (s₁.setTop (mkF m 10 #[.val (.int p1)] [(.int (8208 : Int32)), (.int p1)]))
    by_cases b102 : p1 < (8208 : Int32)
    · skip
      refine own_go (fun _ kont => XS.icmpYes X0.here hx rfl (pc0 := 10) (pc' := 24) rfl (hb hby own_d1_10) rfl (XT.ii_lt_t (b102)) (by decide) (by decide) kont) ?_
      show own_Go p.tables e below _ (s₁.setTop (mkF m 24 #[.val (.int p1)] []))
      refine own_go (fun _ kont => XS.iconst X0.here hx rfl (hb hby own_d1_24) kont) ?_
      show own_Go p.tables e below _ (s₁.setTop (mkF m 25 #[.val (.int p1)] [(.int (0 : Int32))]))
      exact own_retI X0 hx hlk hret (by simp) rfl (hb hby own_d1_25) (⟨own_0 (by unfold own_D; simp [b101, b102]), N0, e0⟩) (by decide) (by decide)
    · skip
      refine own_go (fun _ kont => XS.icmpNo X0.here hx rfl (hb hby own_d1_10) rfl (XT.ii_lt_f (b102)) kont) ?_
      show own_Go p.tables e below _ (s₁.setTop (mkF m 13 #[.val (.int p1)] []))
      refine own_go (fun _ kont => XS.iloadN X0.here hx rfl (hb hby own_d1_13) rfl kont) ?_
      show own_Go p.tables e below _ (s₁.setTop (mkF m 14 #[.val (.int p1)] [(.int p1)]))
      refine own_go (fun _ kont => XS.sipush X0.here hx rfl (hb hby own_d1_14) kont) ?_
      show own_Go p.tables e below _ (s₁.setTop (mkF m 17 #[.val (.int p1)] [(.int (8213 : Int32)), (.int p1)]))
      by_cases b103 : (8213 : Int32) < p1
      · skip
        refine own_go (fun _ kont => XS.icmpYes X0.here hx rfl (pc0 := 17) (pc' := 24) rfl (hb hby own_d1_17) rfl (XT.ii_gt_t (b103)) (by decide) (by decide) kont) ?_
        show own_Go p.tables e below _ (s₁.setTop (mkF m 24 #[.val (.int p1)] []))
        refine own_go (fun _ kont => XS.iconst X0.here hx rfl (hb hby own_d1_24) kont) ?_
        show own_Go p.tables e below _ (s₁.setTop (mkF m 25 #[.val (.int p1)] [(.int (0 : Int32))]))
        exact own_retI X0 hx hlk hret (by simp) rfl (hb hby own_d1_25) (⟨own_0 (by unfold own_D; simp [b101, b102, b103]), N0, e0⟩) (by decide) (by decide)
      · skip
        refine own_go (fun _ kont => XS.icmpNo X0.here hx rfl (hb hby own_d1_17) rfl (XT.ii_gt_f (b103)) kont) ?_
        show own_Go p.tables e below _ (s₁.setTop (mkF m 20 #[.val (.int p1)] []))
        refine own_go (fun _ kont => XS.iconst X0.here hx rfl (hb hby own_d1_20) kont) ?_
        show own_Go p.tables e below _ (s₁.setTop (mkF m 21 #[.val (.int p1)] [(.int (1 : Int32))]))
        refine own_go (fun _ kont => XS.goto X0.here hx rfl (pc0 := 21) (pc' := 25) rfl (hb hby own_d1_21) (by decide) (by decide) kont) ?_
        show own_Go p.tables e below _ (s₁.setTop (mkF m 25 #[.val (.int p1)] [(.int (1 : Int32))]))
        exact own_retI X0 hx hlk hret (by simp) rfl (hb hby own_d1_25) (⟨own_1 (by unfold own_D; simp [b101, b102, b103]), N0, e0⟩) (by decide) (by decide)
theorem own_rm2_ef (m : MethodId) (p1 : Int32)  : entryFrame m #[(.int p1)] 1 = mkF m 0 #[.val (.int p1)] [] := by first | (simp [entryFrame, mkF, argsToLocals, Value.category, maxLocals]; done) | rfl
set_option maxRecDepth 65536 in
set_option maxHeartbeats 40000000 in
theorem own_rm2 (l : Launch) (Z : State) (a0 : Array Value) (hw : ∀ d ∈ tables_1, d.before a0 Z = true) (p1 : Int32) (h0 : Heap) (n0 : Nat) (Z0 : n0 ≤ h0.size)  :
    own_Met l (⟨"com/example/clausewright/clausewright/SourceTextIsDashPinLaw", "expectedDash", "(C)Z"⟩ : MethodName) (Jvm.Cond.code (⟨"com/example/clausewright/clausewright/SourceTextIsDashPinLaw", "expectedDash", "(C)Z"⟩ : MethodName) method_2_code 1 (some .boolean) :: []) ({ frames := 0, cells := 0, slots := 0, locals := 0 } : Room) Z h0 #[(.int p1)] (fun v h L => v = some (.int (own_b (own_E p1))) ∧ Fr n0 L ∧ h = h0) := by
  refine own_body (pn := own_pn_2) ?_
  intro p e s m below meth c s₁ hx hby hml hown hnm hret hlk hZ X0 e0
  have N0 := Fr.nil n0
  refine own_go (fun _ kont => castTop (own_rm2_ef m p1 ) kont) ?_
  show own_Go p.tables e below _ (s₁.setTop (mkF m 0 #[.val (.int p1)] []))
  refine own_go (fun _ kont => XS.iloadN X0.here hx rfl (hb hby own_d2_0) rfl kont) ?_
  show own_Go p.tables e below _ (s₁.setTop (mkF m 1 #[.val (.int p1)] [(.int p1)]))
  refine own_go (fun _ kont => XS.bipush X0.here hx rfl (hb hby own_d2_1) kont) ?_
  show own_Go p.tables e below _ (s₁.setTop (mkF m 3 #[.val (.int p1)] [(.int (45 : Int32)), (.int p1)]))
  by_cases b104 : p1 = (45 : Int32)
  · skip
    refine own_go (fun _ kont => XS.icmpYes X0.here hx rfl (pc0 := 3) (pc' := 48) rfl (hb hby own_d2_3) rfl (XT.ii_eq_t (b104)) (by decide) (by decide) kont) ?_
    show own_Go p.tables e below _ (s₁.setTop (mkF m 48 #[.val (.int p1)] []))
    refine own_go (fun _ kont => XS.iconst X0.here hx rfl (hb hby own_d2_48) kont) ?_
    show own_Go p.tables e below _ (s₁.setTop (mkF m 49 #[.val (.int p1)] [(.int (1 : Int32))]))
    refine own_go (fun _ kont => XS.goto X0.here hx rfl (pc0 := 49) (pc' := 53) rfl (hb hby own_d2_49) (by decide) (by decide) kont) ?_
    show own_Go p.tables e below _ (s₁.setTop (mkF m 53 #[.val (.int p1)] [(.int (1 : Int32))]))
    exact own_retI X0 hx hlk hret (by simp) rfl (hb hby own_d2_53) (⟨own_1 (by unfold own_E; simp [b104]), N0, e0⟩) (by decide) (by decide)
  · skip
    refine own_go (fun _ kont => XS.icmpNo X0.here hx rfl (hb hby own_d2_3) rfl (XT.ii_eq_f (b104)) kont) ?_
    show own_Go p.tables e below _ (s₁.setTop (mkF m 6 #[.val (.int p1)] []))
    refine own_go (fun _ kont => XS.iloadN X0.here hx rfl (hb hby own_d2_6) rfl kont) ?_
    show own_Go p.tables e below _ (s₁.setTop (mkF m 7 #[.val (.int p1)] [(.int p1)]))
    refine own_go (fun _ kont => XS.sipush X0.here hx rfl (hb hby own_d2_7) kont) ?_
    show own_Go p.tables e below _ (s₁.setTop (mkF m 10 #[.val (.int p1)] [(.int (8208 : Int32)), (.int p1)]))
    by_cases b105 : p1 = (8208 : Int32)
    · skip
      refine own_go (fun _ kont => XS.icmpYes X0.here hx rfl (pc0 := 10) (pc' := 48) rfl (hb hby own_d2_10) rfl (XT.ii_eq_t (b105)) (by decide) (by decide) kont) ?_
      show own_Go p.tables e below _ (s₁.setTop (mkF m 48 #[.val (.int p1)] []))
      refine own_go (fun _ kont => XS.iconst X0.here hx rfl (hb hby own_d2_48) kont) ?_
      show own_Go p.tables e below _ (s₁.setTop (mkF m 49 #[.val (.int p1)] [(.int (1 : Int32))]))
      refine own_go (fun _ kont => XS.goto X0.here hx rfl (pc0 := 49) (pc' := 53) rfl (hb hby own_d2_49) (by decide) (by decide) kont) ?_
      show own_Go p.tables e below _ (s₁.setTop (mkF m 53 #[.val (.int p1)] [(.int (1 : Int32))]))
      exact own_retI X0 hx hlk hret (by simp) rfl (hb hby own_d2_53) (⟨own_1 (by unfold own_E; simp [b104, b105]), N0, e0⟩) (by decide) (by decide)
    · skip
      refine own_go (fun _ kont => XS.icmpNo X0.here hx rfl (hb hby own_d2_10) rfl (XT.ii_eq_f (b105)) kont) ?_
      show own_Go p.tables e below _ (s₁.setTop (mkF m 13 #[.val (.int p1)] []))
      refine own_go (fun _ kont => XS.iloadN X0.here hx rfl (hb hby own_d2_13) rfl kont) ?_
      show own_Go p.tables e below _ (s₁.setTop (mkF m 14 #[.val (.int p1)] [(.int p1)]))
      refine own_go (fun _ kont => XS.sipush X0.here hx rfl (hb hby own_d2_14) kont) ?_
      show own_Go p.tables e below _ (s₁.setTop (mkF m 17 #[.val (.int p1)] [(.int (8209 : Int32)), (.int p1)]))
      by_cases b106 : p1 = (8209 : Int32)
      · skip
        refine own_go (fun _ kont => XS.icmpYes X0.here hx rfl (pc0 := 17) (pc' := 48) rfl (hb hby own_d2_17) rfl (XT.ii_eq_t (b106)) (by decide) (by decide) kont) ?_
        show own_Go p.tables e below _ (s₁.setTop (mkF m 48 #[.val (.int p1)] []))
        refine own_go (fun _ kont => XS.iconst X0.here hx rfl (hb hby own_d2_48) kont) ?_
        show own_Go p.tables e below _ (s₁.setTop (mkF m 49 #[.val (.int p1)] [(.int (1 : Int32))]))
        refine own_go (fun _ kont => XS.goto X0.here hx rfl (pc0 := 49) (pc' := 53) rfl (hb hby own_d2_49) (by decide) (by decide) kont) ?_
        show own_Go p.tables e below _ (s₁.setTop (mkF m 53 #[.val (.int p1)] [(.int (1 : Int32))]))
        exact own_retI X0 hx hlk hret (by simp) rfl (hb hby own_d2_53) (⟨own_1 (by unfold own_E; simp [b104, b105, b106]), N0, e0⟩) (by decide) (by decide)
      · skip
        refine own_go (fun _ kont => XS.icmpNo X0.here hx rfl (hb hby own_d2_17) rfl (XT.ii_eq_f (b106)) kont) ?_
        show own_Go p.tables e below _ (s₁.setTop (mkF m 20 #[.val (.int p1)] []))
        refine own_go (fun _ kont => XS.iloadN X0.here hx rfl (hb hby own_d2_20) rfl kont) ?_
        show own_Go p.tables e below _ (s₁.setTop (mkF m 21 #[.val (.int p1)] [(.int p1)]))
        refine own_go (fun _ kont => XS.sipush X0.here hx rfl (hb hby own_d2_21) kont) ?_
        show own_Go p.tables e below _ (s₁.setTop (mkF m 24 #[.val (.int p1)] [(.int (8210 : Int32)), (.int p1)]))
        by_cases b107 : p1 = (8210 : Int32)
        · skip
          refine own_go (fun _ kont => XS.icmpYes X0.here hx rfl (pc0 := 24) (pc' := 48) rfl (hb hby own_d2_24) rfl (XT.ii_eq_t (b107)) (by decide) (by decide) kont) ?_
          show own_Go p.tables e below _ (s₁.setTop (mkF m 48 #[.val (.int p1)] []))
          refine own_go (fun _ kont => XS.iconst X0.here hx rfl (hb hby own_d2_48) kont) ?_
          show own_Go p.tables e below _ (s₁.setTop (mkF m 49 #[.val (.int p1)] [(.int (1 : Int32))]))
          refine own_go (fun _ kont => XS.goto X0.here hx rfl (pc0 := 49) (pc' := 53) rfl (hb hby own_d2_49) (by decide) (by decide) kont) ?_
          show own_Go p.tables e below _ (s₁.setTop (mkF m 53 #[.val (.int p1)] [(.int (1 : Int32))]))
          exact own_retI X0 hx hlk hret (by simp) rfl (hb hby own_d2_53) (⟨own_1 (by unfold own_E; simp [b104, b105, b106, b107]), N0, e0⟩) (by decide) (by decide)
        · skip
          refine own_go (fun _ kont => XS.icmpNo X0.here hx rfl (hb hby own_d2_24) rfl (XT.ii_eq_f (b107)) kont) ?_
          show own_Go p.tables e below _ (s₁.setTop (mkF m 27 #[.val (.int p1)] []))
          refine own_go (fun _ kont => XS.iloadN X0.here hx rfl (hb hby own_d2_27) rfl kont) ?_
          show own_Go p.tables e below _ (s₁.setTop (mkF m 28 #[.val (.int p1)] [(.int p1)]))
          refine own_go (fun _ kont => XS.sipush X0.here hx rfl (hb hby own_d2_28) kont) ?_
          show own_Go p.tables e below _ (s₁.setTop (mkF m 31 #[.val (.int p1)] [(.int (8211 : Int32)), (.int p1)]))
          by_cases b108 : p1 = (8211 : Int32)
          · skip
            refine own_go (fun _ kont => XS.icmpYes X0.here hx rfl (pc0 := 31) (pc' := 48) rfl (hb hby own_d2_31) rfl (XT.ii_eq_t (b108)) (by decide) (by decide) kont) ?_
            show own_Go p.tables e below _ (s₁.setTop (mkF m 48 #[.val (.int p1)] []))
            refine own_go (fun _ kont => XS.iconst X0.here hx rfl (hb hby own_d2_48) kont) ?_
            show own_Go p.tables e below _ (s₁.setTop (mkF m 49 #[.val (.int p1)] [(.int (1 : Int32))]))
            refine own_go (fun _ kont => XS.goto X0.here hx rfl (pc0 := 49) (pc' := 53) rfl (hb hby own_d2_49) (by decide) (by decide) kont) ?_
            show own_Go p.tables e below _ (s₁.setTop (mkF m 53 #[.val (.int p1)] [(.int (1 : Int32))]))
            exact own_retI X0 hx hlk hret (by simp) rfl (hb hby own_d2_53) (⟨own_1 (by unfold own_E; simp [b104, b105, b106, b107, b108]), N0, e0⟩) (by decide) (by decide)
          · skip
            refine own_go (fun _ kont => XS.icmpNo X0.here hx rfl (hb hby own_d2_31) rfl (XT.ii_eq_f (b108)) kont) ?_
            show own_Go p.tables e below _ (s₁.setTop (mkF m 34 #[.val (.int p1)] []))
            refine own_go (fun _ kont => XS.iloadN X0.here hx rfl (hb hby own_d2_34) rfl kont) ?_
            show own_Go p.tables e below _ (s₁.setTop (mkF m 35 #[.val (.int p1)] [(.int p1)]))
            refine own_go (fun _ kont => XS.sipush X0.here hx rfl (hb hby own_d2_35) kont) ?_
            show own_Go p.tables e below _ (s₁.setTop (mkF m 38 #[.val (.int p1)] [(.int (8212 : Int32)), (.int p1)]))
            by_cases b109 : p1 = (8212 : Int32)
            · skip
              refine own_go (fun _ kont => XS.icmpYes X0.here hx rfl (pc0 := 38) (pc' := 48) rfl (hb hby own_d2_38) rfl (XT.ii_eq_t (b109)) (by decide) (by decide) kont) ?_
              show own_Go p.tables e below _ (s₁.setTop (mkF m 48 #[.val (.int p1)] []))
              refine own_go (fun _ kont => XS.iconst X0.here hx rfl (hb hby own_d2_48) kont) ?_
              show own_Go p.tables e below _ (s₁.setTop (mkF m 49 #[.val (.int p1)] [(.int (1 : Int32))]))
              refine own_go (fun _ kont => XS.goto X0.here hx rfl (pc0 := 49) (pc' := 53) rfl (hb hby own_d2_49) (by decide) (by decide) kont) ?_
              show own_Go p.tables e below _ (s₁.setTop (mkF m 53 #[.val (.int p1)] [(.int (1 : Int32))]))
              exact own_retI X0 hx hlk hret (by simp) rfl (hb hby own_d2_53) (⟨own_1 (by unfold own_E; simp [b104, b105, b106, b107, b108, b109]), N0, e0⟩) (by decide) (by decide)
            · skip
              refine own_go (fun _ kont => XS.icmpNo X0.here hx rfl (hb hby own_d2_38) rfl (XT.ii_eq_f (b109)) kont) ?_
              show own_Go p.tables e below _ (s₁.setTop (mkF m 41 #[.val (.int p1)] []))
              refine own_go (fun _ kont => XS.iloadN X0.here hx rfl (hb hby own_d2_41) rfl kont) ?_
              show own_Go p.tables e below _ (s₁.setTop (mkF m 42 #[.val (.int p1)] [(.int p1)]))
              refine own_go (fun _ kont => XS.sipush X0.here hx rfl (hb hby own_d2_42) kont) ?_
              show own_Go p.tables e below _ (s₁.setTop (mkF m 45 #[.val (.int p1)] [(.int (8213 : Int32)), (.int p1)]))
              by_cases b110 : p1 = (8213 : Int32)
              · skip
                refine own_go (fun _ kont => XS.icmpNo X0.here hx rfl (hb hby own_d2_45) rfl (XT.ii_ne_f (b110)) kont) ?_
                show own_Go p.tables e below _ (s₁.setTop (mkF m 48 #[.val (.int p1)] []))
                refine own_go (fun _ kont => XS.iconst X0.here hx rfl (hb hby own_d2_48) kont) ?_
                show own_Go p.tables e below _ (s₁.setTop (mkF m 49 #[.val (.int p1)] [(.int (1 : Int32))]))
                refine own_go (fun _ kont => XS.goto X0.here hx rfl (pc0 := 49) (pc' := 53) rfl (hb hby own_d2_49) (by decide) (by decide) kont) ?_
                show own_Go p.tables e below _ (s₁.setTop (mkF m 53 #[.val (.int p1)] [(.int (1 : Int32))]))
                exact own_retI X0 hx hlk hret (by simp) rfl (hb hby own_d2_53) (⟨own_1 (by unfold own_E; simp [b104, b105, b106, b107, b108, b109, b110]), N0, e0⟩) (by decide) (by decide)
              · skip
                refine own_go (fun _ kont => XS.icmpYes X0.here hx rfl (pc0 := 45) (pc' := 52) rfl (hb hby own_d2_45) rfl (XT.ii_ne_t (b110)) (by decide) (by decide) kont) ?_
                show own_Go p.tables e below _ (s₁.setTop (mkF m 52 #[.val (.int p1)] []))
                refine own_go (fun _ kont => XS.iconst X0.here hx rfl (hb hby own_d2_52) kont) ?_
                show own_Go p.tables e below _ (s₁.setTop (mkF m 53 #[.val (.int p1)] [(.int (0 : Int32))]))
                exact own_retI X0 hx hlk hret (by simp) rfl (hb hby own_d2_53) (⟨own_0 (by unfold own_E; simp [b104, b105, b106, b107, b108, b109, b110]), N0, e0⟩) (by decide) (by decide)
theorem own_rm0_ef (m : MethodId) (p1 : Int32) (p2 : Int32)  : entryFrame m #[(.int p1), (.int p2)] maxLocals = mkF m 0 #[.val (.int p1), .val (.int p2), .unset, .unset] [] := by first | (simp [entryFrame, mkF, argsToLocals, Value.category, maxLocals]; done) | rfl
set_option maxRecDepth 65536 in
set_option maxHeartbeats 40000000 in
theorem own_rm0 (l : Launch) (Z : State) (a0 : Array Value) (hw : ∀ d ∈ tables_1, d.before a0 Z = true) (ws : List Jvm.Cond) (p1 : Int32) (p2 : Int32) (h0 : Heap) (n0 : Nat) (Z0 : n0 ≤ h0.size)  :
    own_Met l x (Jvm.Cond.code x code maxLocals ret :: ws) room_1 Z h0 #[(.int p1), (.int p2)] (fun v h L => v = some (.int 1) ∧ Fr n0 L) := by
  refine own_body (pn := own_pn_0) ?_
  intro p e s m below meth c s₁ hx hby hml hown hnm hret hlk hZ X0 e0
  have N0 := Fr.nil n0
  refine own_go (fun _ kont => castTop (own_rm0_ef m p1 p2 ) kont) ?_
  show own_Go p.tables e below _ (s₁.setTop (mkF m 0 #[.val (.int p1), .val (.int p2), .unset, .unset] []))
  refine own_go (fun _ kont => XS.iloadN X0.here hx rfl (hb hby at_0) rfl kont) ?_
  show own_Go p.tables e below _ (s₁.setTop (mkF m 1 #[.val (.int p1), .val (.int p2), .unset, .unset] [(.int p2)]))
  refine own_go (fun _ kont => XS.iconst X0.here hx rfl (hb hby at_1) kont) ?_
  show own_Go p.tables e below _ (s₁.setTop (mkF m 2 #[.val (.int p1), .val (.int p2), .unset, .unset] [(.int (3 : Int32)), (.int p2)]))
  refine own_go (fun _ kont => XS.iand X0.here hx rfl (hb hby at_2) rfl kont) ?_
  show own_Go p.tables e below _ (s₁.setTop (mkF m 3 #[.val (.int p1), .val (.int p2), .unset, .unset] [(.int (p2 &&& (3 : Int32)))]))
  refine own_go (fun _ kont => XS.istoreN X0.here hx rfl (hb hby at_3) rfl (l' := #[.val (.int p1), .val (.int p2), .val (.int (p2 &&& (3 : Int32))), .unset]) rfl kont) ?_
  show own_Go p.tables e below _ (s₁.setTop (mkF m 4 #[.val (.int p1), .val (.int p2), .val (.int (p2 &&& (3 : Int32))), .unset] []))
  have cont : ∀ c0 : Int32, own_Go p.tables e below (own_Fin s below (fun v h L => v = some (.int 1) ∧ Fr n0 L) room_1.cells room_1.slots) (s₁.setTop (mkF m 56 #[.val (.int p1), .val (.int p2), .val (.int (p2 &&& (3 : Int32))), .val (.int c0)] [])) := by
    intro c0
    refine own_go (fun _ kont => XS.iloadN X0.here hx rfl (hb hby at_56) rfl kont) ?_
    show own_Go p.tables e below _ (s₁.setTop (mkF m 57 #[.val (.int p1), .val (.int p2), .val (.int (p2 &&& (3 : Int32))), .val (.int c0)] [(.int c0)]))
    refine own_callS X0 hx hZ (y := (⟨"com/example/clausewright/clausewright/SourceText", "isDash", "(C)Z"⟩ : MethodName)) (argsL := [(.int c0)]) (rest := []) (W := 0) hown (hw _ (List.mem_of_getElem? (i := 0) rfl)) (hw _ (List.mem_of_getElem? (i := 1) rfl)) (hw _ (List.mem_of_getElem? (i := 2) rfl)) (hw _ (List.mem_of_getElem? (i := 3) rfl)) (by decide) (own_rm1 l Z a0 hw c0 h0 n0 Z0) e0 (by decide) (by decide) (by decide) (by decide) (by rw [hml]; rfl) (lenOf own_pd__C_Z rfl) rfl (Nat.le_of_eq rfl) (hb hby at_57) ?_
    rintro _ T111 L111 X111 ⟨rfl, N111, e111⟩
    show own_Go p.tables e below _ (T111.setTop (mkF m 60 #[.val (.int p1), .val (.int p2), .val (.int (p2 &&& (3 : Int32))), .val (.int c0)] [(.int (own_b (own_D c0)))]))
    refine own_go (fun _ kont => XS.iloadN X111.here hx rfl (hb hby at_60) rfl kont) ?_
    show own_Go p.tables e below _ (T111.setTop (mkF m 61 #[.val (.int p1), .val (.int p2), .val (.int (p2 &&& (3 : Int32))), .val (.int c0)] [(.int c0), (.int (own_b (own_D c0)))]))
    refine own_callS X111 hx hZ (y := (⟨"com/example/clausewright/clausewright/SourceTextIsDashPinLaw", "expectedDash", "(C)Z"⟩ : MethodName)) (argsL := [(.int c0)]) (rest := [(.int (own_b (own_D c0)))]) (W := 1) hown (hw _ (List.mem_of_getElem? (i := 4) rfl)) (hw _ (List.mem_of_getElem? (i := 5) rfl)) (hw _ (List.mem_of_getElem? (i := 6) rfl)) (hw _ (List.mem_of_getElem? (i := 7) rfl)) (by decide) (own_rm2 l Z a0 hw c0 h0 n0 Z0) e111 (by decide) (by decide) (by decide) (by decide) (by rw [hml]; rfl) (lenOf own_pd__C_Z rfl) rfl (Nat.le_of_eq rfl) (hb hby at_61) ?_
    rintro _ T112 L112 X112 ⟨rfl, N112, e112⟩
    show own_Go p.tables e below _ (T112.setTop (mkF m 64 #[.val (.int p1), .val (.int p2), .val (.int (p2 &&& (3 : Int32))), .val (.int c0)] [(.int (own_b (own_E c0))), (.int (own_b (own_D c0)))]))
    refine own_go (fun _ kont => XS.icmpNo X112.here hx rfl (hb hby at_64) rfl (XT.ii_ne_f (own_DEb c0)) kont) ?_
    show own_Go p.tables e below _ (T112.setTop (mkF m 67 #[.val (.int p1), .val (.int p2), .val (.int (p2 &&& (3 : Int32))), .val (.int c0)] []))
    refine own_go (fun _ kont => XS.iconst X112.here hx rfl (hb hby at_67) kont) ?_
    show own_Go p.tables e below _ (T112.setTop (mkF m 68 #[.val (.int p1), .val (.int p2), .val (.int (p2 &&& (3 : Int32))), .val (.int c0)] [(.int (1 : Int32))]))
    refine own_go (fun _ kont => XS.goto X112.here hx rfl (pc0 := 68) (pc' := 72) rfl (hb hby at_68) (by decide) (by decide) kont) ?_
    show own_Go p.tables e below _ (T112.setTop (mkF m 72 #[.val (.int p1), .val (.int p2), .val (.int (p2 &&& (3 : Int32))), .val (.int c0)] [(.int (1 : Int32))]))
    exact own_retI X112 hx hlk hret (by simp) rfl (hb hby at_72) (⟨rfl, Fr.app (Fr.app N0 N111) N112⟩) (by decide) (by decide)
  show own_Go p.tables e below _ (s₁.setTop (mkF m 4 #[.val (.int p1), .val (.int p2), .val (.int (p2 &&& (3 : Int32))), .unset] []))
  refine own_go (fun _ kont => XS.iloadN X0.here hx rfl (hb hby at_4) rfl kont) ?_
  show own_Go p.tables e below _ (s₁.setTop (mkF m 5 #[.val (.int p1), .val (.int p2), .val (.int (p2 &&& (3 : Int32))), .unset] [(.int (p2 &&& (3 : Int32)))]))
  by_cases b113 : (p2 &&& (3 : Int32)) = 0
  · skip
    refine own_go (fun _ kont => XS.ifNo X0.here hx rfl (hb hby at_5) rfl (XT.i0_ne_f (b113)) kont) ?_
    show own_Go p.tables e below _ (s₁.setTop (mkF m 8 #[.val (.int p1), .val (.int p2), .val (.int (p2 &&& (3 : Int32))), .unset] []))
    refine own_go (fun _ kont => XS.iloadN X0.here hx rfl (hb hby at_8) rfl kont) ?_
    show own_Go p.tables e below _ (s₁.setTop (mkF m 9 #[.val (.int p1), .val (.int p2), .val (.int (p2 &&& (3 : Int32))), .unset] [(.int p1)]))
    refine own_go (fun _ kont => XS.i2c X0.here hx rfl (hb hby at_9) rfl kont) ?_
    show own_Go p.tables e below _ (s₁.setTop (mkF m 10 #[.val (.int p1), .val (.int p2), .val (.int (p2 &&& (3 : Int32))), .unset] [(.int (p1.toUInt32.toUInt16.toUInt32.toInt32))]))
    refine own_go (fun _ kont => XS.istoreN X0.here hx rfl (hb hby at_10) rfl (l' := #[.val (.int p1), .val (.int p2), .val (.int (p2 &&& (3 : Int32))), .val (.int (p1.toUInt32.toUInt16.toUInt32.toInt32))]) rfl kont) ?_
    show own_Go p.tables e below _ (s₁.setTop (mkF m 11 #[.val (.int p1), .val (.int p2), .val (.int (p2 &&& (3 : Int32))), .val (.int (p1.toUInt32.toUInt16.toUInt32.toInt32))] []))
    refine own_go (fun _ kont => XS.goto X0.here hx rfl (pc0 := 11) (pc' := 56) rfl (hb hby at_11) (by decide) (by decide) kont) ?_
    show own_Go p.tables e below _ (s₁.setTop (mkF m 56 #[.val (.int p1), .val (.int p2), .val (.int (p2 &&& (3 : Int32))), .val (.int (p1.toUInt32.toUInt16.toUInt32.toInt32))] []))
    exact cont _
  · skip
    refine own_go (fun _ kont => XS.ifYes X0.here hx rfl (pc0 := 5) (pc' := 14) rfl (hb hby at_5) rfl (XT.i0_ne_t (b113)) (by decide) (by decide) kont) ?_
    show own_Go p.tables e below _ (s₁.setTop (mkF m 14 #[.val (.int p1), .val (.int p2), .val (.int (p2 &&& (3 : Int32))), .unset] []))
    refine own_go (fun _ kont => XS.iloadN X0.here hx rfl (hb hby at_14) rfl kont) ?_
    show own_Go p.tables e below _ (s₁.setTop (mkF m 15 #[.val (.int p1), .val (.int p2), .val (.int (p2 &&& (3 : Int32))), .unset] [(.int (p2 &&& (3 : Int32)))]))
    refine own_go (fun _ kont => XS.iconst X0.here hx rfl (hb hby at_15) kont) ?_
    show own_Go p.tables e below _ (s₁.setTop (mkF m 16 #[.val (.int p1), .val (.int p2), .val (.int (p2 &&& (3 : Int32))), .unset] [(.int (1 : Int32)), (.int (p2 &&& (3 : Int32)))]))
    by_cases b114 : (p2 &&& (3 : Int32)) = (1 : Int32)
    · skip
      refine own_go (fun _ kont => XS.icmpNo X0.here hx rfl (hb hby at_16) rfl (XT.ii_ne_f (b114)) kont) ?_
      show own_Go p.tables e below _ (s₁.setTop (mkF m 19 #[.val (.int p1), .val (.int p2), .val (.int (p2 &&& (3 : Int32))), .unset] []))
      refine own_go (fun _ kont => XS.sipush X0.here hx rfl (hb hby at_19) kont) ?_
      show own_Go p.tables e below _ (s₁.setTop (mkF m 22 #[.val (.int p1), .val (.int p2), .val (.int (p2 &&& (3 : Int32))), .unset] [(.int (8204 : Int32))]))
      refine own_go (fun _ kont => XS.iloadN X0.here hx rfl (hb hby at_22) rfl kont) ?_
      show own_Go p.tables e below _ (s₁.setTop (mkF m 23 #[.val (.int p1), .val (.int p2), .val (.int (p2 &&& (3 : Int32))), .unset] [(.int p1), (.int (8204 : Int32))]))
      refine own_go (fun _ kont => XS.bipush X0.here hx rfl (hb hby at_23) kont) ?_
      show own_Go p.tables e below _ (s₁.setTop (mkF m 25 #[.val (.int p1), .val (.int p2), .val (.int (p2 &&& (3 : Int32))), .unset] [(.int (15 : Int32)), (.int p1), (.int (8204 : Int32))]))
      refine own_go (fun _ kont => XS.iand X0.here hx rfl (hb hby at_25) rfl kont) ?_
      show own_Go p.tables e below _ (s₁.setTop (mkF m 26 #[.val (.int p1), .val (.int p2), .val (.int (p2 &&& (3 : Int32))), .unset] [(.int (p1 &&& (15 : Int32))), (.int (8204 : Int32))]))
      refine own_go (fun _ kont => XS.iadd X0.here hx rfl (hb hby at_26) rfl kont) ?_
      show own_Go p.tables e below _ (s₁.setTop (mkF m 27 #[.val (.int p1), .val (.int p2), .val (.int (p2 &&& (3 : Int32))), .unset] [(.int ((8204 : Int32) + (p1 &&& (15 : Int32))))]))
      refine own_go (fun _ kont => XS.i2c X0.here hx rfl (hb hby at_27) rfl kont) ?_
      show own_Go p.tables e below _ (s₁.setTop (mkF m 28 #[.val (.int p1), .val (.int p2), .val (.int (p2 &&& (3 : Int32))), .unset] [(.int (((8204 : Int32) + (p1 &&& (15 : Int32))).toUInt32.toUInt16.toUInt32.toInt32))]))
      refine own_go (fun _ kont => XS.istoreN X0.here hx rfl (hb hby at_28) rfl (l' := #[.val (.int p1), .val (.int p2), .val (.int (p2 &&& (3 : Int32))), .val (.int (((8204 : Int32) + (p1 &&& (15 : Int32))).toUInt32.toUInt16.toUInt32.toInt32))]) rfl kont) ?_
      show own_Go p.tables e below _ (s₁.setTop (mkF m 29 #[.val (.int p1), .val (.int p2), .val (.int (p2 &&& (3 : Int32))), .val (.int (((8204 : Int32) + (p1 &&& (15 : Int32))).toUInt32.toUInt16.toUInt32.toInt32))] []))
      refine own_go (fun _ kont => XS.goto X0.here hx rfl (pc0 := 29) (pc' := 56) rfl (hb hby at_29) (by decide) (by decide) kont) ?_
      show own_Go p.tables e below _ (s₁.setTop (mkF m 56 #[.val (.int p1), .val (.int p2), .val (.int (p2 &&& (3 : Int32))), .val (.int (((8204 : Int32) + (p1 &&& (15 : Int32))).toUInt32.toUInt16.toUInt32.toInt32))] []))
      exact cont _
    · skip
      refine own_go (fun _ kont => XS.icmpYes X0.here hx rfl (pc0 := 16) (pc' := 32) rfl (hb hby at_16) rfl (XT.ii_ne_t (b114)) (by decide) (by decide) kont) ?_
      show own_Go p.tables e below _ (s₁.setTop (mkF m 32 #[.val (.int p1), .val (.int p2), .val (.int (p2 &&& (3 : Int32))), .unset] []))
      refine own_go (fun _ kont => XS.iloadN X0.here hx rfl (hb hby at_32) rfl kont) ?_
      show own_Go p.tables e below _ (s₁.setTop (mkF m 33 #[.val (.int p1), .val (.int p2), .val (.int (p2 &&& (3 : Int32))), .unset] [(.int (p2 &&& (3 : Int32)))]))
      refine own_go (fun _ kont => XS.iconst X0.here hx rfl (hb hby at_33) kont) ?_
      show own_Go p.tables e below _ (s₁.setTop (mkF m 34 #[.val (.int p1), .val (.int p2), .val (.int (p2 &&& (3 : Int32))), .unset] [(.int (2 : Int32)), (.int (p2 &&& (3 : Int32)))]))
      by_cases b115 : (p2 &&& (3 : Int32)) = (2 : Int32)
      · skip
        refine own_go (fun _ kont => XS.icmpNo X0.here hx rfl (hb hby at_34) rfl (XT.ii_ne_f (b115)) kont) ?_
        show own_Go p.tables e below _ (s₁.setTop (mkF m 37 #[.val (.int p1), .val (.int p2), .val (.int (p2 &&& (3 : Int32))), .unset] []))
        refine own_go (fun _ kont => XS.bipush X0.here hx rfl (hb hby at_37) kont) ?_
        show own_Go p.tables e below _ (s₁.setTop (mkF m 39 #[.val (.int p1), .val (.int p2), .val (.int (p2 &&& (3 : Int32))), .unset] [(.int (40 : Int32))]))
        refine own_go (fun _ kont => XS.iloadN X0.here hx rfl (hb hby at_39) rfl kont) ?_
        show own_Go p.tables e below _ (s₁.setTop (mkF m 40 #[.val (.int p1), .val (.int p2), .val (.int (p2 &&& (3 : Int32))), .unset] [(.int p1), (.int (40 : Int32))]))
        refine own_go (fun _ kont => XS.bipush X0.here hx rfl (hb hby at_40) kont) ?_
        show own_Go p.tables e below _ (s₁.setTop (mkF m 42 #[.val (.int p1), .val (.int p2), .val (.int (p2 &&& (3 : Int32))), .unset] [(.int (7 : Int32)), (.int p1), (.int (40 : Int32))]))
        refine own_go (fun _ kont => XS.iand X0.here hx rfl (hb hby at_42) rfl kont) ?_
        show own_Go p.tables e below _ (s₁.setTop (mkF m 43 #[.val (.int p1), .val (.int p2), .val (.int (p2 &&& (3 : Int32))), .unset] [(.int (p1 &&& (7 : Int32))), (.int (40 : Int32))]))
        refine own_go (fun _ kont => XS.iadd X0.here hx rfl (hb hby at_43) rfl kont) ?_
        show own_Go p.tables e below _ (s₁.setTop (mkF m 44 #[.val (.int p1), .val (.int p2), .val (.int (p2 &&& (3 : Int32))), .unset] [(.int ((40 : Int32) + (p1 &&& (7 : Int32))))]))
        refine own_go (fun _ kont => XS.i2c X0.here hx rfl (hb hby at_44) rfl kont) ?_
        show own_Go p.tables e below _ (s₁.setTop (mkF m 45 #[.val (.int p1), .val (.int p2), .val (.int (p2 &&& (3 : Int32))), .unset] [(.int (((40 : Int32) + (p1 &&& (7 : Int32))).toUInt32.toUInt16.toUInt32.toInt32))]))
        refine own_go (fun _ kont => XS.istoreN X0.here hx rfl (hb hby at_45) rfl (l' := #[.val (.int p1), .val (.int p2), .val (.int (p2 &&& (3 : Int32))), .val (.int (((40 : Int32) + (p1 &&& (7 : Int32))).toUInt32.toUInt16.toUInt32.toInt32))]) rfl kont) ?_
        show own_Go p.tables e below _ (s₁.setTop (mkF m 46 #[.val (.int p1), .val (.int p2), .val (.int (p2 &&& (3 : Int32))), .val (.int (((40 : Int32) + (p1 &&& (7 : Int32))).toUInt32.toUInt16.toUInt32.toInt32))] []))
        refine own_go (fun _ kont => XS.goto X0.here hx rfl (pc0 := 46) (pc' := 56) rfl (hb hby at_46) (by decide) (by decide) kont) ?_
        show own_Go p.tables e below _ (s₁.setTop (mkF m 56 #[.val (.int p1), .val (.int p2), .val (.int (p2 &&& (3 : Int32))), .val (.int (((40 : Int32) + (p1 &&& (7 : Int32))).toUInt32.toUInt16.toUInt32.toInt32))] []))
        exact cont _
      · skip
        refine own_go (fun _ kont => XS.icmpYes X0.here hx rfl (pc0 := 34) (pc' := 49) rfl (hb hby at_34) rfl (XT.ii_ne_t (b115)) (by decide) (by decide) kont) ?_
        show own_Go p.tables e below _ (s₁.setTop (mkF m 49 #[.val (.int p1), .val (.int p2), .val (.int (p2 &&& (3 : Int32))), .unset] []))
        refine own_go (fun _ kont => XS.iloadN X0.here hx rfl (hb hby at_49) rfl kont) ?_
        show own_Go p.tables e below _ (s₁.setTop (mkF m 50 #[.val (.int p1), .val (.int p2), .val (.int (p2 &&& (3 : Int32))), .unset] [(.int p1)]))
        refine own_go (fun _ kont => XS.sipush X0.here hx rfl (hb hby at_50) kont) ?_
        show own_Go p.tables e below _ (s₁.setTop (mkF m 53 #[.val (.int p1), .val (.int p2), .val (.int (p2 &&& (3 : Int32))), .unset] [(.int (255 : Int32)), (.int p1)]))
        refine own_go (fun _ kont => XS.iand X0.here hx rfl (hb hby at_53) rfl kont) ?_
        show own_Go p.tables e below _ (s₁.setTop (mkF m 54 #[.val (.int p1), .val (.int p2), .val (.int (p2 &&& (3 : Int32))), .unset] [(.int (p1 &&& (255 : Int32)))]))
        refine own_go (fun _ kont => XS.i2c X0.here hx rfl (hb hby at_54) rfl kont) ?_
        show own_Go p.tables e below _ (s₁.setTop (mkF m 55 #[.val (.int p1), .val (.int p2), .val (.int (p2 &&& (3 : Int32))), .unset] [(.int ((p1 &&& (255 : Int32)).toUInt32.toUInt16.toUInt32.toInt32))]))
        refine own_go (fun _ kont => XS.istoreN X0.here hx rfl (hb hby at_55) rfl (l' := #[.val (.int p1), .val (.int p2), .val (.int (p2 &&& (3 : Int32))), .val (.int ((p1 &&& (255 : Int32)).toUInt32.toUInt16.toUInt32.toInt32))]) rfl kont) ?_
        show own_Go p.tables e below _ (s₁.setTop (mkF m 56 #[.val (.int p1), .val (.int p2), .val (.int (p2 &&& (3 : Int32))), .val (.int ((p1 &&& (255 : Int32)).toUInt32.toUInt16.toUInt32.toInt32))] []))
        exact cont _
set_option maxRecDepth 65536 in
set_option maxHeartbeats 40000000 in
theorem own_comes {Post : Tables → Env → Array Value → State → Outcome → State → Prop} (hpost : ∀ tb e args s v u, (limb_1_1.after args s (.returned v) u = true ∧ limb_1_2.after args s (.returned v) u = true) → FrameEnd s (.returned v) u (Jvm.fieldLocs frame_1_writes args s ++ Jvm.arrayLocs frame_1_arrays args s ++ Jvm.staticLocs frame_1_statics s) 0 0 → Post tb e args s (.returned v) u) :
    ArmFor flags0 classFile x code maxLocals ret World_1 tables_1 room_1 Calls_1 rest_1 Pre_1 Post := by
  intro l hfl _ _ p e ha hc hk s m args below hf hA hF happ hP
  obtain ⟨hcalls, hrest, hpre⟩ := hP
  obtain ⟨-, -, -, hnamed, -, -, -, hat⟩ := (Spec.applies_iff hf).mp happ
  obtain ⟨hg, hn⟩ := and_e (Cond.before_iff.mp (show (Jvm.Cond.and given_1 narrow_1).before args s = true from hpre))
  obtain ⟨g0, g1⟩ := and_e hg
  obtain ⟨i0, g2⟩ := and_e g1
  have i1 := g2
  obtain ⟨w0, w1, rfl⟩ : ∃ w0 w1 : Value, args = #[w0, w1] := by
    have hs : args.size = 2 := by simpa [Cond.value, given_1] using g0
    obtain ⟨L⟩ := args
    match L, hs with
    | [w0, w1], _ => exact ⟨w0, w1, rfl⟩
  have hw := fun d (hd : d ∈ tables_1) => atoms_spec (ws := Jvm.Cond.code x code maxLocals ret :: tables_1) hat d (List.mem_cons_of_mem _ hd)
  have hfit : Fit s := fun {y c} hc i hi => by
    obtain ⟨ha, rfl⟩ := Array.getElem?_eq_some_iff.mp hc
    have q := List.all_eq_true.mp ((Array.all_eq_true_iff_forall_mem.mp hF) _ (Array.getElem_mem ha)) i (List.mem_range.mpr hi)
    simpa [Array.getElem?_eq_getElem hi] using q
  obtain ⟨z0, ez0⟩ := is_v i0
  obtain rfl : w0 = (.int z0) := Option.some.inj ez0
  obtain ⟨z1, ez1⟩ := is_v i1
  obtain rfl : w1 = (.int z1) := Option.some.inj ez1
  obtain ⟨n, o, h1, h2, h3, _, L, rfl, ⟨rfl, N⟩, hq⟩ := own_rm0 l s _ hw tables_1 z0 z1 s.heap s.heap.size (Nat.le_refl _) p e ha hc hk s m _ below hf ((Spec.applies_iff_loose hf).mp happ).1 ⟨rfl, State.Warmed39.refl s, rfl⟩ trivial
  refine ⟨n, _, h1, h2, h3, hpost _ _ _ _ _ _ ⟨Cond.after_iff.mpr rfl, Cond.after_iff.mpr (eq_i res_at (Term.int_eval (1)) rfl)⟩ ⟨hq.1, hq.2.1, (hq.2.2.sift fun y hy => Or.inr (N y hy)).mono (by decide) (by decide)⟩⟩
theorem main_1_1 : Claimed_1_1 := own_comes fun _ _ _ _ _ _ h hF => ⟨h.1, hF⟩
theorem main_1_2 : Claimed_1_2 := own_comes fun _ _ _ _ _ _ h hF => ⟨h.2, hF⟩
end Jvm.Pilot.@@N@@
namespace Jvm.Pilot.@@N@@
open Jvm Jvm.ClassFile Sem Op Lib Jvm.Free Jvm.Stand Jvm.Pilot.@@N@@.Jvm.D
/-! MADE BY PROGRAM (witnessworld.py) out of the Statement's table words and the real class files: 9 classes; the members and pool entries that the words name. The judged class is class 1, her method 2. -/
namespace start1
open Jvm.ClassFile
def u (s : String) : CpInfo := .utf8 (stringToUtf16 s)
/-- a pool by its gaps: so many unusable entries, then the entry; so many at the end -/
def gap : Nat → List CpInfo → List CpInfo
  | 0, r => r
  | n + 1, r => .unusable :: gap n r
def poolList (es : List (Nat × CpInfo)) (last : Nat) : List CpInfo := es.foldr (fun e r => gap e.1 (e.2 :: r)) (gap last [])
def pool (es : List (Nat × CpInfo)) (last : Nat) : Array CpInfo := ⟨poolList es last⟩
def fileOf (pool : Array CpInfo) (this : Nat) (attrs : Array Attribute := #[]) (ms : Array MethodInfo := #[]) (fl : Nat := 33) (sup : Nat := 0) (ifs : Array Nat := #[]) (fds : Array FieldInfo := #[]) : ClassFile where
  minorVersion := 0
  majorVersion := 65
  constantPool := pool
  accessFlags := fl
  thisClass := this
  superClass := sup
  interfaces := ifs
  fields := fds
  methods := ms
  attributes := attrs
def plain (name : String) (sup : Option ClassId) : Class where
  name := name
  kind := .ordinary
  loader := none
  accessFlags := 33
  super := sup
  interfaces := #[]
  cf := none
  fields := #[]
  methods := #[]
  instanceTypes := #[]
  staticTypes := #[]
  resolved := #[]
  callSites := []
  init := .initialized
  statics := none
  mirror := none

def pool0 : Array CpInfo := pool [(5, u "<init>"), (0, u "()V"), (1, .class_ 10), (1, u "java/lang/Object")] 113

def k0m0 : Method := { name := "<init>", desc := "()V", sig := { parameters := [], returnType := none }, accessFlags := 1, code := none }
/-- java/lang/Object -/
def k0 : Class := { plain "java/lang/Object" none with
  accessFlags := 33
  interfaces := #[]
  cf := some (fileOf pool0 8 #[] #[{ accessFlags := 1, nameIndex := 5, descriptorIndex := 6, attributes := #[] }] 33 0 #[] #[])
  fields := #[]
  methods := #[k0m0]
  instanceTypes := #[]
  staticTypes := #[]
  resolved := Array.replicate 124 none
  statics := none }

def pool1 : Array CpInfo := pool [(2, .class_ 4), (1, u "java/lang/Object"), (0, u "<init>"), (0, u "()V"), (0, .methodref 8 9), (0, .class_ 10), (0, .nameAndType 11 12), (0, u "com/example/clausewright/clausewright/SourceText"), (0, u "isDash"), (0, u "(C)Z"), (0, .methodref 14 15), (0, .class_ 16), (0, .nameAndType 17 12), (0, u "com/example/clausewright/clausewright/SourceTextIsDashPinLaw"), (0, u "expectedDash"), (3, u "law"), (0, u "(II)Z")] 2

def k1m0 : Method := { name := "<init>", desc := "()V", sig := { parameters := [], returnType := none }, accessFlags := 2, code := none }
def k1c1 : Code := { maxStack := 2, maxLocals := 1, code := method_2_code, exceptionTable := #[], attributes := #[] }
def k1m1 : Method := { name := "expectedDash", desc := "(C)Z", sig := { parameters := [.char], returnType := some .boolean }, accessFlags := 10, code := some k1c1 }
def k1c2 : Code := { maxStack := 3, maxLocals := 4, code := code, exceptionTable := #[], attributes := #[] }
def k1m2 : Method := { name := "law", desc := "(II)Z", sig := { parameters := [.int, .int], returnType := some .boolean }, accessFlags := 9, code := some k1c2 }
/-- com/example/clausewright/clausewright/SourceTextIsDashPinLaw -/
def k1 : Class := { plain "com/example/clausewright/clausewright/SourceTextIsDashPinLaw" (some 0) with
  accessFlags := 49
  interfaces := #[]
  cf := some (fileOf pool1 14 #[] #[{ accessFlags := 2, nameIndex := 5, descriptorIndex := 6, attributes := #[] }, { accessFlags := 10, nameIndex := 17, descriptorIndex := 12, attributes := #[] }, { accessFlags := 9, nameIndex := 21, descriptorIndex := 22, attributes := #[] }] 49 2 #[] #[])
  fields := #[]
  methods := #[k1m0, k1m1, k1m2]
  instanceTypes := #[]
  staticTypes := #[]
  resolved := Array.replicate 25 none
  statics := none }

def pool2 : Array CpInfo := pool [(2, .class_ 4), (1, u "java/lang/Object"), (3, .class_ 10), (1, u "com/example/clausewright/clausewright/SourceText"), (0, u "chars"), (0, u "[C"), (2, u "shiftStarts"), (0, u "[I"), (2, u "shifts"), (0, .class_ 21), (0, u "com/example/clausewright/clausewright/SourceText$Decoder"), (9, u "text"), (0, u "Ljava/lang/String;"), (39, u "(C)Z"), (2, u "CLASSES"), (0, u "[[B"), (28, u "FOLDS"), (0, u "[[C"), (8, u "COMMON_BLOCKS"), (6, u "REPLACEMENT"), (0, u "C"), (2, u "SPACE"), (0, u "I"), (1, u "LETTER"), (1, u "DIGIT"), (1, u "QUOTE_MARK"), (1, u "ROUND_BRACKET"), (13, u "isDash")] 11

def k2c0 : Code := { maxStack := 2, maxLocals := 1, code := prog_72_method_11_code, exceptionTable := #[], attributes := #[] }
def k2m0 : Method := { name := "isDash", desc := "(C)Z", sig := { parameters := [.char], returnType := some .boolean }, accessFlags := 8, code := some k2c0 }
/-- com/example/clausewright/clausewright/SourceText -/
def k2 : Class := { plain "com/example/clausewright/clausewright/SourceText" (some 0) with
  accessFlags := 33
  interfaces := #[]
  cf := some (fileOf pool2 8 #[.nestMembers #[20]] #[{ accessFlags := 8, nameIndex := 149, descriptorIndex := 72, attributes := #[] }] 33 2 #[] #[{ accessFlags := 26, nameIndex := 122, descriptorIndex := 123, attributes := #[] }, { accessFlags := 26, nameIndex := 126, descriptorIndex := 127, attributes := #[] }, { accessFlags := 26, nameIndex := 129, descriptorIndex := 127, attributes := #[] }, { accessFlags := 26, nameIndex := 131, descriptorIndex := 127, attributes := #[] }, { accessFlags := 26, nameIndex := 133, descriptorIndex := 127, attributes := #[] }, { accessFlags := 26, nameIndex := 135, descriptorIndex := 127, attributes := #[] }, { accessFlags := 26, nameIndex := 115, descriptorIndex := 16, attributes := #[] }, { accessFlags := 26, nameIndex := 75, descriptorIndex := 76, attributes := #[] }, { accessFlags := 26, nameIndex := 105, descriptorIndex := 106, attributes := #[] }, { accessFlags := 18, nameIndex := 11, descriptorIndex := 12, attributes := #[] }, { accessFlags := 2, nameIndex := 31, descriptorIndex := 32, attributes := #[] }, { accessFlags := 18, nameIndex := 15, descriptorIndex := 16, attributes := #[] }, { accessFlags := 18, nameIndex := 19, descriptorIndex := 16, attributes := #[] }])
  fields := #[{ name := "REPLACEMENT", type := .char, accessFlags := 26, slot := 0, constantValue := 0 }, { name := "SPACE", type := .int, accessFlags := 26, slot := 1, constantValue := 0 }, { name := "LETTER", type := .int, accessFlags := 26, slot := 2, constantValue := 0 }, { name := "DIGIT", type := .int, accessFlags := 26, slot := 3, constantValue := 0 }, { name := "QUOTE_MARK", type := .int, accessFlags := 26, slot := 4, constantValue := 0 }, { name := "ROUND_BRACKET", type := .int, accessFlags := 26, slot := 5, constantValue := 0 }, { name := "COMMON_BLOCKS", type := (.array .int), accessFlags := 26, slot := 6, constantValue := 0 }, { name := "CLASSES", type := (.array (.array .byte)), accessFlags := 26, slot := 7, constantValue := 0 }, { name := "FOLDS", type := (.array (.array .char)), accessFlags := 26, slot := 8, constantValue := 0 }, { name := "chars", type := (.array .char), accessFlags := 18, slot := 0, constantValue := 0 }, { name := "text", type := (.object "java/lang/String"), accessFlags := 2, slot := 1, constantValue := 0 }, { name := "shiftStarts", type := (.array .int), accessFlags := 18, slot := 2, constantValue := 0 }, { name := "shifts", type := (.array .int), accessFlags := 18, slot := 3, constantValue := 0 }]
  methods := #[k2m0]
  instanceTypes := #[(.array .char), (.object "java/lang/String"), (.array .int), (.array .int)]
  staticTypes := #[.char, .int, .int, .int, .int, .int, (.array .int), (.array (.array .byte)), (.array (.array .char))]
  resolved := Array.replicate 161 none
  statics := none }

def pool3 : Array CpInfo := pool [(1, u "java/lang/Cloneable"), (0, .class_ 1), (0, u "java/lang/Object"), (0, .class_ 3)] 3

/-- java/lang/Cloneable -/
def k3 : Class := { plain "java/lang/Cloneable" (some 0) with
  accessFlags := 1537
  interfaces := #[]
  cf := some (fileOf pool3 2 #[] #[] 1537 4 #[] #[])
  fields := #[]
  methods := #[]
  instanceTypes := #[]
  staticTypes := #[]
  resolved := Array.replicate 8 none
  statics := none }

def pool4 : Array CpInfo := pool [(1, u "java/io/Serializable"), (0, .class_ 1), (0, u "java/lang/Object"), (0, .class_ 3)] 3

/-- java/io/Serializable -/
def k4 : Class := { plain "java/io/Serializable" (some 0) with
  accessFlags := 1537
  interfaces := #[]
  cf := some (fileOf pool4 2 #[] #[] 1537 4 #[] #[])
  fields := #[]
  methods := #[]
  instanceTypes := #[]
  staticTypes := #[]
  resolved := Array.replicate 8 none
  statics := none }

/-- the primitive byte -/
def k5 : Class := { plain "byte" none with kind := .primitive 'B', accessFlags := 0x411 }
/-- [B -/
def k6 : Class := { plain "[B" (some 0) with kind := .array 5 .byte, interfaces := #[3, 4], accessFlags := 1041 }

/-- the primitive int -/
def k7 : Class := { plain "int" none with kind := .primitive 'I', accessFlags := 0x411 }
/-- [I -/
def k8 : Class := { plain "[I" (some 0) with kind := .array 7 .int, interfaces := #[3, 4], accessFlags := 1041 }

def heap : Heap := #[]
def classes : Array Class := #[k0, k1, k2, k3, k4, k5, k6, k7, k8]
def interned : List (Array UInt16 × Addr) := []
def slotsUsed : Nat := 0
def theMethod : MethodId := ⟨1, 2⟩
def args0 : Array Value := #[.int 5, .int 300]
def aboutOver (below : List Frame) : State where
  vm := { classes := classes, interned := interned.toArray }
  heap := heap
  slotsUsed := slotsUsed
  threads := #[{ frames := .invoking theMethod args0 :: below }]
def below0 : List Frame := [.native { method := ⟨0, 0⟩, args := #[] }]
def about1 : State := aboutOver below0
def p0 : Program := .bare "" "" ""
def e0 : Env := launch0.env 0 0 0
theorem w_frames : about1.frames = Frame.invoking theMethod args0 :: below0 := rfl
set_option maxRecDepth 65536 in
theorem w_args : argsFit about1.vm theMethod args0 = true := by decide +kernel
set_option maxRecDepth 65536 in
theorem w_heap : heapFits about1 = true := by decide +kernel
set_option maxRecDepth 65536 in
theorem w_runnable : about1.curStatus? = some .runnable := by decide +kernel
set_option maxRecDepth 65536 in
theorem w_alone : about1.alone = true := by decide +kernel
set_option maxRecDepth 65536 in
theorem w_named : about1.methodNamed? x = some theMethod := by decide +kernel
set_option maxRecDepth 65536 in
theorem w_hears : about1.hears theMethod below0 = true := by decide +kernel
set_option maxRecDepth 65536 in
theorem w_ripe : about1.ripe theMethod args0 below0 = true := by decide +kernel
theorem w_running : about1.status = .running := rfl
set_option maxRecDepth 65536 in
theorem w_room : about1.hasRoom e0.platform room_1 = true :=
  launch0.hasRoom_least _ room_1 (by decide +kernel) (by decide +kernel) (by decide +kernel) (by decide +kernel) (by decide +kernel) (by decide +kernel)
theorem allAtoms_all (ts : List Jvm.Cond) (a : Array Jvm.Value) (st : Jvm.State) : (allAtoms ts).before a st = ts.all (fun c => c.before a st) := by
  induction ts with
  | nil => rfl
  | cons c t ih =>
    show (Jvm.Cond.and c (allAtoms t)).before a st = _
    rw [Jvm.Cond.before_and, ih, List.all_cons]
def words1 : List Jvm.Cond := Jvm.Cond.code x code maxLocals ret :: tables_1
/-- a 'code' word, met by the world's own term for the bytes: nothing is compared byte by byte -/
theorem code_word {y : MethodName} {bytes : ByteArray} {mx : Nat} {rt : Option FieldType} {a : Array Value} {s : State} {m : MethodId} {meth : Method} {c : Code} (h1 : s.methodNamed? y = some m) (h2 : s.vm.method? m = some meth) (h3 : meth.code = some c) (h4 : c.code = bytes)
    (h5 : (c.maxLocals == mx && c.exceptionTable.isEmpty && decide (c.maxStack ≤ mostOperands) && decide (meth.sig.returnType = rt) && !meth.locks && decide (parseMethodDescriptor y.desc = some meth.sig)) = true) : (Jvm.Cond.code y bytes mx rt).before a s = true := by
  simp only [Bool.and_eq_true, beq_iff_eq, Bool.not_eq_true', decide_eq_true_eq] at h5
  obtain ⟨⟨⟨⟨⟨g1, g2⟩, g3⟩, g4⟩, g5⟩, g6⟩ := h5
  simp [Cond.before, Cond.holds, Cond.value, h1, h2, h3, h4, g1, g2, g3, g4, g5, g6]
def isCode : Jvm.Cond → Bool
  | .code _ _ _ _ => true
  | _ => false
theorem all_split {L : List Jvm.Cond} {P : Jvm.Cond → Bool} (h1 : L.all (fun c => isCode c || P c) = true) (h2 : ∀ c ∈ L.filter isCode, P c = true) : L.all P = true := by
  refine List.all_eq_true.mpr fun c hc => ?_
  have h := List.all_eq_true.mp h1 c hc
  rcases Bool.eq_false_or_eq_true (isCode c) with hi | hi
  · exact h2 c (List.mem_filter.mpr ⟨hc, hi⟩)
  · simpa [hi] using h
set_option maxRecDepth 65536 in
theorem w_c0 : (Jvm.Cond.code x code maxLocals ret).before args0 about1 = true := code_word (m := ⟨1, 2⟩) (meth := k1m2) (c := k1c2) (by decide +kernel) rfl rfl rfl (by decide +kernel)
set_option maxRecDepth 65536 in
theorem w_c1 : (Jvm.Cond.code ({ cls := "com/example/clausewright/clausewright/SourceText", name := "isDash", desc := "(C)Z" } : Jvm.MethodName) prog_72_method_11_code (1 : Nat) (Option.some Jvm.ClassFile.FieldType.boolean)).before args0 about1 = true := code_word (m := ⟨2, 0⟩) (meth := k2m0) (c := k2c0) (by decide +kernel) rfl rfl rfl (by decide +kernel)
set_option maxRecDepth 65536 in
theorem w_c2 : (Jvm.Cond.code ({ cls := "com/example/clausewright/clausewright/SourceTextIsDashPinLaw", name := "expectedDash", desc := "(C)Z" } : Jvm.MethodName) method_2_code (1 : Nat) (Option.some Jvm.ClassFile.FieldType.boolean)).before args0 about1 = true := code_word (m := ⟨1, 1⟩) (meth := k1m1) (c := k1c1) (by decide +kernel) rfl rfl rfl (by decide +kernel)
def codes1 : List Jvm.Cond := [Jvm.Cond.code x code maxLocals ret, Jvm.Cond.code ({ cls := "com/example/clausewright/clausewright/SourceText", name := "isDash", desc := "(C)Z" } : Jvm.MethodName) prog_72_method_11_code (1 : Nat) (Option.some Jvm.ClassFile.FieldType.boolean), Jvm.Cond.code ({ cls := "com/example/clausewright/clausewright/SourceTextIsDashPinLaw", name := "expectedDash", desc := "(C)Z" } : Jvm.MethodName) method_2_code (1 : Nat) (Option.some Jvm.ClassFile.FieldType.boolean)]
set_option maxRecDepth 65536 in
theorem codes_eq : words1.filter isCode = codes1 := rfl
theorem w_codes : ∀ c ∈ words1.filter isCode, c.before args0 about1 = true := by
  rw [codes_eq]
  intro c hc
  simp only [codes1, List.mem_cons, List.not_mem_nil, or_false] at hc
  rcases hc with rfl | rfl | rfl
  · exact w_c0
  · exact w_c1
  · exact w_c2
set_option maxRecDepth 65536 in
theorem w_t1 : words1.all (fun c => isCode c || c.before args0 about1) = true := by decide +kernel
theorem w_tables : (allAtoms (Jvm.Cond.code x code maxLocals ret :: tables_1)).before args0 about1 = true := by
  rw [allAtoms_all]
  show words1.all (fun c => c.before args0 about1) = true
  refine all_split ?_ w_codes
  rw [w_t1]
set_option maxRecDepth 65536 in
theorem w_case : (Jvm.Cond.and given_1 narrow_1).before args0 about1 = true := by decide +kernel
theorem w_applies : (headSpec (Jvm.Cond.code x code maxLocals ret :: tables_1) room_1).applies x e0.platform about1 = true :=
  (Spec.applies_iff w_frames).mpr ⟨w_running, w_runnable, w_alone, w_named, w_hears, w_ripe, w_room, w_tables⟩
theorem atStart : AtStart classFile x code maxLocals ret World_1 tables_1 room_1 Calls_1 rest_1 Pre_1 launch0 p0 e0 about1 theMethod args0 below0 :=
  ⟨lists_1, trivial, launch0.admits_env _ _ _, launch0.least_env, fairChoices_fair.cas, fairChoices_fair.clock, w_frames, w_args, w_heap, w_applies, trivial, trivial, w_case⟩
end start1
theorem witness_1 : WitnessClaimed_1 := ⟨start1.p0, start1.e0, start1.about1, start1.theMethod, start1.args0, start1.below0, start1.atStart⟩
end Jvm.Pilot.@@N@@
