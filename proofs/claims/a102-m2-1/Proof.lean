import JvmDerived
import JvmDerived.Pilot.@@N@@Statement
import JvmDerived.Pilot.@@N@@Code
set_option linter.unusedVariables false
set_option linter.unusedSimpArgs false
namespace Jvm.Pilot.@@N@@
open Jvm Jvm.ClassFile Sem Op Lib Jvm.Free Jvm.Stand Jvm.LawKit Jvm.RoadKit Bundle Jvm.Pilot.@@N@@.Jvm.D

/-! own kit: the walk goes forward, from state to state, to an end that the contract names -/
section OwnKit
variable {p : Program} {l : Launch} {e : Env} {R : Room} {s : State} {m : MethodId} {args : Array Value} {below : List Frame} {meth : Method} {c : Code} {T : State} {locs : List Loc} {cells slots : Nat} {Z : State} {a0 : Array Value} {h : Heap}
def own_Go (tb : Tables) (e : Env) (below : List Frame) (F : State → Outcome → Prop) (S : State) : Prop := ∃ t o, Steps tb e below S t ∧ F t o
theorem own_go {tb : Tables} {F : State → Outcome → Prop} {S S' : State} (k : ∀ t, Steps tb e below S' t → Steps tb e below S t) (q : own_Go tb e below F S') : own_Go tb e below F S := by
  obtain ⟨t, o, a, b⟩ := q; exact ⟨t, o, k t a, b⟩
theorem own_gt {tb : Tables} {F : State → Outcome → Prop} {S S' : State} (k : Steps tb e below S S') (q : own_Go tb e below F S') : own_Go tb e below F S := own_go (fun _ r => k.trans r) q
def own_Fin (s : State) (below : List Frame) (Q : Option Value → Heap → List Loc → Prop) (nc ns : Nat) (t : State) (o : Outcome) : Prop :=
  t.status = .running ∧ Ended t below o ∧ ∃ v L, o = .returned v ∧ Q v t.heap L ∧ FrameEnd s o t L nc ns
def own_Met (l : Launch) (y : MethodName) (ws : List Jvm.Cond) (rm : Room) (Z : State) (h : Heap) (as : Array Value) (Q : Option Value → Heap → List Loc → Prop) : Prop :=
  MetFree l y (head1 ws rm) (fun a U => a = as ∧ Z.Warmed39 U.vm ∧ U.heap = h) (fun _ _ _ _ _ => True) (fun _ U o U' => ∃ v L, o = .returned v ∧ Q v U'.heap L ∧ FrameEnd U o U' L rm.cells rm.slots)
theorem own_body {y : MethodName} {bytes : ByteArray} {mx : Nat} {rt : Option FieldType} {rm : Room} {ws : List Jvm.Cond} {as : Array Value} {Q : Option Value → Heap → List Loc → Prop} (pn : plainName y.cls = true)
    (H : ∀ (p : Program) (e : Env) (s : State) (m : MethodId) (below : List Frame) (meth : Method) (c : Code) (s₁ : State), p.tables.exec = Jvm.exec → c.code = bytes → c.maxLocals = mx → s.vm.findClass y.cls = some m.cls → meth.name = y.name → meth.sig.returnType = rt → meth.locks = false → Z.Warmed39 s.vm →
      Stand p l e rm s m as below meth c s₁ [] 0 0 → s₁.heap = h → own_Go p.tables e below (own_Fin s below Q rm.cells rm.slots) (s₁.setTop (entryFrame m as mx))) :
    own_Met l y (Jvm.Cond.code y bytes mx rt :: ws) rm Z h as Q := by
  refine MetFree.of_bodySF (plainFor_of_name pn) hisR ?_
  intro p e s m args below meth c s₁ Bd hml hP hK
  obtain ⟨rfl, hZ, hh⟩ := hP
  exact H p e s m below meth c s₁ Bd.exec Bd.bytes hml (findClass_of_methodNamed Bd.named) (name_of_methodNamed Bd.named Bd.method).1 Bd.returns Bd.notSynchronized hZ (Stand.of_body Bd) (by rw [← hh, Bd.state]; rfl)
theorem own_end (X : Stand p l e R s m args below meth c T locs cells slots) {v : Option Value} {g : JFrame} {Q : Option Value → Heap → List Loc → Prop} {nc ns : Nat} (hlk : meth.locks = false) (hv : meth.sig.returnType = none → v = none)
    (st : ∀ fs, (∀ (f : JFrame) (acts : List Action), f.method = m → f.locked = none → f.entered = [] → (doReturn e (T.setTop f) acts v).1 = T.setFrames fs) → Steps p.tables e below (T.setTop g) (T.setFrames fs)) (hQ : Q v T.heap locs) (h1 : cells ≤ nc) (h2 : slots ≤ ns) :
    own_Go p.tables e below (own_Fin s below Q nc ns) (T.setTop g) := by
  obtain ⟨fs, hr, hrun, hended, hW, hsame⟩ := X.leave (v := v) hv hlk
  exact ⟨_, _, st fs hr, hrun, hended, _, _, rfl, hQ, ⟨_, rfl⟩, hW, hsame.mono h1 h2⟩
theorem own_retI (X : Stand p l e R s m args below meth c T locs cells slots) (hx : p.tables.exec = Jvm.exec) {pc : Nat} {Ls : Array Slot} {z : Int32} {t : FieldType} {rest : List Value} {Q : Option Value → Heap → List Loc → Prop} {nc ns : Nat} (hlk : meth.locks = false) (hret : meth.sig.returnType = some t) (ht : t = .int ∨ t = .boolean ∨ t = .byte ∨ t = .char ∨ t = .short) (hn : narrow t (.int z) = .int z)
    (hd : decode c.code pc = .ok (.ireturn, 1)) (hQ : Q (some (.int z)) T.heap locs) (h1 : cells ≤ nc) (h2 : slots ≤ ns) : own_Go p.tables e below (own_Fin s below Q nc ns) (T.setTop (mkF m pc Ls (.int z :: rest))) :=
  own_end X hlk (fun q => by rw [hret] at q; cases q) (fun fs hr => retOut X hx hret hn (Or.inl ⟨rfl, ht, _, rfl⟩) hd hr) hQ h1 h2
theorem own_retJ (X : Stand p l e R s m args below meth c T locs cells slots) (hx : p.tables.exec = Jvm.exec) {pc : Nat} {Ls : Array Slot} {z : Int64} {rest : List Value} {Q : Option Value → Heap → List Loc → Prop} {nc ns : Nat} (hlk : meth.locks = false) (hret : meth.sig.returnType = some .long)
    (hd : decode c.code pc = .ok (.lreturn, 1)) (hQ : Q (some (.long z)) T.heap locs) (h1 : cells ≤ nc) (h2 : slots ≤ ns) : own_Go p.tables e below (own_Fin s below Q nc ns) (T.setTop (mkF m pc Ls (.long z :: rest))) :=
  own_end X hlk (fun q => by rw [hret] at q; cases q) (fun fs hr => retOut X hx hret rfl (Or.inr (Or.inl ⟨rfl, rfl, _, rfl⟩)) hd hr) hQ h1 h2
theorem own_retA (X : Stand p l e R s m args below meth c T locs cells slots) (hx : p.tables.exec = Jvm.exec) {pc : Nat} {Ls : Array Slot} {w : Value} {t : FieldType} {rest : List Value} {Q : Option Value → Heap → List Loc → Prop} {nc ns : Nat} (hlk : meth.locks = false) (hret : meth.sig.returnType = some t) (ht : t.isReference = true) (hw : w.isRef = true)
    (hd : decode c.code pc = .ok (.areturn, 1)) (hQ : Q (some w) T.heap locs) (h1 : cells ≤ nc) (h2 : slots ≤ ns) : own_Go p.tables e below (own_Fin s below Q nc ns) (T.setTop (mkF m pc Ls (w :: rest))) :=
  own_end X hlk (fun q => by rw [hret] at q; cases q) (fun fs hr => retOut X hx hret (by cases t <;> first | (cases ht; done) | (cases w <;> first | rfl | cases hw)) (Or.inr (Or.inr (Or.inr (Or.inr ⟨rfl, ht, hw⟩)))) hd hr) hQ h1 h2
theorem own_retV (X : Stand p l e R s m args below meth c T locs cells slots) (hx : p.tables.exec = Jvm.exec) {pc : Nat} {Ls : Array Slot} {Q : Option Value → Heap → List Loc → Prop} {nc ns : Nat} (hlk : meth.locks = false) (hret : meth.sig.returnType = none)
    (hd : decode c.code pc = .ok (.return_, 1)) (hQ : Q none T.heap locs) (h1 : cells ≤ nc) (h2 : slots ≤ ns) : own_Go p.tables e below (own_Fin s below Q nc ns) (T.setTop (mkF m pc Ls [])) :=
  own_end X hlk (fun _ => rfl) (fun fs hr => X.returnOut hx hret hd hr) hQ h1 h2
theorem own_callS (X : Stand p l e R s m args below meth c T locs cells slots) (hx : p.tables.exec = Jvm.exec) (hZ : Z.Warmed39 s.vm) {own : String} {index : Nat} {y : MethodName} {bytes : ByteArray} {mx : Nat} {rt : Option FieldType} {rm : Room} {W pc : Nat} {Ls : Array Slot} {St argsL rest : List Value} {Q : Option Value → Heap → List Loc → Prop} {F : State → Outcome → Prop}
    (hown : s.vm.findClass own = some m.cls) (w1 : (Jvm.Cond.methodLink own index y).before a0 Z = true) (w2 : (Jvm.Cond.static y).before a0 Z = true) (w3 : (Jvm.Cond.initialized y.cls).before a0 Z = true) (w4 : (Jvm.Cond.code y bytes mx rt).before a0 Z = true)
    (hy : y.cls ≠ "java/lang/invoke/MethodHandle" ∧ y.cls ≠ "java/lang/invoke/VarHandle") (M : own_Met l y [Jvm.Cond.code y bytes mx rt] rm Z h argsL.toArray Q) (eT : T.heap = h) (hf : rm.frames + 1 ≤ R.frames) (hl : W + (mx + 11) + rm.locals ≤ R.locals) (hc : cells + rm.cells ≤ R.cells) (hs : slots + rm.slots ≤ R.slots)
    (hsz : Ls.size = c.maxLocals) (hlen : ∀ sig, parseMethodDescriptor y.desc = some sig → argsL.length = sig.parameters.length) (hst : St = argsL.reverse ++ rest) (hW : (rest.map fun v => v.category).sum ≤ W) (hd : decode c.code pc = .ok (.invokestatic index, 3))
    (K : ∀ v T' L, Stand p l e R s m args below meth c T' (locs ++ L) (cells + rm.cells) (slots + rm.slots) → Q v T'.heap L → own_Go p.tables e below F (T'.setTop (mkF m (pc + 3) Ls (v.toList ++ rest)))) :
    own_Go p.tables e below F (T.setTop (mkF m pc Ls St)) := by
  obtain ⟨v, _, ⟨T', L', k', n'⟩, -, X', ⟨L, hQ, l1, l2, l3⟩, st⟩ := Jvm.LawKit.callS X hx (y := y) hown (mvT hZ w1) (mvT hZ w2) (mvT hZ w3) (mvT hZ w4) hy (backOf (W := W) M hZ w4 w3 hf hl) (g := mkF m pc Ls St) rfl hsz (argsL := argsL) (rest := rest) hlen hst (by show 2 * 0 + _ ≤ _; rw [Nat.mul_zero, Nat.zero_add]; exact hW) hd (fun _ _ => ⟨rfl, eT, hc, hs⟩)
  dsimp only [Pt.U, Pt.locs, Pt.cells, Pt.slots] at X' l1 l2 l3 st hQ
  subst l1 l2 l3
  exact own_go st (K v T' L X' hQ)
theorem own_callV (X : Stand p l e R s m args below meth c T locs cells slots) (hx : p.tables.exec = Jvm.exec) (hZ : Z.Warmed39 s.vm) {own C : String} {index : Nat} {z : MethodName} {bytes : ByteArray} {mx : Nat} {rt : Option FieldType} {rm : Room} {W pc : Nat} {Ls : Array Slot} {a : Addr} {St argsL rest : List Value} {Q : Option Value → Heap → List Loc → Prop} {F : State → Outcome → Prop}
    (hown : s.vm.findClass own = some m.cls) (w1 : (Jvm.Cond.methodLink own index z).before a0 Z = true) (w2 : (Jvm.Cond.declares z).before a0 Z = true) (w3 : (Jvm.Cond.selects C z z).before a0 Z = true) (w4 : (Jvm.Cond.instanceMethod z).before a0 Z = true) (w5 : (Jvm.Cond.code z bytes mx rt).before a0 Z = true) (w6 : (Jvm.Cond.initialized z.cls).before a0 Z = true)
    (hy : z.cls ≠ "java/lang/invoke/MethodHandle" ∧ z.cls ≠ "java/lang/invoke/VarHandle") (E : Exa Z h a C) (M : own_Met l z [Jvm.Cond.code z bytes mx rt] rm Z h (.ref a :: argsL).toArray Q) (eT : T.heap = h) (hf : rm.frames + 1 ≤ R.frames) (hl : W + (mx + 11) + rm.locals ≤ R.locals) (hc : cells + rm.cells ≤ R.cells) (hs : slots + rm.slots ≤ R.slots)
    (hsz : Ls.size = c.maxLocals) (hlen : ∀ sig, parseMethodDescriptor z.desc = some sig → argsL.length = sig.parameters.length) (hst : St = argsL.reverse ++ .ref a :: rest) (hW : (rest.map fun v => v.category).sum ≤ W) (hd : decode c.code pc = .ok (.invokevirtual index, 3))
    (K : ∀ v T' L, Stand p l e R s m args below meth c T' (locs ++ L) (cells + rm.cells) (slots + rm.slots) → Q v T'.heap L → own_Go p.tables e below F (T'.setTop (mkF m (pc + 3) Ls (v.toList ++ rest)))) :
    own_Go p.tables e below F (T.setTop (mkF m pc Ls St)) := by
  obtain ⟨cq, kq, q1, q2, q3⟩ := isOf hZ eT E
  obtain ⟨v, _, ⟨T', L', k', n'⟩, -, X', ⟨L, hQ, l1, l2, l3⟩, st⟩ := X.virtualBack hx (y := z) (z := z) hown (mvT hZ w1) (mvT hZ w2) (notFace_of_selects (args := #[]) (mvT hZ w3)) (mvT hZ w3) (mvT hZ w4) hy (backOf (W := W) M hZ w5 w6 hf hl) q1 q3 (g := mkF m pc Ls St) rfl hsz (Steps.refl _) (argsL := argsL) (rest := rest) hlen hst (by show 2 * 0 + _ ≤ _; rw [Nat.mul_zero, Nat.zero_add]; exact hW) hd (fun _ _ => ⟨rfl, eT, hc, hs⟩)
  dsimp only [Pt.U, Pt.locs, Pt.cells, Pt.slots] at X' l1 l2 l3 st hQ
  subst l1 l2 l3
  exact own_gt st (K v T' L X' hQ)
theorem own_callI (X : Stand p l e R s m args below meth c T locs cells slots) (hx : p.tables.exec = Jvm.exec) (hZ : Z.Warmed39 s.vm) {own : String} {index : Nat} {y : MethodName} {bytes : ByteArray} {mx : Nat} {rm : Room} {W pc : Nat} {Ls : Array Slot} {a : Addr} {St argsL rest : List Value} {Q : Option Value → Heap → List Loc → Prop} {F : State → Outcome → Prop}
    (hown : s.vm.findClass own = some m.cls) (w1 : (Jvm.Cond.methodLink own index y).before a0 Z = true) (w2 : (Jvm.Cond.instanceMethod y).before a0 Z = true) (w3 : (Jvm.Cond.code y bytes mx none).before a0 Z = true) (w4 : (Jvm.Cond.initialized y.cls).before a0 Z = true) (hi : y.name = "<init>")
    (hy : y.cls ≠ "java/lang/invoke/MethodHandle" ∧ y.cls ≠ "java/lang/invoke/VarHandle") (M : own_Met l y [Jvm.Cond.code y bytes mx none] rm Z h (.ref a :: argsL).toArray Q) (eT : T.heap = h) (hf : rm.frames + 1 ≤ R.frames) (hl : W + (mx + 11) + rm.locals ≤ R.locals) (hc : cells + rm.cells ≤ R.cells) (hs : slots + rm.slots ≤ R.slots)
    (hsz : Ls.size = c.maxLocals) (hlen : ∀ sig, parseMethodDescriptor y.desc = some sig → argsL.length = sig.parameters.length) (hst : St = argsL.reverse ++ .ref a :: rest) (hW : (rest.map fun v => v.category).sum ≤ W) (hd : decode c.code pc = .ok (.invokespecial index, 3))
    (K : ∀ v T' L, Stand p l e R s m args below meth c T' (locs ++ L) (cells + rm.cells) (slots + rm.slots) → Q v T'.heap L → own_Go p.tables e below F (T'.setTop (mkF m (pc + 3) Ls (v.toList ++ rest)))) :
    own_Go p.tables e below F (T.setTop (mkF m pc Ls St)) := by
  obtain ⟨v, _, ⟨T', L', k', n'⟩, -, X', ⟨L, hQ, l1, l2, l3⟩, st⟩ := X.specialBack hx (y := y) hi hown (mvT hZ w1) (mvT hZ w2) (mvT hZ w3) hy (backOf (W := W) M hZ w3 w4 hf hl) (g := mkF m pc Ls St) rfl hsz (Steps.refl _) (a := a) (argsL := argsL) (rest := rest) hlen hst (by show 2 * 0 + _ ≤ _; rw [Nat.mul_zero, Nat.zero_add]; exact hW) hd (fun _ _ => ⟨rfl, eT, hc, hs⟩)
  dsimp only [Pt.U, Pt.locs, Pt.cells, Pt.slots] at X' l1 l2 l3 st hQ
  subst l1 l2 l3
  exact own_gt st (K v T' L X' hQ)
end OwnKit

/-! own kit 2: arrays by a function of the place -/
section OwnKit2
variable {p : Program} {l : Launch} {e : Env} {R : Room} {s : State} {m : MethodId} {args : Array Value} {below : List Frame} {meth : Method} {c : Code} {T : State} {locs : List Loc} {cells slots : Nat} {Z : State} {a0 : Array Value} {h h' : Heap} {a b : Addr} {k : ClassId} {ty : FieldType} {n i : Nat} {f f' : Nat → Value} {v : Value} {j : Int32} {pc : Nat} {Ls : Array Slot} {rest : List Value} {F : State → Outcome → Prop}
def own_Av (Z : State) (h : Heap) (a : Addr) (k : ClassId) (ty : FieldType) (n : Nat) (f : Nat → Value) : Prop := ∃ cl : Cell, Arr Z h a cl ty ∧ cl.cls = k ∧ cl.slots.size = n ∧ ∀ j, j < n → cl.slots[j]? = some (f j)
theorem own_Av.lt (V : own_Av Z h a k ty n f) : a < h.size := by obtain ⟨cl, A, -⟩ := V; exact A.lt
theorem own_Av.ext (E : Ext h h') (V : own_Av Z h a k ty n f) : own_Av Z h' a k ty n f := by obtain ⟨cl, A, r⟩ := V; exact ⟨cl, A.ext E, r⟩
theorem own_Av.other {sl : Nat} (W : Wr h h' b sl v) (V : own_Av Z h a k ty n f) (q : a ≠ b) : own_Av Z h' a k ty n f := by obtain ⟨cl, A, r⟩ := V; exact ⟨cl, A.other W q, r⟩
theorem own_Av.keep {ws : List Addr} (V : own_Av Z h a k ty n f) (K : Keep h h' ws) (q : a ∉ ws) : own_Av Z h' a k ty n f := by obtain ⟨cl, A, r⟩ := V; exact ⟨cl, ⟨K.2.1 a cl A.1 q, A.2⟩, r⟩
theorem own_Av.congr (V : own_Av Z h a k ty n f) (q : ∀ j, j < n → f j = f' j) : own_Av Z h a k ty n f' := by obtain ⟨cl, A, r1, r2, r3⟩ := V; exact ⟨cl, A, r1, r2, fun j hj => by rw [r3 j hj, q j hj]⟩
theorem own_Av.new {z : Int32} (A : Arr Z h a (newA k ty z) ty) (q : z.toNatClampNeg = n) : own_Av Z h a k ty n (fun _ => defaultValue ty) := ⟨_, A, rfl, (sz_new _ _ _).trans q, fun j hj => by simp [newA, q, hj]⟩
theorem own_Av.set (V : own_Av Z h a k ty n f) (W : Wr h h' a i v) (hi : i < n) : own_Av Z h' a k ty n (fun x => if x = i then v else f x) := by
  obtain ⟨cl, A, r1, r2, r3⟩ := V
  refine ⟨cl.setSlot i v, Arr.same W A, r1, (sz_set _ _ _).trans r2, fun x hx => ?_⟩
  by_cases q : x = i
  · subst q; show (cl.setSlot x v).slots[x]? = some (if x = x then v else f x); rw [if_pos rfl]; simp [Cell.setSlot, r2, hi]
  · show (cl.setSlot i v).slots[x]? = some (if x = i then v else f x); rw [if_neg q, ← r3 x hx]; exact Array.getElem?_setIfInBounds_ne (Ne.symm q)
theorem own_in (r : i < n) (hj : ¬ j < 0) (hi : j.toNatClampNeg = i) {cl : Cell} (S : cl.slots.size = n) : ¬ (j < 0 ∨ cl.slots.size ≤ j.toNatClampNeg) := fun q => q.elim hj fun q => by omega
theorem own_alen (X : Stand p l e R s m args below meth c T locs cells slots) (hx : p.tables.exec = Jvm.exec) (hZ : Z.Warmed39 s.vm) (eT : T.heap = h) (V : own_Av Z h a k ty n f) (z : Int32) (hz : n.toInt32 = z) (hd : decode c.code pc = .ok (.arraylength, 1))
    (q : own_Go p.tables e below F (T.setTop (mkF m (pc + 1) Ls (.int z :: rest)))) : own_Go p.tables e below F (T.setTop (mkF m pc Ls (.ref a :: rest))) := by
  obtain ⟨cl, A, r1, r2, r3⟩ := V
  subst hz r2
  exact own_go (fun t k => X.arraylength hx (by rw [eT]; exact A.1) (State.isArrayOf_alike hZ.alike A.2.1) (g := mkF m pc Ls (.ref a :: rest)) rfl rfl hd t k) q
theorem own_bald (X : Stand p l e R s m args below meth c T locs cells slots) (hx : p.tables.exec = Jvm.exec) (hZ : Z.Warmed39 s.vm) (eT : T.heap = h) (V : own_Av Z h a k .byte n f) (i : Nat) (hj : ¬ j < 0) (hi : j.toNatClampNeg = i) (r : i < n) {w : Value} (hw : f i = w) (hd : decode c.code pc = .ok (.baload, 1))
    (q : own_Go p.tables e below F (T.setTop (mkF m (pc + 1) Ls (w :: rest)))) : own_Go p.tables e below F (T.setTop (mkF m pc Ls (.int j :: .ref a :: rest))) := by
  obtain ⟨cl, A, r1, r2, r3⟩ := V
  subst hw
  exact own_go (fun t k => X.baloadBytes hx (by rw [eT]; exact A.1) (State.isArrayOf_alike hZ.alike A.2.1) A.2.2 (own_in r hj hi r2) (by rw [hi]; exact r3 i r) (g := mkF m pc Ls (.int j :: .ref a :: rest)) rfl rfl hd t k) q
theorem own_iald (X : Stand p l e R s m args below meth c T locs cells slots) (hx : p.tables.exec = Jvm.exec) (hZ : Z.Warmed39 s.vm) (eT : T.heap = h) (V : own_Av Z h a k .int n f) (i : Nat) (hj : ¬ j < 0) (hi : j.toNatClampNeg = i) (r : i < n) {w : Value} (hw : f i = w) (hd : decode c.code pc = .ok (.iaload, 1))
    (q : own_Go p.tables e below F (T.setTop (mkF m (pc + 1) Ls (w :: rest)))) : own_Go p.tables e below F (T.setTop (mkF m pc Ls (.int j :: .ref a :: rest))) := by
  obtain ⟨cl, A, r1, r2, r3⟩ := V
  subst hw
  exact own_go (fun t k => X.iaload hx (by rw [eT]; exact A.1) (State.isArrayOf_alike hZ.alike A.2.1) A.2.2 (own_in r hj hi r2) (by rw [hi]; exact r3 i r) (g := mkF m pc Ls (.int j :: .ref a :: rest)) rfl rfl hd t k) q
theorem own_lald (X : Stand p l e R s m args below meth c T locs cells slots) (hx : p.tables.exec = Jvm.exec) (hZ : Z.Warmed39 s.vm) (eT : T.heap = h) (V : own_Av Z h a k .long n f) (i : Nat) (hj : ¬ j < 0) (hi : j.toNatClampNeg = i) (r : i < n) {w : Value} (hw : f i = w) (hd : decode c.code pc = .ok (.laload, 1))
    (q : own_Go p.tables e below F (T.setTop (mkF m (pc + 1) Ls (w :: rest)))) : own_Go p.tables e below F (T.setTop (mkF m pc Ls (.int j :: .ref a :: rest))) := by
  obtain ⟨cl, A, r1, r2, r3⟩ := V
  subst hw
  exact own_go (fun t k => X.laload hx (by rw [eT]; exact A.1) (State.isArrayOf_alike hZ.alike A.2.1) A.2.2 (own_in r hj hi r2) (by rw [hi]; exact r3 i r) (g := mkF m pc Ls (.int j :: .ref a :: rest)) rfl rfl hd t k) q
theorem own_aald (X : Stand p l e R s m args below meth c T locs cells slots) (hx : p.tables.exec = Jvm.exec) (hZ : Z.Warmed39 s.vm) (eT : T.heap = h) (V : own_Av Z h a k ty n f) (hty : ty.isReference = true) (i : Nat) (hj : ¬ j < 0) (hi : j.toNatClampNeg = i) (r : i < n) {w : Value} (hw : f i = w) (hd : decode c.code pc = .ok (.aaload, 1))
    (q : own_Go p.tables e below F (T.setTop (mkF m (pc + 1) Ls (w :: rest)))) : own_Go p.tables e below F (T.setTop (mkF m pc Ls (.int j :: .ref a :: rest))) := by
  obtain ⟨cl, A, r1, r2, r3⟩ := V
  subst hw
  exact own_go (fun t k => X.aaload hx (by rw [eT]; exact A.1) (State.isArrayOf_alike hZ.alike A.2.1) hty A.2.2 (own_in r hj hi r2) (by rw [hi]; exact r3 i r) (g := mkF m pc Ls (.int j :: .ref a :: rest)) rfl rfl hd t k) q
theorem own_bast (X : Stand p l e R s m args below meth c T locs cells slots) (hx : p.tables.exec = Jvm.exec) (hZ : Z.Warmed39 s.vm) (eT : T.heap = h) (V : own_Av Z h a k .byte n f) (i : Nat) {x : Int32} (hj : ¬ j < 0) (hi : j.toNatClampNeg = i) (r : i < n) (hd : decode c.code pc = .ok (.bastore, 1))
    (q : ∀ T' h', Stand p l e R s m args below meth c T' (locs ++ [⟨a, i⟩]) cells slots → T'.heap = h' → Wr h h' a i (.int x.toInt8.toInt32) → own_Go p.tables e below F (T'.setTop (mkF m (pc + 1) Ls rest))) : own_Go p.tables e below F (T.setTop (mkF m pc Ls (.int x :: .int j :: .ref a :: rest))) := by
  obtain ⟨cl, A, r1, r2, r3⟩ := V
  obtain ⟨T', h', X', e', W, st⟩ := stB X hx hZ eT A (own_in r hj hi r2) (g := mkF m pc Ls (.int x :: .int j :: .ref a :: rest)) rfl rfl hd
  rw [hi] at X' W
  exact own_go st (q T' h' X' e' W)
theorem own_iast (X : Stand p l e R s m args below meth c T locs cells slots) (hx : p.tables.exec = Jvm.exec) (hZ : Z.Warmed39 s.vm) (eT : T.heap = h) (V : own_Av Z h a k .int n f) (i : Nat) {x : Int32} (hj : ¬ j < 0) (hi : j.toNatClampNeg = i) (r : i < n) (hd : decode c.code pc = .ok (.iastore, 1))
    (q : ∀ T' h', Stand p l e R s m args below meth c T' (locs ++ [⟨a, i⟩]) cells slots → T'.heap = h' → Wr h h' a i (.int x) → own_Go p.tables e below F (T'.setTop (mkF m (pc + 1) Ls rest))) : own_Go p.tables e below F (T.setTop (mkF m pc Ls (.int x :: .int j :: .ref a :: rest))) := by
  obtain ⟨cl, A, r1, r2, r3⟩ := V
  obtain ⟨T', h', X', e', W, st⟩ := stI X hx hZ eT A (own_in r hj hi r2) (g := mkF m pc Ls (.int x :: .int j :: .ref a :: rest)) rfl rfl hd
  rw [hi] at X' W
  exact own_go st (q T' h' X' e' W)
theorem own_last (X : Stand p l e R s m args below meth c T locs cells slots) (hx : p.tables.exec = Jvm.exec) (hZ : Z.Warmed39 s.vm) (eT : T.heap = h) (V : own_Av Z h a k .long n f) (i : Nat) {x : Int64} (hj : ¬ j < 0) (hi : j.toNatClampNeg = i) (r : i < n) (hd : decode c.code pc = .ok (.lastore, 1))
    (q : ∀ T' h', Stand p l e R s m args below meth c T' (locs ++ [⟨a, i⟩]) cells slots → T'.heap = h' → Wr h h' a i (.long x) → own_Go p.tables e below F (T'.setTop (mkF m (pc + 1) Ls rest))) : own_Go p.tables e below F (T.setTop (mkF m pc Ls (.long x :: .int j :: .ref a :: rest))) := by
  obtain ⟨cl, A, r1, r2, r3⟩ := V
  obtain ⟨T', h', X', e', W, st⟩ := stJ X hx hZ eT A (own_in r hj hi r2) (g := mkF m pc Ls (.long x :: .int j :: .ref a :: rest)) rfl rfl hd
  rw [hi] at X' W
  exact own_go st (q T' h' X' e' W)
theorem own_aast (X : Stand p l e R s m args below meth c T locs cells slots) (hx : p.tables.exec = Jvm.exec) (hZ : Z.Warmed39 s.vm) (eT : T.heap = h) (V : own_Av Z h a k ty n f) (hty : ty.isReference = true) (S : Sto Z h a v) (i : Nat) (hj : ¬ j < 0) (hi : j.toNatClampNeg = i) (r : i < n) (hd : decode c.code pc = .ok (.aastore, 1))
    (q : ∀ T' h', Stand p l e R s m args below meth c T' (locs ++ [⟨a, i⟩]) cells slots → T'.heap = h' → Wr h h' a i v → own_Go p.tables e below F (T'.setTop (mkF m (pc + 1) Ls rest))) : own_Go p.tables e below F (T.setTop (mkF m pc Ls (v :: .int j :: .ref a :: rest))) := by
  obtain ⟨cl, A, r1, r2, r3⟩ := V
  obtain ⟨T', h', X', e', W, st⟩ := stR X hx hZ eT A (own_in r hj hi r2) hty S (g := mkF m pc Ls (v :: .int j :: .ref a :: rest)) rfl rfl hd
  rw [hi] at X' W
  exact own_go st (q T' h' X' e' W)
end OwnKit2

def own_b (P : Prop) [Decidable P] : Int32 := if P then 1 else 0
theorem own_1 {P : Prop} [Decidable P] (h : P) : some (Value.int 1) = some (Value.int (own_b P)) := by unfold own_b; rw [if_pos h]
theorem own_0 {P : Prop} [Decidable P] (h : ¬ P) : some (Value.int 0) = some (Value.int (own_b P)) := by unfold own_b; rw [if_neg h]
theorem own_b1 {P : Prop} [Decidable P] (h : P) : own_b P = 1 := if_pos h
theorem own_b0 {P : Prop} [Decidable P] (h : ¬ P) : own_b P = 0 := if_neg h
abbrev own_S (c : Int32) : Prop := c = 43 ∨ c = 45 ∨ c = 42 ∨ c = 47 ∨ c = 37
def own_c (x : Int32) : Int32 := (x &&& (255 : Int32)).toUInt32.toUInt16.toUInt32.toInt32
def own_Op (Z : State) (h : Heap) (a z : Addr) : Prop := Exa Z h a "com/example/predicant/predicant/ArithmeticOperator" ∧ ∃ (sp : Addr) (k : ClassId) (n : Nat) (f : Nat → Value), Fld Z h a "com/example/predicant/predicant/ArithmeticOperator" "spellings" "[Ljava/lang/String;" (.ref sp) ∧ own_Av Z h sp k (.object "java/lang/String") n f ∧ 0 < n ∧ f 0 = .ref z
def own_St (Z : State) (h : Heap) (a : Addr) (ch : Int32) : Prop := Exa Z h a "java/lang/String" ∧ ∃ (vb : Addr) (k : ClassId) (n : Nat) (f : Nat → Value), Fld Z h a "java/lang/String" "value" "[B" (.ref vb) ∧ Fld Z h a "java/lang/String" "coder" "B" (.int 0) ∧ own_Av Z h vb k .byte n f ∧ n.toInt32 = 1 ∧ 0 < n ∧ f 0 = .int ch
def own_Cs (Z : State) (h : Heap) : Prop := ∃ cs : Int32, Sta Z h "java/lang/String" "COMPACT_STRINGS" "Z" (.int cs) ∧ ¬ cs = 0
def own_Sf (Z : State) (h : Heap) : Prop := ∃ v : Value, Sta Z h "jdk/internal/util/Preconditions" "SIOOBE_FORMATTER" "Ljava/util/function/BiFunction;" v ∧ v.isRef = true
section OwnWords
variable {args : Array Value} {s : State} {t : Term}
theorem own_eqv {n : Int32} (h : (Jvm.Cond.eq t (.int n)).value args s none s [] = some true) : t.eval args s none [] s = some (.int n) := by
  obtain ⟨x, y, hx, hy, k1, k2⟩ := cmp_v (Or.inl h)
  obtain rfl : Value.int n = y := Option.some.inj hy
  obtain ⟨z, rfl⟩ := k2
  have q := gotT (Cond.eq_ints hx (Term.int_eval n)) h
  rw [hx, q]
theorem own_cell {h : Heap} {a : Addr} {c : Cell} {ty : FieldType} (A : Arr s h a c ty) : own_Av s h a c.cls ty c.slots.size (fun j => (c.slots[j]?).getD .null) := ⟨c, A, rfl, rfl, fun j hj => by show c.slots[j]? = some ((c.slots[j]?).getD .null); rw [Array.getElem?_eq_getElem hj]; rfl⟩
theorem own_op (ex : (Jvm.Cond.exactly t "com/example/predicant/predicant/ArithmeticOperator").value args s none s [] = some true) (ar : (Jvm.Cond.arrayOf (Term.field t "com/example/predicant/predicant/ArithmeticOperator" "spellings" "[Ljava/lang/String;") (.object "java/lang/String")).value args s none s [] = some true)
    (es : (Jvm.Cond.exactly (Term.elem (Term.field t "com/example/predicant/predicant/ArithmeticOperator" "spellings" "[Ljava/lang/String;") (.int 0)) "java/lang/String").value args s none s [] = some true) :
    ∃ a z, t.eval args s none [] s = some (.ref a) ∧ (Term.elem (Term.field t "com/example/predicant/predicant/ArithmeticOperator" "spellings" "[Ljava/lang/String;") (.int 0)).eval args s none [] s = some (.ref z) ∧ own_Op s s.heap a z ∧ Exa s s.heap z "java/lang/String" := by
  obtain ⟨a, ha⟩ := exa_v ex
  obtain ⟨sp, hsp⟩ := arr_v ar
  obtain ⟨z, hz⟩ := exa_v es
  obtain ⟨c, A⟩ := Arr.start hsp ar
  have hf := hsp
  rw [fld_at ha] at hf
  obtain ⟨q1, q2⟩ := elem_in hz hsp (Term.int_eval 0) A.1
  refine ⟨a, z, ha, hz, ⟨Exa.start ha ex, sp, _, _, _, Fld.start hf, own_cell A, Nat.lt_of_not_le fun r => q1 (Or.inr r), ?_⟩, Exa.start hz es⟩
  have q3 : c.slots[0]? = some (.ref z) := q2
  simp only [q3, Option.getD_some]
theorem own_str {z : Addr} {ch : Int32} (ht : t.eval args s none [] s = some (.ref z)) (E : Exa s s.heap z "java/lang/String") (av : (Jvm.Cond.arrayOf (Term.field t "java/lang/String" "value" "[B") .byte).value args s none s [] = some true)
    (le : (Jvm.Cond.eq (Term.length (Term.field t "java/lang/String" "value" "[B")) (.int 1)).value args s none s [] = some true) (co : (Jvm.Cond.eq (Term.field t "java/lang/String" "coder" "B") (.int 0)).value args s none s [] = some true)
    (hc : (Jvm.Cond.eq (Term.elem (Term.field t "java/lang/String" "value" "[B") (.int 0)) (.int ch)).value args s none s [] = some true) : own_St s s.heap z ch := by
  obtain ⟨vb, hv⟩ := arr_v av
  obtain ⟨c, A⟩ := Arr.start hv av
  have hf := hv
  rw [fld_at ht] at hf
  have hco := own_eqv co
  rw [fld_at ht] at hco
  obtain ⟨q1, q2⟩ := elem_in (own_eqv hc) hv (Term.int_eval 0) A.1
  obtain ⟨a', c', l1, l2, l3⟩ := Term.length_spec (own_eqv le)
  cases hv.symm.trans l1
  cases A.1.symm.trans (State.arrayAt?_spec l2).1
  refine ⟨E, vb, _, _, _, Fld.start hf, Fld.start hco, own_cell A, (Value.int.inj l3).symm, Nat.lt_of_not_le fun r => q1 (Or.inr r), ?_⟩
  have q3 : c.slots[0]? = some (.int ch) := q2
  simp only [q3, Option.getD_some]
end OwnWords
theorem own_d1_0 : decode prog_5_method_7_code 0 = .ok (.aload_n 0, 1) := by decide +kernel
theorem own_d1_1 : decode prog_5_method_7_code 1 = .ok (.getfield 42, 3) := by decide +kernel
theorem own_d1_4 : decode prog_5_method_7_code 4 = .ok (.iconst 0, 1) := by decide +kernel
theorem own_d1_5 : decode prog_5_method_7_code 5 = .ok (.aaload, 1) := by decide +kernel
theorem own_d1_6 : decode prog_5_method_7_code 6 = .ok (.areturn, 1) := by decide +kernel
theorem own_pn_1 : plainName "com/example/predicant/predicant/ArithmeticOperator" = true := by first | (simp [plainName, overriddenIn]; done) | decide +kernel
theorem own_d2_0 : decode jdk_42_method_54_code 0 = .ok (.aload_n 0, 1) := by decide +kernel
theorem own_d2_1 : decode jdk_42_method_54_code 1 = .ok (.getfield 9, 3) := by decide +kernel
theorem own_d2_4 : decode jdk_42_method_54_code 4 = .ok (.arraylength, 1) := by decide +kernel
theorem own_d2_5 : decode jdk_42_method_54_code 5 = .ok (.aload_n 0, 1) := by decide +kernel
theorem own_d2_6 : decode jdk_42_method_54_code 6 = .ok (.invokevirtual 335, 3) := by decide +kernel
theorem own_d2_9 : decode jdk_42_method_54_code 9 = .ok (.ishr, 1) := by decide +kernel
theorem own_d2_10 : decode jdk_42_method_54_code 10 = .ok (.ireturn, 1) := by decide +kernel
theorem own_pn_2 : plainName "java/lang/String" = true := by first | (simp [plainName, overriddenIn]; done) | decide +kernel
theorem own_d3_0 : decode jdk_42_method_152_code 0 = .ok (.getstatic 38, 3) := by decide +kernel
theorem own_d3_3 : decode jdk_42_method_152_code 3 = .ok (.ifCond .eq 10, 3) := by decide +kernel
theorem own_d3_6 : decode jdk_42_method_152_code 6 = .ok (.aload_n 0, 1) := by decide +kernel
theorem own_d3_7 : decode jdk_42_method_152_code 7 = .ok (.getfield 15, 3) := by decide +kernel
theorem own_d3_10 : decode jdk_42_method_152_code 10 = .ok (.goto 4, 3) := by decide +kernel
theorem own_d3_13 : decode jdk_42_method_152_code 13 = .ok (.iconst 1, 1) := by decide +kernel
theorem own_d3_14 : decode jdk_42_method_152_code 14 = .ok (.ireturn, 1) := by decide +kernel
theorem own_pn_3 : plainName "java/lang/String" = true := by first | (simp [plainName, overriddenIn]; done) | decide +kernel
theorem own_d4_0 : decode jdk_42_method_56_code 0 = .ok (.aload_n 0, 1) := by decide +kernel
theorem own_d4_1 : decode jdk_42_method_56_code 1 = .ok (.invokevirtual 492, 3) := by decide +kernel
theorem own_d4_4 : decode jdk_42_method_56_code 4 = .ok (.ifCond .eq 12, 3) := by decide +kernel
theorem own_d4_7 : decode jdk_42_method_56_code 7 = .ok (.aload_n 0, 1) := by decide +kernel
theorem own_d4_8 : decode jdk_42_method_56_code 8 = .ok (.getfield 9, 3) := by decide +kernel
theorem own_d4_11 : decode jdk_42_method_56_code 11 = .ok (.iload_n 1, 1) := by decide +kernel
theorem own_d4_12 : decode jdk_42_method_56_code 12 = .ok (.invokestatic 495, 3) := by decide +kernel
theorem own_d4_15 : decode jdk_42_method_56_code 15 = .ok (.ireturn, 1) := by decide +kernel
theorem own_d4_16 : decode jdk_42_method_56_code 16 = .ok (.aload_n 0, 1) := by decide +kernel
theorem own_d4_17 : decode jdk_42_method_56_code 17 = .ok (.getfield 9, 3) := by decide +kernel
theorem own_d4_20 : decode jdk_42_method_56_code 20 = .ok (.iload_n 1, 1) := by decide +kernel
theorem own_d4_21 : decode jdk_42_method_56_code 21 = .ok (.invokestatic 498, 3) := by decide +kernel
theorem own_d4_24 : decode jdk_42_method_56_code 24 = .ok (.ireturn, 1) := by decide +kernel
theorem own_pn_4 : plainName "java/lang/String" = true := by first | (simp [plainName, overriddenIn]; done) | decide +kernel
theorem own_d5_0 : decode jdk_42_method_154_code 0 = .ok (.getstatic 38, 3) := by decide +kernel
theorem own_d5_3 : decode jdk_42_method_154_code 3 = .ok (.ifCond .eq 14, 3) := by decide +kernel
theorem own_d5_6 : decode jdk_42_method_154_code 6 = .ok (.aload_n 0, 1) := by decide +kernel
theorem own_d5_7 : decode jdk_42_method_154_code 7 = .ok (.getfield 15, 3) := by decide +kernel
theorem own_d5_10 : decode jdk_42_method_154_code 10 = .ok (.ifCond .ne 7, 3) := by decide +kernel
theorem own_d5_13 : decode jdk_42_method_154_code 13 = .ok (.iconst 1, 1) := by decide +kernel
theorem own_d5_14 : decode jdk_42_method_154_code 14 = .ok (.goto 4, 3) := by decide +kernel
theorem own_d5_17 : decode jdk_42_method_154_code 17 = .ok (.iconst 0, 1) := by decide +kernel
theorem own_d5_18 : decode jdk_42_method_154_code 18 = .ok (.ireturn, 1) := by decide +kernel
theorem own_pn_5 : plainName "java/lang/String" = true := by first | (simp [plainName, overriddenIn]; done) | decide +kernel
theorem own_d6_0 : decode jdk_43_method_2_code 0 = .ok (.iload_n 1, 1) := by decide +kernel
theorem own_d6_1 : decode jdk_43_method_2_code 1 = .ok (.aload_n 0, 1) := by decide +kernel
theorem own_d6_2 : decode jdk_43_method_2_code 2 = .ok (.arraylength, 1) := by decide +kernel
theorem own_d6_3 : decode jdk_43_method_2_code 3 = .ok (.invokestatic 9, 3) := by decide +kernel
theorem own_d6_6 : decode jdk_43_method_2_code 6 = .ok (.aload_n 0, 1) := by decide +kernel
theorem own_d6_7 : decode jdk_43_method_2_code 7 = .ok (.iload_n 1, 1) := by decide +kernel
theorem own_d6_8 : decode jdk_43_method_2_code 8 = .ok (.baload, 1) := by decide +kernel
theorem own_d6_9 : decode jdk_43_method_2_code 9 = .ok (.sipush 255, 3) := by decide +kernel
theorem own_d6_12 : decode jdk_43_method_2_code 12 = .ok (.iand, 1) := by decide +kernel
theorem own_d6_13 : decode jdk_43_method_2_code 13 = .ok (.i2c, 1) := by decide +kernel
theorem own_d6_14 : decode jdk_43_method_2_code 14 = .ok (.ireturn, 1) := by decide +kernel
theorem own_pn_6 : plainName "java/lang/StringLatin1" = true := by first | (simp [plainName, overriddenIn]; done) | decide +kernel
theorem own_d7_0 : decode jdk_42_method_155_code 0 = .ok (.iload_n 0, 1) := by decide +kernel
theorem own_d7_1 : decode jdk_42_method_155_code 1 = .ok (.iload_n 1, 1) := by decide +kernel
theorem own_d7_2 : decode jdk_42_method_155_code 2 = .ok (.getstatic 1053, 3) := by decide +kernel
theorem own_d7_5 : decode jdk_42_method_155_code 5 = .ok (.invokestatic 1059, 3) := by decide +kernel
theorem own_d7_8 : decode jdk_42_method_155_code 8 = .ok (.pop, 1) := by decide +kernel
theorem own_d7_9 : decode jdk_42_method_155_code 9 = .ok (.return_, 1) := by decide +kernel
theorem own_pn_7 : plainName "java/lang/String" = true := by first | (simp [plainName, overriddenIn]; done) | decide +kernel
theorem own_d8_0 : decode jdk_41_method_11_code 0 = .ok (.iload_n 0, 1) := by decide +kernel
theorem own_d8_1 : decode jdk_41_method_11_code 1 = .ok (.ifCond .lt 8, 3) := by decide +kernel
theorem own_d8_4 : decode jdk_41_method_11_code 4 = .ok (.iload_n 0, 1) := by decide +kernel
theorem own_d8_5 : decode jdk_41_method_11_code 5 = .ok (.iload_n 1, 1) := by decide +kernel
theorem own_d8_6 : decode jdk_41_method_11_code 6 = .ok (.if_icmp .lt 10, 3) := by decide +kernel
theorem own_d8_9 : decode jdk_41_method_11_code 9 = .ok (.aload_n 2, 1) := by decide +kernel
theorem own_d8_10 : decode jdk_41_method_11_code 10 = .ok (.iload_n 0, 1) := by decide +kernel
theorem own_d8_11 : decode jdk_41_method_11_code 11 = .ok (.iload_n 1, 1) := by decide +kernel
theorem own_d8_12 : decode jdk_41_method_11_code 12 = .ok (.invokestatic 95, 3) := by decide +kernel
theorem own_d8_15 : decode jdk_41_method_11_code 15 = .ok (.athrow, 1) := by decide +kernel
theorem own_d8_16 : decode jdk_41_method_11_code 16 = .ok (.iload_n 0, 1) := by decide +kernel
theorem own_d8_17 : decode jdk_41_method_11_code 17 = .ok (.ireturn, 1) := by decide +kernel
theorem own_pn_8 : plainName "jdk/internal/util/Preconditions" = true := by first | (simp [plainName, overriddenIn]; done) | decide +kernel
theorem own_d9_0 : decode prog_5_method_4_code 0 = .ok (.iload_n 0, 1) := by decide +kernel
theorem own_d9_1 : decode prog_5_method_4_code 1 = .ok (.bipush 43, 2) := by decide +kernel
theorem own_d9_3 : decode prog_5_method_4_code 3 = .ok (.if_icmp .eq 27, 3) := by decide +kernel
theorem own_d9_6 : decode prog_5_method_4_code 6 = .ok (.iload_n 0, 1) := by decide +kernel
theorem own_d9_7 : decode prog_5_method_4_code 7 = .ok (.bipush 45, 2) := by decide +kernel
theorem own_d9_9 : decode prog_5_method_4_code 9 = .ok (.if_icmp .eq 21, 3) := by decide +kernel
theorem own_d9_12 : decode prog_5_method_4_code 12 = .ok (.iload_n 0, 1) := by decide +kernel
theorem own_d9_13 : decode prog_5_method_4_code 13 = .ok (.bipush 42, 2) := by decide +kernel
theorem own_d9_15 : decode prog_5_method_4_code 15 = .ok (.if_icmp .eq 15, 3) := by decide +kernel
theorem own_d9_18 : decode prog_5_method_4_code 18 = .ok (.iload_n 0, 1) := by decide +kernel
theorem own_d9_19 : decode prog_5_method_4_code 19 = .ok (.bipush 47, 2) := by decide +kernel
theorem own_d9_21 : decode prog_5_method_4_code 21 = .ok (.if_icmp .eq 9, 3) := by decide +kernel
theorem own_d9_24 : decode prog_5_method_4_code 24 = .ok (.iload_n 0, 1) := by decide +kernel
theorem own_d9_25 : decode prog_5_method_4_code 25 = .ok (.bipush 37, 2) := by decide +kernel
theorem own_d9_27 : decode prog_5_method_4_code 27 = .ok (.if_icmp .ne 7, 3) := by decide +kernel
theorem own_d9_30 : decode prog_5_method_4_code 30 = .ok (.iconst 1, 1) := by decide +kernel
theorem own_d9_31 : decode prog_5_method_4_code 31 = .ok (.goto 4, 3) := by decide +kernel
theorem own_d9_34 : decode prog_5_method_4_code 34 = .ok (.iconst 0, 1) := by decide +kernel
theorem own_d9_35 : decode prog_5_method_4_code 35 = .ok (.ireturn, 1) := by decide +kernel
theorem own_pn_9 : plainName "com/example/predicant/predicant/ArithmeticOperator" = true := by first | (simp [plainName, overriddenIn]; done) | decide +kernel
theorem own_pn_0 : plainName "com/example/predicant/predicant/ArithmeticOperatorIsSymbolPinLaw" = true := by first | (simp [plainName, overriddenIn]; done) | decide +kernel
theorem own_pd___B : parseMethodDescriptor "()B" = some ⟨[], (some .byte)⟩ := by decide +kernel
theorem own_pd___I : parseMethodDescriptor "()I" = some ⟨[], (some .int)⟩ := by decide +kernel
theorem own_pd___Ljava_lang_String_ : parseMethodDescriptor "()Ljava/lang/String;" = some ⟨[], (some (.object "java/lang/String"))⟩ := by decide +kernel
theorem own_pd___Z : parseMethodDescriptor "()Z" = some ⟨[], (some .boolean)⟩ := by decide +kernel
theorem own_pd__I_C : parseMethodDescriptor "(I)C" = some ⟨[.int], (some .char)⟩ := by decide +kernel
theorem own_pd__I_Z : parseMethodDescriptor "(I)Z" = some ⟨[.int], (some .boolean)⟩ := by decide +kernel
theorem own_pd__II_V : parseMethodDescriptor "(II)V" = some ⟨[.int, .int], none⟩ := by decide +kernel
theorem own_pd__IILjava_util_function_BiFunction__I : parseMethodDescriptor "(IILjava/util/function/BiFunction;)I" = some ⟨[.int, .int, (.object "java/util/function/BiFunction")], (some .int)⟩ := by decide +kernel
theorem own_pd___BI_C : parseMethodDescriptor "([BI)C" = some ⟨[(.array .byte), .int], (some .char)⟩ := by decide +kernel
theorem own_rm1_ef (m : MethodId) (a5 : Addr)  : entryFrame m #[(.ref a5)] 1 = mkF m 0 #[.val (.ref a5)] [] := by first | (simp [entryFrame, mkF, argsToLocals, Value.category, maxLocals]; done) | rfl
set_option maxRecDepth 65536 in
set_option maxHeartbeats 40000000 in
theorem own_rm1 (l : Launch) (Z : State) (a0 : Array Value) (hw : ∀ d ∈ tables_1, d.before a0 Z = true) (a5 : Addr) (h0 : Heap) (n0 : Nat) (Z0 : n0 ≤ h0.size) (z5 : Addr) (O5 : own_Op Z h0 a5 z5) :
    own_Met l (⟨"com/example/predicant/predicant/ArithmeticOperator", "symbol", "()Ljava/lang/String;"⟩ : MethodName) (Jvm.Cond.code (⟨"com/example/predicant/predicant/ArithmeticOperator", "symbol", "()Ljava/lang/String;"⟩ : MethodName) prog_5_method_7_code 1 (some (.object "java/lang/String")) :: []) ({ frames := 0, cells := 0, slots := 0, locals := 0 } : Room) Z h0 #[(.ref a5)] (fun v h L => v = some (.ref z5) ∧ Fr n0 L ∧ h = h0) := by
  refine own_body (pn := own_pn_1) ?_
  intro p e s m below meth c s₁ hx hby hml hown hnm hret hlk hZ X0 e0
  have N0 := Fr.nil n0
  refine own_go (fun _ kont => castTop (own_rm1_ef m a5 ) kont) ?_
  show own_Go p.tables e below _ (s₁.setTop (mkF m 0 #[.val (.ref a5)] []))
  obtain ⟨E1, sp, k1, n1, f1, F1, V1, l1, q1⟩ := O5
  refine own_go (fun _ kont => XS.aloadN X0.here hx rfl (hb hby own_d1_0) rfl rfl kont) ?_
  show own_Go p.tables e below _ (s₁.setTop (mkF m 1 #[.val (.ref a5)] [(.ref a5)]))
  obtain ⟨T101, X101, e101, st101⟩ := getF X0 hx hZ hown (host := "") (Or.inl (hw _ (List.mem_of_getElem? (i := 8) rfl))) Via.refl e0 F1 (g := (mkF m 1 #[.val (.ref a5)] [(.ref a5)])) rfl rfl (hb hby own_d1_1)
  refine own_go st101 ?_
  show own_Go p.tables e below _ (T101.setTop (mkF m 4 #[.val (.ref a5)] [(.ref sp)]))
  refine own_go (fun _ kont => XS.iconst X101.here hx rfl (hb hby own_d1_4) kont) ?_
  show own_Go p.tables e below _ (T101.setTop (mkF m 5 #[.val (.ref a5)] [(.int (0 : Int32)), (.ref sp)]))
  refine own_aald X101 hx hZ e101 V1 rfl 0 (by decide) (by decide) l1 (w := .ref z5) q1 (hb hby own_d1_5) ?_
  show own_Go p.tables e below _ (T101.setTop (mkF m 6 #[.val (.ref a5)] [(.ref z5)]))
  exact own_retA X101 hx hlk hret rfl rfl (hb hby own_d1_6) (⟨rfl, N0, e101⟩) (by decide) (by decide)
theorem own_rm3_ef (m : MethodId) (a5 : Addr)  : entryFrame m #[(.ref a5)] 1 = mkF m 0 #[.val (.ref a5)] [] := by first | (simp [entryFrame, mkF, argsToLocals, Value.category, maxLocals]; done) | rfl
set_option maxRecDepth 65536 in
set_option maxHeartbeats 40000000 in
theorem own_rm3 (l : Launch) (Z : State) (a0 : Array Value) (hw : ∀ d ∈ tables_1, d.before a0 Z = true) (a5 : Addr) (h0 : Heap) (n0 : Nat) (Z0 : n0 ≤ h0.size) (ch : Int32) (T5 : own_St Z h0 a5 ch) (cs : Int32) (CS : Sta Z h0 "java/lang/String" "COMPACT_STRINGS" "Z" (.int cs)) (cz : ¬ cs = 0) :
    own_Met l (⟨"java/lang/String", "coder", "()B"⟩ : MethodName) (Jvm.Cond.code (⟨"java/lang/String", "coder", "()B"⟩ : MethodName) jdk_42_method_152_code 1 (some .byte) :: []) ({ frames := 0, cells := 0, slots := 0, locals := 0 } : Room) Z h0 #[(.ref a5)] (fun v h L => v = some (.int 0) ∧ Fr n0 L ∧ h = h0) := by
  refine own_body (pn := own_pn_3) ?_
  intro p e s m below meth c s₁ hx hby hml hown hnm hret hlk hZ X0 e0
  have N0 := Fr.nil n0
  refine own_go (fun _ kont => castTop (own_rm3_ef m a5 ) kont) ?_
  show own_Go p.tables e below _ (s₁.setTop (mkF m 0 #[.val (.ref a5)] []))
  obtain ⟨E1, vb, k1, n1, f1, F1, F2, V1, m1, l1, q1⟩ := T5
  obtain ⟨T102, X102, e102, st102⟩ := getS X0 hx hZ hown (host := "") (hw _ (List.mem_of_getElem? (i := 31) rfl)) Via.refl e0 CS (g := (mkF m 0 #[.val (.ref a5)] [])) rfl (hb hby own_d3_0)
  refine own_go st102 ?_
  show own_Go p.tables e below _ (T102.setTop (mkF m 3 #[.val (.ref a5)] [(.int cs)]))
  refine own_go (fun _ kont => XS.ifNo X102.here hx rfl (hb hby own_d3_3) rfl (XT.i0_eq_f (cz)) kont) ?_
  show own_Go p.tables e below _ (T102.setTop (mkF m 6 #[.val (.ref a5)] []))
  refine own_go (fun _ kont => XS.aloadN X102.here hx rfl (hb hby own_d3_6) rfl rfl kont) ?_
  show own_Go p.tables e below _ (T102.setTop (mkF m 7 #[.val (.ref a5)] [(.ref a5)]))
  obtain ⟨T103, X103, e103, st103⟩ := getF X102 hx hZ hown (host := "") (Or.inl (hw _ (List.mem_of_getElem? (i := 32) rfl))) Via.refl e102 F2 (g := (mkF m 7 #[.val (.ref a5)] [(.ref a5)])) rfl rfl (hb hby own_d3_7)
  refine own_go st103 ?_
  show own_Go p.tables e below _ (T103.setTop (mkF m 10 #[.val (.ref a5)] [(.int (0 : Int32))]))
  refine own_go (fun _ kont => XS.goto X103.here hx rfl (pc0 := 10) (pc' := 14) rfl (hb hby own_d3_10) (by decide) (by decide) kont) ?_
  show own_Go p.tables e below _ (T103.setTop (mkF m 14 #[.val (.ref a5)] [(.int (0 : Int32))]))
  exact own_retI X103 hx hlk hret (by simp) rfl (hb hby own_d3_14) (⟨rfl, N0, e103⟩) (by decide) (by decide)
theorem own_rm5_ef (m : MethodId) (a5 : Addr)  : entryFrame m #[(.ref a5)] 1 = mkF m 0 #[.val (.ref a5)] [] := by first | (simp [entryFrame, mkF, argsToLocals, Value.category, maxLocals]; done) | rfl
set_option maxRecDepth 65536 in
set_option maxHeartbeats 40000000 in
theorem own_rm5 (l : Launch) (Z : State) (a0 : Array Value) (hw : ∀ d ∈ tables_1, d.before a0 Z = true) (a5 : Addr) (h0 : Heap) (n0 : Nat) (Z0 : n0 ≤ h0.size) (ch : Int32) (T5 : own_St Z h0 a5 ch) (cs : Int32) (CS : Sta Z h0 "java/lang/String" "COMPACT_STRINGS" "Z" (.int cs)) (cz : ¬ cs = 0) :
    own_Met l (⟨"java/lang/String", "isLatin1", "()Z"⟩ : MethodName) (Jvm.Cond.code (⟨"java/lang/String", "isLatin1", "()Z"⟩ : MethodName) jdk_42_method_154_code 1 (some .boolean) :: []) ({ frames := 0, cells := 0, slots := 0, locals := 0 } : Room) Z h0 #[(.ref a5)] (fun v h L => v = some (.int 1) ∧ Fr n0 L ∧ h = h0) := by
  refine own_body (pn := own_pn_5) ?_
  intro p e s m below meth c s₁ hx hby hml hown hnm hret hlk hZ X0 e0
  have N0 := Fr.nil n0
  refine own_go (fun _ kont => castTop (own_rm5_ef m a5 ) kont) ?_
  show own_Go p.tables e below _ (s₁.setTop (mkF m 0 #[.val (.ref a5)] []))
  obtain ⟨E1, vb, k1, n1, f1, F1, F2, V1, m1, l1, q1⟩ := T5
  obtain ⟨T104, X104, e104, st104⟩ := getS X0 hx hZ hown (host := "") (hw _ (List.mem_of_getElem? (i := 31) rfl)) Via.refl e0 CS (g := (mkF m 0 #[.val (.ref a5)] [])) rfl (hb hby own_d5_0)
  refine own_go st104 ?_
  show own_Go p.tables e below _ (T104.setTop (mkF m 3 #[.val (.ref a5)] [(.int cs)]))
  refine own_go (fun _ kont => XS.ifNo X104.here hx rfl (hb hby own_d5_3) rfl (XT.i0_eq_f (cz)) kont) ?_
  show own_Go p.tables e below _ (T104.setTop (mkF m 6 #[.val (.ref a5)] []))
  refine own_go (fun _ kont => XS.aloadN X104.here hx rfl (hb hby own_d5_6) rfl rfl kont) ?_
  show own_Go p.tables e below _ (T104.setTop (mkF m 7 #[.val (.ref a5)] [(.ref a5)]))
  obtain ⟨T105, X105, e105, st105⟩ := getF X104 hx hZ hown (host := "") (Or.inl (hw _ (List.mem_of_getElem? (i := 32) rfl))) Via.refl e104 F2 (g := (mkF m 7 #[.val (.ref a5)] [(.ref a5)])) rfl rfl (hb hby own_d5_7)
  refine own_go st105 ?_
  show own_Go p.tables e below _ (T105.setTop (mkF m 10 #[.val (.ref a5)] [(.int (0 : Int32))]))
  refine own_go (fun _ kont => XS.ifNo X105.here hx rfl (hb hby own_d5_10) rfl (XT.i0_ne_f (rfl)) kont) ?_
  show own_Go p.tables e below _ (T105.setTop (mkF m 13 #[.val (.ref a5)] []))
  refine own_go (fun _ kont => XS.iconst X105.here hx rfl (hb hby own_d5_13) kont) ?_
  show own_Go p.tables e below _ (T105.setTop (mkF m 14 #[.val (.ref a5)] [(.int (1 : Int32))]))
  refine own_go (fun _ kont => XS.goto X105.here hx rfl (pc0 := 14) (pc' := 18) rfl (hb hby own_d5_14) (by decide) (by decide) kont) ?_
  show own_Go p.tables e below _ (T105.setTop (mkF m 18 #[.val (.ref a5)] [(.int (1 : Int32))]))
  exact own_retI X105 hx hlk hret (by simp) rfl (hb hby own_d5_18) (⟨rfl, N0, e105⟩) (by decide) (by decide)
theorem own_rm2_ef (m : MethodId) (a5 : Addr)  : entryFrame m #[(.ref a5)] 1 = mkF m 0 #[.val (.ref a5)] [] := by first | (simp [entryFrame, mkF, argsToLocals, Value.category, maxLocals]; done) | rfl
set_option maxRecDepth 65536 in
set_option maxHeartbeats 40000000 in
theorem own_rm2 (l : Launch) (Z : State) (a0 : Array Value) (hw : ∀ d ∈ tables_1, d.before a0 Z = true) (a5 : Addr) (h0 : Heap) (n0 : Nat) (Z0 : n0 ≤ h0.size) (ch : Int32) (T5 : own_St Z h0 a5 ch) (cs : Int32) (CS : Sta Z h0 "java/lang/String" "COMPACT_STRINGS" "Z" (.int cs)) (cz : ¬ cs = 0) :
    own_Met l (⟨"java/lang/String", "length", "()I"⟩ : MethodName) (Jvm.Cond.code (⟨"java/lang/String", "length", "()I"⟩ : MethodName) jdk_42_method_54_code 1 (some .int) :: []) ({ frames := 1, cells := 0, slots := 0, locals := 13 } : Room) Z h0 #[(.ref a5)] (fun v h L => v = some (.int 1) ∧ Fr n0 L ∧ h = h0) := by
  refine own_body (pn := own_pn_2) ?_
  intro p e s m below meth c s₁ hx hby hml hown hnm hret hlk hZ X0 e0
  have N0 := Fr.nil n0
  refine own_go (fun _ kont => castTop (own_rm2_ef m a5 ) kont) ?_
  show own_Go p.tables e below _ (s₁.setTop (mkF m 0 #[.val (.ref a5)] []))
  have T6 := T5
  obtain ⟨E1, vb, k1, n1, f1, F1, F2, V1, m1, l1, q1⟩ := T5
  refine own_go (fun _ kont => XS.aloadN X0.here hx rfl (hb hby own_d2_0) rfl rfl kont) ?_
  show own_Go p.tables e below _ (s₁.setTop (mkF m 1 #[.val (.ref a5)] [(.ref a5)]))
  obtain ⟨T106, X106, e106, st106⟩ := getF X0 hx hZ hown (host := "") (Or.inl (hw _ (List.mem_of_getElem? (i := 24) rfl))) Via.refl e0 F1 (g := (mkF m 1 #[.val (.ref a5)] [(.ref a5)])) rfl rfl (hb hby own_d2_1)
  refine own_go st106 ?_
  show own_Go p.tables e below _ (T106.setTop (mkF m 4 #[.val (.ref a5)] [(.ref vb)]))
  refine own_alen X106 hx hZ e106 V1 (1 : Int32) m1 (hb hby own_d2_4) ?_
  show own_Go p.tables e below _ (T106.setTop (mkF m 5 #[.val (.ref a5)] [(.int (1 : Int32))]))
  refine own_go (fun _ kont => XS.aloadN X106.here hx rfl (hb hby own_d2_5) rfl rfl kont) ?_
  show own_Go p.tables e below _ (T106.setTop (mkF m 6 #[.val (.ref a5)] [(.ref a5), (.int (1 : Int32))]))
  refine own_callV X106 hx hZ (z := (⟨"java/lang/String", "coder", "()B"⟩ : MethodName)) (argsL := []) (rest := [(.int (1 : Int32))]) (W := 1) hown (hw _ (List.mem_of_getElem? (i := 26) rfl)) (hw _ (List.mem_of_getElem? (i := 27) rfl)) (hw _ (List.mem_of_getElem? (i := 29) rfl)) (hw _ (List.mem_of_getElem? (i := 28) rfl)) (hw _ (List.mem_of_getElem? (i := 30) rfl)) (hw _ (List.mem_of_getElem? (i := 22) rfl)) (by decide) (E1) (own_rm3 l Z a0 hw a5 h0 n0 Z0 ch T6 cs CS cz) e106 (by decide) (by decide) (by decide) (by decide) (by rw [hml]; rfl) (lenOf own_pd___B rfl) rfl (Nat.le_of_eq rfl) (hb hby own_d2_6) ?_
  rintro _ T107 L107 X107 ⟨rfl, N107, e107⟩
  have NA107 := Fr.app N0 N107
  show own_Go p.tables e below _ (T107.setTop (mkF m 9 #[.val (.ref a5)] [(.int (0 : Int32)), (.int (1 : Int32))]))
  refine own_go (fun _ kont => XS.ishr X107.here hx rfl (hb hby own_d2_9) rfl kont) ?_
  show own_Go p.tables e below _ (T107.setTop (mkF m 10 #[.val (.ref a5)] [(.int ((1 : Int32) >>> ((0 : Int32) &&& 31)))]))
  exact own_retI X107 hx hlk hret (by simp) rfl (hb hby own_d2_10) (⟨by decide, NA107, e107⟩) (by decide) (by decide)
theorem own_rm8_ef (m : MethodId) (i5 : Int32) (m5 : Int32) (v5 : Value) (hv : v5.isRef = true) : entryFrame m #[(.int i5), (.int m5), (v5)] 3 = mkF m 0 #[.val (.int i5), .val (.int m5), .val (v5)] [] := by rcases ref_cases hv with rfl | ⟨a, rfl⟩ <;> first | (simp [entryFrame, mkF, argsToLocals, Value.category]; done) | rfl
set_option maxRecDepth 65536 in
set_option maxHeartbeats 40000000 in
theorem own_rm8 (l : Launch) (Z : State) (a0 : Array Value) (hw : ∀ d ∈ tables_1, d.before a0 Z = true) (i5 : Int32) (m5 : Int32) (v5 : Value) (h0 : Heap) (n0 : Nat) (Z0 : n0 ≤ h0.size) (hv : v5.isRef = true) (hi : ¬ i5 < 0) (hm : i5 < m5) :
    own_Met l (⟨"jdk/internal/util/Preconditions", "checkIndex", "(IILjava/util/function/BiFunction;)I"⟩ : MethodName) (Jvm.Cond.code (⟨"jdk/internal/util/Preconditions", "checkIndex", "(IILjava/util/function/BiFunction;)I"⟩ : MethodName) jdk_41_method_11_code 3 (some .int) :: []) ({ frames := 0, cells := 0, slots := 0, locals := 0 } : Room) Z h0 #[(.int i5), (.int m5), (v5)] (fun v h L => v = some (.int i5) ∧ Fr n0 L ∧ h = h0) := by
  refine own_body (pn := own_pn_8) ?_
  intro p e s m below meth c s₁ hx hby hml hown hnm hret hlk hZ X0 e0
  have N0 := Fr.nil n0
  refine own_go (fun _ kont => castTop (own_rm8_ef m i5 m5 v5 hv) kont) ?_
  show own_Go p.tables e below _ (s₁.setTop (mkF m 0 #[.val (.int i5), .val (.int m5), .val (v5)] []))
  refine own_go (fun _ kont => XS.iloadN X0.here hx rfl (hb hby own_d8_0) rfl kont) ?_
  show own_Go p.tables e below _ (s₁.setTop (mkF m 1 #[.val (.int i5), .val (.int m5), .val (v5)] [(.int i5)]))
  refine own_go (fun _ kont => XS.ifNo X0.here hx rfl (hb hby own_d8_1) rfl (XT.i0_lt_f (hi)) kont) ?_
  show own_Go p.tables e below _ (s₁.setTop (mkF m 4 #[.val (.int i5), .val (.int m5), .val (v5)] []))
  refine own_go (fun _ kont => XS.iloadN X0.here hx rfl (hb hby own_d8_4) rfl kont) ?_
  show own_Go p.tables e below _ (s₁.setTop (mkF m 5 #[.val (.int i5), .val (.int m5), .val (v5)] [(.int i5)]))
  refine own_go (fun _ kont => XS.iloadN X0.here hx rfl (hb hby own_d8_5) rfl kont) ?_
  show own_Go p.tables e below _ (s₁.setTop (mkF m 6 #[.val (.int i5), .val (.int m5), .val (v5)] [(.int m5), (.int i5)]))
  refine own_go (fun _ kont => XS.icmpYes X0.here hx rfl (pc0 := 6) (pc' := 16) rfl (hb hby own_d8_6) rfl (XT.ii_lt_t (hm)) (by decide) (by decide) kont) ?_
  show own_Go p.tables e below _ (s₁.setTop (mkF m 16 #[.val (.int i5), .val (.int m5), .val (v5)] []))
  refine own_go (fun _ kont => XS.iloadN X0.here hx rfl (hb hby own_d8_16) rfl kont) ?_
  show own_Go p.tables e below _ (s₁.setTop (mkF m 17 #[.val (.int i5), .val (.int m5), .val (v5)] [(.int i5)]))
  exact own_retI X0 hx hlk hret (by simp) rfl (hb hby own_d8_17) (⟨rfl, N0, e0⟩) (by decide) (by decide)
theorem own_rm7_ef (m : MethodId) (i5 : Int32) (m5 : Int32)  : entryFrame m #[(.int i5), (.int m5)] 2 = mkF m 0 #[.val (.int i5), .val (.int m5)] [] := by first | (simp [entryFrame, mkF, argsToLocals, Value.category, maxLocals]; done) | rfl
set_option maxRecDepth 65536 in
set_option maxHeartbeats 40000000 in
theorem own_rm7 (l : Launch) (Z : State) (a0 : Array Value) (hw : ∀ d ∈ tables_1, d.before a0 Z = true) (i5 : Int32) (m5 : Int32) (h0 : Heap) (n0 : Nat) (Z0 : n0 ≤ h0.size) (v5 : Value) (SF : Sta Z h0 "jdk/internal/util/Preconditions" "SIOOBE_FORMATTER" "Ljava/util/function/BiFunction;" v5) (hv : v5.isRef = true) (hi : ¬ i5 < 0) (hm : i5 < m5) :
    own_Met l (⟨"java/lang/String", "checkIndex", "(II)V"⟩ : MethodName) (Jvm.Cond.code (⟨"java/lang/String", "checkIndex", "(II)V"⟩ : MethodName) jdk_42_method_155_code 2 none :: []) ({ frames := 1, cells := 0, slots := 0, locals := 14 } : Room) Z h0 #[(.int i5), (.int m5)] (fun v h L => v = none ∧ Fr n0 L ∧ h = h0) := by
  refine own_body (pn := own_pn_7) ?_
  intro p e s m below meth c s₁ hx hby hml hown hnm hret hlk hZ X0 e0
  have N0 := Fr.nil n0
  refine own_go (fun _ kont => castTop (own_rm7_ef m i5 m5 ) kont) ?_
  show own_Go p.tables e below _ (s₁.setTop (mkF m 0 #[.val (.int i5), .val (.int m5)] []))
  refine own_go (fun _ kont => XS.iloadN X0.here hx rfl (hb hby own_d7_0) rfl kont) ?_
  show own_Go p.tables e below _ (s₁.setTop (mkF m 1 #[.val (.int i5), .val (.int m5)] [(.int i5)]))
  refine own_go (fun _ kont => XS.iloadN X0.here hx rfl (hb hby own_d7_1) rfl kont) ?_
  show own_Go p.tables e below _ (s₁.setTop (mkF m 2 #[.val (.int i5), .val (.int m5)] [(.int m5), (.int i5)]))
  obtain ⟨T108, X108, e108, st108⟩ := getS X0 hx hZ hown (host := "") (hw _ (List.mem_of_getElem? (i := 51) rfl)) Via.refl e0 SF (g := (mkF m 2 #[.val (.int i5), .val (.int m5)] [(.int m5), (.int i5)])) rfl (hb hby own_d7_2)
  refine own_go st108 ?_
  show own_Go p.tables e below _ (T108.setTop (mkF m 5 #[.val (.int i5), .val (.int m5)] [(v5), (.int m5), (.int i5)]))
  refine own_callS X108 hx hZ (y := (⟨"jdk/internal/util/Preconditions", "checkIndex", "(IILjava/util/function/BiFunction;)I"⟩ : MethodName)) (argsL := [(.int i5), (.int m5), (v5)]) (rest := []) (W := 0) hown (hw _ (List.mem_of_getElem? (i := 53) rfl)) (hw _ (List.mem_of_getElem? (i := 54) rfl)) (hw _ (List.mem_of_getElem? (i := 52) rfl)) (hw _ (List.mem_of_getElem? (i := 55) rfl)) (by decide) (own_rm8 l Z a0 hw i5 m5 v5 h0 n0 Z0 hv hi hm) e108 (by decide) (by decide) (by decide) (by decide) (by rw [hml]; rfl) (lenOf own_pd__IILjava_util_function_BiFunction__I rfl) rfl (Nat.le_of_eq rfl) (hb hby own_d7_5) ?_
  rintro _ T109 L109 X109 ⟨rfl, N109, e109⟩
  have NA109 := Fr.app N0 N109
  show own_Go p.tables e below _ (T109.setTop (mkF m 8 #[.val (.int i5), .val (.int m5)] [(.int i5)]))
  refine own_go (fun _ kont => XS.pop X109.here hx rfl (hb hby own_d7_8) rfl rfl kont) ?_
  show own_Go p.tables e below _ (T109.setTop (mkF m 9 #[.val (.int i5), .val (.int m5)] []))
  exact own_retV X109 hx hlk hret (hb hby own_d7_9) (⟨rfl, NA109, e109⟩) (by decide) (by decide)
theorem own_rm6_ef (m : MethodId) (a5 : Addr)  : entryFrame m #[(.ref a5), (.int (0 : Int32))] 2 = mkF m 0 #[.val (.ref a5), .val (.int (0 : Int32))] [] := by first | (simp [entryFrame, mkF, argsToLocals, Value.category, maxLocals]; done) | rfl
set_option maxRecDepth 65536 in
set_option maxHeartbeats 40000000 in
theorem own_rm6 (l : Launch) (Z : State) (a0 : Array Value) (hw : ∀ d ∈ tables_1, d.before a0 Z = true) (a5 : Addr) (h0 : Heap) (n0 : Nat) (Z0 : n0 ≤ h0.size) (ch : Int32) (k1 : ClassId) (n1 : Nat) (f1 : Nat → Value) (V1 : own_Av Z h0 a5 k1 .byte n1 f1) (m1 : n1.toInt32 = 1) (l1 : 0 < n1) (q1 : f1 0 = .int ch) (v5 : Value) (SF : Sta Z h0 "jdk/internal/util/Preconditions" "SIOOBE_FORMATTER" "Ljava/util/function/BiFunction;" v5) (hv : v5.isRef = true) :
    own_Met l (⟨"java/lang/StringLatin1", "charAt", "([BI)C"⟩ : MethodName) (Jvm.Cond.code (⟨"java/lang/StringLatin1", "charAt", "([BI)C"⟩ : MethodName) jdk_43_method_2_code 2 (some .char) :: []) ({ frames := 2, cells := 0, slots := 0, locals := 27 } : Room) Z h0 #[(.ref a5), (.int (0 : Int32))] (fun v h L => v = some (.int (own_c ch)) ∧ Fr n0 L ∧ h = h0) := by
  refine own_body (pn := own_pn_6) ?_
  intro p e s m below meth c s₁ hx hby hml hown hnm hret hlk hZ X0 e0
  have N0 := Fr.nil n0
  refine own_go (fun _ kont => castTop (own_rm6_ef m a5 ) kont) ?_
  show own_Go p.tables e below _ (s₁.setTop (mkF m 0 #[.val (.ref a5), .val (.int (0 : Int32))] []))
  refine own_go (fun _ kont => XS.iloadN X0.here hx rfl (hb hby own_d6_0) rfl kont) ?_
  show own_Go p.tables e below _ (s₁.setTop (mkF m 1 #[.val (.ref a5), .val (.int (0 : Int32))] [(.int (0 : Int32))]))
  refine own_go (fun _ kont => XS.aloadN X0.here hx rfl (hb hby own_d6_1) rfl rfl kont) ?_
  show own_Go p.tables e below _ (s₁.setTop (mkF m 2 #[.val (.ref a5), .val (.int (0 : Int32))] [(.ref a5), (.int (0 : Int32))]))
  refine own_alen X0 hx hZ e0 V1 (1 : Int32) m1 (hb hby own_d6_2) ?_
  show own_Go p.tables e below _ (s₁.setTop (mkF m 3 #[.val (.ref a5), .val (.int (0 : Int32))] [(.int (1 : Int32)), (.int (0 : Int32))]))
  refine own_callS X0 hx hZ (y := (⟨"java/lang/String", "checkIndex", "(II)V"⟩ : MethodName)) (argsL := [(.int (0 : Int32)), (.int (1 : Int32))]) (rest := []) (W := 0) hown (hw _ (List.mem_of_getElem? (i := 48) rfl)) (hw _ (List.mem_of_getElem? (i := 49) rfl)) (hw _ (List.mem_of_getElem? (i := 22) rfl)) (hw _ (List.mem_of_getElem? (i := 50) rfl)) (by decide) (own_rm7 l Z a0 hw (0 : Int32) (1 : Int32) h0 n0 Z0 v5 SF hv (by decide) (by decide)) e0 (by decide) (by decide) (by decide) (by decide) (by rw [hml]; rfl) (lenOf own_pd__II_V rfl) rfl (Nat.le_of_eq rfl) (hb hby own_d6_3) ?_
  rintro _ T110 L110 X110 ⟨rfl, N110, e110⟩
  have NA110 := Fr.app N0 N110
  show own_Go p.tables e below _ (T110.setTop (mkF m 6 #[.val (.ref a5), .val (.int (0 : Int32))] []))
  refine own_go (fun _ kont => XS.aloadN X110.here hx rfl (hb hby own_d6_6) rfl rfl kont) ?_
  show own_Go p.tables e below _ (T110.setTop (mkF m 7 #[.val (.ref a5), .val (.int (0 : Int32))] [(.ref a5)]))
  refine own_go (fun _ kont => XS.iloadN X110.here hx rfl (hb hby own_d6_7) rfl kont) ?_
  show own_Go p.tables e below _ (T110.setTop (mkF m 8 #[.val (.ref a5), .val (.int (0 : Int32))] [(.int (0 : Int32)), (.ref a5)]))
  refine own_bald X110 hx hZ e110 V1 0 (by decide) (by decide) l1 (w := .int ch) q1 (hb hby own_d6_8) ?_
  show own_Go p.tables e below _ (T110.setTop (mkF m 9 #[.val (.ref a5), .val (.int (0 : Int32))] [(.int ch)]))
  refine own_go (fun _ kont => XS.sipush X110.here hx rfl (hb hby own_d6_9) kont) ?_
  show own_Go p.tables e below _ (T110.setTop (mkF m 12 #[.val (.ref a5), .val (.int (0 : Int32))] [(.int (255 : Int32)), (.int ch)]))
  refine own_go (fun _ kont => XS.iand X110.here hx rfl (hb hby own_d6_12) rfl kont) ?_
  show own_Go p.tables e below _ (T110.setTop (mkF m 13 #[.val (.ref a5), .val (.int (0 : Int32))] [(.int (ch &&& (255 : Int32)))]))
  refine own_go (fun _ kont => XS.i2c X110.here hx rfl (hb hby own_d6_13) rfl kont) ?_
  show own_Go p.tables e below _ (T110.setTop (mkF m 14 #[.val (.ref a5), .val (.int (0 : Int32))] [(.int ((ch &&& (255 : Int32)).toUInt32.toUInt16.toUInt32.toInt32))]))
  exact own_retI X110 hx hlk hret (by simp) (XT.narrow_c _) (hb hby own_d6_14) (⟨rfl, NA110, e110⟩) (by decide) (by decide)
theorem own_rm4_ef (m : MethodId) (a5 : Addr)  : entryFrame m #[(.ref a5), (.int (0 : Int32))] 2 = mkF m 0 #[.val (.ref a5), .val (.int (0 : Int32))] [] := by first | (simp [entryFrame, mkF, argsToLocals, Value.category, maxLocals]; done) | rfl
set_option maxRecDepth 65536 in
set_option maxHeartbeats 40000000 in
theorem own_rm4 (l : Launch) (Z : State) (a0 : Array Value) (hw : ∀ d ∈ tables_1, d.before a0 Z = true) (a5 : Addr) (h0 : Heap) (n0 : Nat) (Z0 : n0 ≤ h0.size) (ch : Int32) (T5 : own_St Z h0 a5 ch) (cs : Int32) (CS : Sta Z h0 "java/lang/String" "COMPACT_STRINGS" "Z" (.int cs)) (cz : ¬ cs = 0) (v5 : Value) (SF : Sta Z h0 "jdk/internal/util/Preconditions" "SIOOBE_FORMATTER" "Ljava/util/function/BiFunction;" v5) (hv : v5.isRef = true) :
    own_Met l (⟨"java/lang/String", "charAt", "(I)C"⟩ : MethodName) (Jvm.Cond.code (⟨"java/lang/String", "charAt", "(I)C"⟩ : MethodName) jdk_42_method_56_code 2 (some .char) :: []) ({ frames := 3, cells := 0, slots := 0, locals := 40 } : Room) Z h0 #[(.ref a5), (.int (0 : Int32))] (fun v h L => v = some (.int (own_c ch)) ∧ Fr n0 L ∧ h = h0) := by
  refine own_body (pn := own_pn_4) ?_
  intro p e s m below meth c s₁ hx hby hml hown hnm hret hlk hZ X0 e0
  have N0 := Fr.nil n0
  refine own_go (fun _ kont => castTop (own_rm4_ef m a5 ) kont) ?_
  show own_Go p.tables e below _ (s₁.setTop (mkF m 0 #[.val (.ref a5), .val (.int (0 : Int32))] []))
  have T6 := T5
  obtain ⟨E1, vb, k1, n1, f1, F1, F2, V1, m1, l1, q1⟩ := T5
  refine own_go (fun _ kont => XS.aloadN X0.here hx rfl (hb hby own_d4_0) rfl rfl kont) ?_
  show own_Go p.tables e below _ (s₁.setTop (mkF m 1 #[.val (.ref a5), .val (.int (0 : Int32))] [(.ref a5)]))
  refine own_callV X0 hx hZ (z := (⟨"java/lang/String", "isLatin1", "()Z"⟩ : MethodName)) (argsL := []) (rest := []) (W := 0) hown (hw _ (List.mem_of_getElem? (i := 39) rfl)) (hw _ (List.mem_of_getElem? (i := 40) rfl)) (hw _ (List.mem_of_getElem? (i := 42) rfl)) (hw _ (List.mem_of_getElem? (i := 41) rfl)) (hw _ (List.mem_of_getElem? (i := 43) rfl)) (hw _ (List.mem_of_getElem? (i := 22) rfl)) (by decide) (E1) (own_rm5 l Z a0 hw a5 h0 n0 Z0 ch T6 cs CS cz) e0 (by decide) (by decide) (by decide) (by decide) (by rw [hml]; rfl) (lenOf own_pd___Z rfl) rfl (Nat.le_of_eq rfl) (hb hby own_d4_1) ?_
  rintro _ T111 L111 X111 ⟨rfl, N111, e111⟩
  have NA111 := Fr.app N0 N111
  show own_Go p.tables e below _ (T111.setTop (mkF m 4 #[.val (.ref a5), .val (.int (0 : Int32))] [(.int (1 : Int32))]))
  refine own_go (fun _ kont => XS.ifNo X111.here hx rfl (hb hby own_d4_4) rfl (XT.i0_eq_f (by decide)) kont) ?_
  show own_Go p.tables e below _ (T111.setTop (mkF m 7 #[.val (.ref a5), .val (.int (0 : Int32))] []))
  refine own_go (fun _ kont => XS.aloadN X111.here hx rfl (hb hby own_d4_7) rfl rfl kont) ?_
  show own_Go p.tables e below _ (T111.setTop (mkF m 8 #[.val (.ref a5), .val (.int (0 : Int32))] [(.ref a5)]))
  obtain ⟨T112, X112, e112, st112⟩ := getF X111 hx hZ hown (host := "") (Or.inl (hw _ (List.mem_of_getElem? (i := 24) rfl))) Via.refl e111 F1 (g := (mkF m 8 #[.val (.ref a5), .val (.int (0 : Int32))] [(.ref a5)])) rfl rfl (hb hby own_d4_8)
  refine own_go st112 ?_
  show own_Go p.tables e below _ (T112.setTop (mkF m 11 #[.val (.ref a5), .val (.int (0 : Int32))] [(.ref vb)]))
  refine own_go (fun _ kont => XS.iloadN X112.here hx rfl (hb hby own_d4_11) rfl kont) ?_
  show own_Go p.tables e below _ (T112.setTop (mkF m 12 #[.val (.ref a5), .val (.int (0 : Int32))] [(.int (0 : Int32)), (.ref vb)]))
  refine own_callS X112 hx hZ (y := (⟨"java/lang/StringLatin1", "charAt", "([BI)C"⟩ : MethodName)) (argsL := [(.ref vb), (.int (0 : Int32))]) (rest := []) (W := 0) hown (hw _ (List.mem_of_getElem? (i := 44) rfl)) (hw _ (List.mem_of_getElem? (i := 45) rfl)) (hw _ (List.mem_of_getElem? (i := 46) rfl)) (hw _ (List.mem_of_getElem? (i := 47) rfl)) (by decide) (own_rm6 l Z a0 hw vb h0 n0 Z0 ch k1 n1 f1 V1 m1 l1 q1 v5 SF hv) e112 (by decide) (by decide) (by decide) (by decide) (by rw [hml]; rfl) (lenOf own_pd___BI_C rfl) rfl (Nat.le_of_eq rfl) (hb hby own_d4_12) ?_
  rintro _ T113 L113 X113 ⟨rfl, N113, e113⟩
  have NA113 := Fr.app NA111 N113
  show own_Go p.tables e below _ (T113.setTop (mkF m 15 #[.val (.ref a5), .val (.int (0 : Int32))] [(.int (own_c ch))]))
  exact own_retI X113 hx hlk hret (by simp) (XT.narrow_c _) (hb hby own_d4_15) (⟨rfl, NA113, e113⟩) (by decide) (by decide)
theorem own_rm9_ef (m : MethodId) (p1 : Int32)  : entryFrame m #[(.int p1)] 1 = mkF m 0 #[.val (.int p1)] [] := by first | (simp [entryFrame, mkF, argsToLocals, Value.category, maxLocals]; done) | rfl
set_option maxRecDepth 65536 in
set_option maxHeartbeats 40000000 in
theorem own_rm9 (l : Launch) (Z : State) (a0 : Array Value) (hw : ∀ d ∈ tables_1, d.before a0 Z = true) (p1 : Int32) (h0 : Heap) (n0 : Nat) (Z0 : n0 ≤ h0.size)  :
    own_Met l (⟨"com/example/predicant/predicant/ArithmeticOperator", "isSymbol", "(I)Z"⟩ : MethodName) (Jvm.Cond.code (⟨"com/example/predicant/predicant/ArithmeticOperator", "isSymbol", "(I)Z"⟩ : MethodName) prog_5_method_4_code 1 (some .boolean) :: []) ({ frames := 0, cells := 0, slots := 0, locals := 0 } : Room) Z h0 #[(.int p1)] (fun v h L => v = some (.int (own_b (own_S p1))) ∧ Fr n0 L ∧ h = h0) := by
  refine own_body (pn := own_pn_9) ?_
  intro p e s m below meth c s₁ hx hby hml hown hnm hret hlk hZ X0 e0
  have N0 := Fr.nil n0
  refine own_go (fun _ kont => castTop (own_rm9_ef m p1 ) kont) ?_
  show own_Go p.tables e below _ (s₁.setTop (mkF m 0 #[.val (.int p1)] []))
  refine own_go (fun _ kont => XS.iloadN X0.here hx rfl (hb hby own_d9_0) rfl kont) ?_
  show own_Go p.tables e below _ (s₁.setTop (mkF m 1 #[.val (.int p1)] [(.int p1)]))
  refine own_go (fun _ kont => XS.bipush X0.here hx rfl (hb hby own_d9_1) kont) ?_
  show own_Go p.tables e below _ (s₁.setTop (mkF m 3 #[.val (.int p1)] [(.int (43 : Int32)), (.int p1)]))
  by_cases b114 : p1 = (43 : Int32)
  · skip
    refine own_go (fun _ kont => XS.icmpYes X0.here hx rfl (pc0 := 3) (pc' := 30) rfl (hb hby own_d9_3) rfl (XT.ii_eq_t (b114)) (by decide) (by decide) kont) ?_
    show own_Go p.tables e below _ (s₁.setTop (mkF m 30 #[.val (.int p1)] []))
    refine own_go (fun _ kont => XS.iconst X0.here hx rfl (hb hby own_d9_30) kont) ?_
    show own_Go p.tables e below _ (s₁.setTop (mkF m 31 #[.val (.int p1)] [(.int (1 : Int32))]))
    refine own_go (fun _ kont => XS.goto X0.here hx rfl (pc0 := 31) (pc' := 35) rfl (hb hby own_d9_31) (by decide) (by decide) kont) ?_
    show own_Go p.tables e below _ (s₁.setTop (mkF m 35 #[.val (.int p1)] [(.int (1 : Int32))]))
    exact own_retI X0 hx hlk hret (by simp) rfl (hb hby own_d9_35) (⟨own_1 (by unfold own_S; simp [b114]), N0, e0⟩) (by decide) (by decide)
  · skip
    refine own_go (fun _ kont => XS.icmpNo X0.here hx rfl (hb hby own_d9_3) rfl (XT.ii_eq_f (b114)) kont) ?_
    show own_Go p.tables e below _ (s₁.setTop (mkF m 6 #[.val (.int p1)] []))
    refine own_go (fun _ kont => XS.iloadN X0.here hx rfl (hb hby own_d9_6) rfl kont) ?_
    show own_Go p.tables e below _ (s₁.setTop (mkF m 7 #[.val (.int p1)] [(.int p1)]))
    refine own_go (fun _ kont => XS.bipush X0.here hx rfl (hb hby own_d9_7) kont) ?_
    show own_Go p.tables e below _ (s₁.setTop (mkF m 9 #[.val (.int p1)] [(.int (45 : Int32)), (.int p1)]))
    by_cases b115 : p1 = (45 : Int32)
    · skip
      refine own_go (fun _ kont => XS.icmpYes X0.here hx rfl (pc0 := 9) (pc' := 30) rfl (hb hby own_d9_9) rfl (XT.ii_eq_t (b115)) (by decide) (by decide) kont) ?_
      show own_Go p.tables e below _ (s₁.setTop (mkF m 30 #[.val (.int p1)] []))
      refine own_go (fun _ kont => XS.iconst X0.here hx rfl (hb hby own_d9_30) kont) ?_
      show own_Go p.tables e below _ (s₁.setTop (mkF m 31 #[.val (.int p1)] [(.int (1 : Int32))]))
      refine own_go (fun _ kont => XS.goto X0.here hx rfl (pc0 := 31) (pc' := 35) rfl (hb hby own_d9_31) (by decide) (by decide) kont) ?_
      show own_Go p.tables e below _ (s₁.setTop (mkF m 35 #[.val (.int p1)] [(.int (1 : Int32))]))
      exact own_retI X0 hx hlk hret (by simp) rfl (hb hby own_d9_35) (⟨own_1 (by unfold own_S; simp [b114, b115]), N0, e0⟩) (by decide) (by decide)
    · skip
      refine own_go (fun _ kont => XS.icmpNo X0.here hx rfl (hb hby own_d9_9) rfl (XT.ii_eq_f (b115)) kont) ?_
      show own_Go p.tables e below _ (s₁.setTop (mkF m 12 #[.val (.int p1)] []))
      refine own_go (fun _ kont => XS.iloadN X0.here hx rfl (hb hby own_d9_12) rfl kont) ?_
      show own_Go p.tables e below _ (s₁.setTop (mkF m 13 #[.val (.int p1)] [(.int p1)]))
      refine own_go (fun _ kont => XS.bipush X0.here hx rfl (hb hby own_d9_13) kont) ?_
      show own_Go p.tables e below _ (s₁.setTop (mkF m 15 #[.val (.int p1)] [(.int (42 : Int32)), (.int p1)]))
      by_cases b116 : p1 = (42 : Int32)
      · skip
        refine own_go (fun _ kont => XS.icmpYes X0.here hx rfl (pc0 := 15) (pc' := 30) rfl (hb hby own_d9_15) rfl (XT.ii_eq_t (b116)) (by decide) (by decide) kont) ?_
        show own_Go p.tables e below _ (s₁.setTop (mkF m 30 #[.val (.int p1)] []))
        refine own_go (fun _ kont => XS.iconst X0.here hx rfl (hb hby own_d9_30) kont) ?_
        show own_Go p.tables e below _ (s₁.setTop (mkF m 31 #[.val (.int p1)] [(.int (1 : Int32))]))
        refine own_go (fun _ kont => XS.goto X0.here hx rfl (pc0 := 31) (pc' := 35) rfl (hb hby own_d9_31) (by decide) (by decide) kont) ?_
        show own_Go p.tables e below _ (s₁.setTop (mkF m 35 #[.val (.int p1)] [(.int (1 : Int32))]))
        exact own_retI X0 hx hlk hret (by simp) rfl (hb hby own_d9_35) (⟨own_1 (by unfold own_S; simp [b114, b115, b116]), N0, e0⟩) (by decide) (by decide)
      · skip
        refine own_go (fun _ kont => XS.icmpNo X0.here hx rfl (hb hby own_d9_15) rfl (XT.ii_eq_f (b116)) kont) ?_
        show own_Go p.tables e below _ (s₁.setTop (mkF m 18 #[.val (.int p1)] []))
        refine own_go (fun _ kont => XS.iloadN X0.here hx rfl (hb hby own_d9_18) rfl kont) ?_
        show own_Go p.tables e below _ (s₁.setTop (mkF m 19 #[.val (.int p1)] [(.int p1)]))
        refine own_go (fun _ kont => XS.bipush X0.here hx rfl (hb hby own_d9_19) kont) ?_
        show own_Go p.tables e below _ (s₁.setTop (mkF m 21 #[.val (.int p1)] [(.int (47 : Int32)), (.int p1)]))
        by_cases b117 : p1 = (47 : Int32)
        · skip
          refine own_go (fun _ kont => XS.icmpYes X0.here hx rfl (pc0 := 21) (pc' := 30) rfl (hb hby own_d9_21) rfl (XT.ii_eq_t (b117)) (by decide) (by decide) kont) ?_
          show own_Go p.tables e below _ (s₁.setTop (mkF m 30 #[.val (.int p1)] []))
          refine own_go (fun _ kont => XS.iconst X0.here hx rfl (hb hby own_d9_30) kont) ?_
          show own_Go p.tables e below _ (s₁.setTop (mkF m 31 #[.val (.int p1)] [(.int (1 : Int32))]))
          refine own_go (fun _ kont => XS.goto X0.here hx rfl (pc0 := 31) (pc' := 35) rfl (hb hby own_d9_31) (by decide) (by decide) kont) ?_
          show own_Go p.tables e below _ (s₁.setTop (mkF m 35 #[.val (.int p1)] [(.int (1 : Int32))]))
          exact own_retI X0 hx hlk hret (by simp) rfl (hb hby own_d9_35) (⟨own_1 (by unfold own_S; simp [b114, b115, b116, b117]), N0, e0⟩) (by decide) (by decide)
        · skip
          refine own_go (fun _ kont => XS.icmpNo X0.here hx rfl (hb hby own_d9_21) rfl (XT.ii_eq_f (b117)) kont) ?_
          show own_Go p.tables e below _ (s₁.setTop (mkF m 24 #[.val (.int p1)] []))
          refine own_go (fun _ kont => XS.iloadN X0.here hx rfl (hb hby own_d9_24) rfl kont) ?_
          show own_Go p.tables e below _ (s₁.setTop (mkF m 25 #[.val (.int p1)] [(.int p1)]))
          refine own_go (fun _ kont => XS.bipush X0.here hx rfl (hb hby own_d9_25) kont) ?_
          show own_Go p.tables e below _ (s₁.setTop (mkF m 27 #[.val (.int p1)] [(.int (37 : Int32)), (.int p1)]))
          by_cases b118 : p1 = (37 : Int32)
          · skip
            refine own_go (fun _ kont => XS.icmpNo X0.here hx rfl (hb hby own_d9_27) rfl (XT.ii_ne_f (b118)) kont) ?_
            show own_Go p.tables e below _ (s₁.setTop (mkF m 30 #[.val (.int p1)] []))
            refine own_go (fun _ kont => XS.iconst X0.here hx rfl (hb hby own_d9_30) kont) ?_
            show own_Go p.tables e below _ (s₁.setTop (mkF m 31 #[.val (.int p1)] [(.int (1 : Int32))]))
            refine own_go (fun _ kont => XS.goto X0.here hx rfl (pc0 := 31) (pc' := 35) rfl (hb hby own_d9_31) (by decide) (by decide) kont) ?_
            show own_Go p.tables e below _ (s₁.setTop (mkF m 35 #[.val (.int p1)] [(.int (1 : Int32))]))
            exact own_retI X0 hx hlk hret (by simp) rfl (hb hby own_d9_35) (⟨own_1 (by unfold own_S; simp [b114, b115, b116, b117, b118]), N0, e0⟩) (by decide) (by decide)
          · skip
            refine own_go (fun _ kont => XS.icmpYes X0.here hx rfl (pc0 := 27) (pc' := 34) rfl (hb hby own_d9_27) rfl (XT.ii_ne_t (b118)) (by decide) (by decide) kont) ?_
            show own_Go p.tables e below _ (s₁.setTop (mkF m 34 #[.val (.int p1)] []))
            refine own_go (fun _ kont => XS.iconst X0.here hx rfl (hb hby own_d9_34) kont) ?_
            show own_Go p.tables e below _ (s₁.setTop (mkF m 35 #[.val (.int p1)] [(.int (0 : Int32))]))
            exact own_retI X0 hx hlk hret (by simp) rfl (hb hby own_d9_35) (⟨own_0 (by unfold own_S; simp [b114, b115, b116, b117, b118]), N0, e0⟩) (by decide) (by decide)
theorem own_rm0_ef (m : MethodId) (p1 : Int32) (p2 : Int32)  : entryFrame m #[(.int p1), (.int p2)] maxLocals = mkF m 0 #[.val (.int p1), .val (.int p2), .unset, .unset, .unset, .unset, .unset, .unset, .unset, .unset, .unset] [] := by first | (simp [entryFrame, mkF, argsToLocals, Value.category, maxLocals]; done) | rfl
set_option maxRecDepth 65536 in
set_option maxHeartbeats 40000000 in
theorem own_rm0 (l : Launch) (Z : State) (a0 : Array Value) (hw : ∀ d ∈ tables_1, d.before a0 Z = true) (ws : List Jvm.Cond) (p1 : Int32) (p2 : Int32) (h0 : Heap) (n0 : Nat) (Z0 : n0 ≤ h0.size) (x0 z0 : Addr) (S0 : Sta Z h0 "com/example/predicant/predicant/ArithmeticOperator" "ADD" "Lcom/example/predicant/predicant/ArithmeticOperator;" (.ref x0)) (O0 : own_Op Z h0 x0 z0) (T0 : own_St Z h0 z0 43) (x1 z1 : Addr) (S1 : Sta Z h0 "com/example/predicant/predicant/ArithmeticOperator" "SUBTRACT" "Lcom/example/predicant/predicant/ArithmeticOperator;" (.ref x1)) (O1 : own_Op Z h0 x1 z1) (T1 : own_St Z h0 z1 45) (x2 z2 : Addr) (S2 : Sta Z h0 "com/example/predicant/predicant/ArithmeticOperator" "MULTIPLY" "Lcom/example/predicant/predicant/ArithmeticOperator;" (.ref x2)) (O2 : own_Op Z h0 x2 z2) (T2 : own_St Z h0 z2 42) (x3 z3 : Addr) (S3 : Sta Z h0 "com/example/predicant/predicant/ArithmeticOperator" "DIVIDE" "Lcom/example/predicant/predicant/ArithmeticOperator;" (.ref x3)) (O3 : own_Op Z h0 x3 z3) (T3 : own_St Z h0 z3 47) (x4 z4 : Addr) (S4 : Sta Z h0 "com/example/predicant/predicant/ArithmeticOperator" "REMAINDER" "Lcom/example/predicant/predicant/ArithmeticOperator;" (.ref x4)) (O4 : own_Op Z h0 x4 z4) (T4 : own_St Z h0 z4 37) (cs : Int32) (CS : Sta Z h0 "java/lang/String" "COMPACT_STRINGS" "Z" (.int cs)) (cz : ¬ cs = 0) (v5 : Value) (SF : Sta Z h0 "jdk/internal/util/Preconditions" "SIOOBE_FORMATTER" "Ljava/util/function/BiFunction;" v5) (hv : v5.isRef = true) :
    own_Met l x (Jvm.Cond.code x code maxLocals ret :: ws) room_1 Z h0 #[(.int p1), (.int p2)] (fun v h L => v = some (.int 1) ∧ Fr n0 L) := by
  refine own_body (pn := own_pn_0) ?_
  intro p e s m below meth c s₁ hx hby hml hown hnm hret hlk hZ X0 e0
  have N0 := Fr.nil n0
  refine own_go (fun _ kont => castTop (own_rm0_ef m p1 p2 ) kont) ?_
  show own_Go p.tables e below _ (s₁.setTop (mkF m 0 #[.val (.int p1), .val (.int p2), .unset, .unset, .unset, .unset, .unset, .unset, .unset, .unset, .unset] []))
  refine own_go (fun _ kont => XS.iloadN X0.here hx rfl (hb hby at_0) rfl kont) ?_
  show own_Go p.tables e below _ (s₁.setTop (mkF m 1 #[.val (.int p1), .val (.int p2), .unset, .unset, .unset, .unset, .unset, .unset, .unset, .unset, .unset] [(.int p2)]))
  refine own_go (fun _ kont => XS.iconst X0.here hx rfl (hb hby at_1) kont) ?_
  show own_Go p.tables e below _ (s₁.setTop (mkF m 2 #[.val (.int p1), .val (.int p2), .unset, .unset, .unset, .unset, .unset, .unset, .unset, .unset, .unset] [(.int (3 : Int32)), (.int p2)]))
  refine own_go (fun _ kont => XS.iand X0.here hx rfl (hb hby at_2) rfl kont) ?_
  show own_Go p.tables e below _ (s₁.setTop (mkF m 3 #[.val (.int p1), .val (.int p2), .unset, .unset, .unset, .unset, .unset, .unset, .unset, .unset, .unset] [(.int (p2 &&& (3 : Int32)))]))
  refine own_go (fun _ kont => XS.istoreN X0.here hx rfl (hb hby at_3) rfl (l' := #[.val (.int p1), .val (.int p2), .val (.int (p2 &&& (3 : Int32))), .unset, .unset, .unset, .unset, .unset, .unset, .unset, .unset]) rfl kont) ?_
  show own_Go p.tables e below _ (s₁.setTop (mkF m 4 #[.val (.int p1), .val (.int p2), .val (.int (p2 &&& (3 : Int32))), .unset, .unset, .unset, .unset, .unset, .unset, .unset, .unset] []))
  have c52 : ∀ (c0 : Int32) (T219 : State) (Lc219 : List Loc), Stand p l e room_1 s m #[(.int p1), (.int p2)] below meth c T219 Lc219 (0) (0) → Fr n0 Lc219 → T219.heap = h0 → own_Go p.tables e below (own_Fin s below (fun v h L => v = some (.int 1) ∧ Fr n0 L) room_1.cells room_1.slots) (T219.setTop (mkF m 52 #[.val (.int p1), .val (.int p2), .val (.int (p2 &&& (3 : Int32))), .val (.int c0), .unset, .unset, .unset, .unset, .unset, .unset, .unset] [])) := by
    intro c0 T219 Lc219  X219 N219 e219
    obtain ⟨T220, X220, e220, st220⟩ := getS X219 hx hZ hown (host := "") (hw _ (List.mem_of_getElem? (i := 0) rfl)) Via.refl e219 S0 (g := (mkF m 52 #[.val (.int p1), .val (.int p2), .val (.int (p2 &&& (3 : Int32))), .val (.int c0), .unset, .unset, .unset, .unset, .unset, .unset, .unset] [])) rfl (hb hby at_52)
    refine own_go st220 ?_
    show own_Go p.tables e below _ (T220.setTop (mkF m 55 #[.val (.int p1), .val (.int p2), .val (.int (p2 &&& (3 : Int32))), .val (.int c0), .unset, .unset, .unset, .unset, .unset, .unset, .unset] [(.ref x0)]))
    refine own_callV X220 hx hZ (z := (⟨"com/example/predicant/predicant/ArithmeticOperator", "symbol", "()Ljava/lang/String;"⟩ : MethodName)) (argsL := []) (rest := []) (W := 0) hown (hw _ (List.mem_of_getElem? (i := 3) rfl)) (hw _ (List.mem_of_getElem? (i := 4) rfl)) (hw _ (List.mem_of_getElem? (i := 6) rfl)) (hw _ (List.mem_of_getElem? (i := 5) rfl)) (hw _ (List.mem_of_getElem? (i := 7) rfl)) (hw _ (List.mem_of_getElem? (i := 1) rfl)) (by decide) (O0.1) (own_rm1 l Z a0 hw x0 h0 n0 Z0 z0 O0) e220 (by decide) (by decide) (by decide) (by decide) (by rw [hml]; rfl) (lenOf own_pd___Ljava_lang_String_ rfl) rfl (Nat.le_of_eq rfl) (hb hby at_55) ?_
    rintro _ T221 L221 X221 ⟨rfl, N221, e221⟩
    have NA221 := Fr.app N219 N221
    show own_Go p.tables e below _ (T221.setTop (mkF m 58 #[.val (.int p1), .val (.int p2), .val (.int (p2 &&& (3 : Int32))), .val (.int c0), .unset, .unset, .unset, .unset, .unset, .unset, .unset] [(.ref z0)]))
    refine own_go (fun _ kont => XS.astore X221.here hx rfl (hb hby at_58) rfl rfl (l' := #[.val (.int p1), .val (.int p2), .val (.int (p2 &&& (3 : Int32))), .val (.int c0), .val (.ref z0), .unset, .unset, .unset, .unset, .unset, .unset]) rfl kont) ?_
    show own_Go p.tables e below _ (T221.setTop (mkF m 60 #[.val (.int p1), .val (.int p2), .val (.int (p2 &&& (3 : Int32))), .val (.int c0), .val (.ref z0), .unset, .unset, .unset, .unset, .unset, .unset] []))
    obtain ⟨T222, X222, e222, st222⟩ := getS X221 hx hZ hown (host := "") (hw _ (List.mem_of_getElem? (i := 10) rfl)) Via.refl e221 S1 (g := (mkF m 60 #[.val (.int p1), .val (.int p2), .val (.int (p2 &&& (3 : Int32))), .val (.int c0), .val (.ref z0), .unset, .unset, .unset, .unset, .unset, .unset] [])) rfl (hb hby at_60)
    refine own_go st222 ?_
    show own_Go p.tables e below _ (T222.setTop (mkF m 63 #[.val (.int p1), .val (.int p2), .val (.int (p2 &&& (3 : Int32))), .val (.int c0), .val (.ref z0), .unset, .unset, .unset, .unset, .unset, .unset] [(.ref x1)]))
    refine own_callV X222 hx hZ (z := (⟨"com/example/predicant/predicant/ArithmeticOperator", "symbol", "()Ljava/lang/String;"⟩ : MethodName)) (argsL := []) (rest := []) (W := 0) hown (hw _ (List.mem_of_getElem? (i := 3) rfl)) (hw _ (List.mem_of_getElem? (i := 4) rfl)) (hw _ (List.mem_of_getElem? (i := 6) rfl)) (hw _ (List.mem_of_getElem? (i := 5) rfl)) (hw _ (List.mem_of_getElem? (i := 7) rfl)) (hw _ (List.mem_of_getElem? (i := 1) rfl)) (by decide) (O1.1) (own_rm1 l Z a0 hw x1 h0 n0 Z0 z1 O1) e222 (by decide) (by decide) (by decide) (by decide) (by rw [hml]; rfl) (lenOf own_pd___Ljava_lang_String_ rfl) rfl (Nat.le_of_eq rfl) (hb hby at_63) ?_
    rintro _ T223 L223 X223 ⟨rfl, N223, e223⟩
    have NA223 := Fr.app NA221 N223
    show own_Go p.tables e below _ (T223.setTop (mkF m 66 #[.val (.int p1), .val (.int p2), .val (.int (p2 &&& (3 : Int32))), .val (.int c0), .val (.ref z0), .unset, .unset, .unset, .unset, .unset, .unset] [(.ref z1)]))
    refine own_go (fun _ kont => XS.astore X223.here hx rfl (hb hby at_66) rfl rfl (l' := #[.val (.int p1), .val (.int p2), .val (.int (p2 &&& (3 : Int32))), .val (.int c0), .val (.ref z0), .val (.ref z1), .unset, .unset, .unset, .unset, .unset]) rfl kont) ?_
    show own_Go p.tables e below _ (T223.setTop (mkF m 68 #[.val (.int p1), .val (.int p2), .val (.int (p2 &&& (3 : Int32))), .val (.int c0), .val (.ref z0), .val (.ref z1), .unset, .unset, .unset, .unset, .unset] []))
    obtain ⟨T224, X224, e224, st224⟩ := getS X223 hx hZ hown (host := "") (hw _ (List.mem_of_getElem? (i := 12) rfl)) Via.refl e223 S2 (g := (mkF m 68 #[.val (.int p1), .val (.int p2), .val (.int (p2 &&& (3 : Int32))), .val (.int c0), .val (.ref z0), .val (.ref z1), .unset, .unset, .unset, .unset, .unset] [])) rfl (hb hby at_68)
    refine own_go st224 ?_
    show own_Go p.tables e below _ (T224.setTop (mkF m 71 #[.val (.int p1), .val (.int p2), .val (.int (p2 &&& (3 : Int32))), .val (.int c0), .val (.ref z0), .val (.ref z1), .unset, .unset, .unset, .unset, .unset] [(.ref x2)]))
    refine own_callV X224 hx hZ (z := (⟨"com/example/predicant/predicant/ArithmeticOperator", "symbol", "()Ljava/lang/String;"⟩ : MethodName)) (argsL := []) (rest := []) (W := 0) hown (hw _ (List.mem_of_getElem? (i := 3) rfl)) (hw _ (List.mem_of_getElem? (i := 4) rfl)) (hw _ (List.mem_of_getElem? (i := 6) rfl)) (hw _ (List.mem_of_getElem? (i := 5) rfl)) (hw _ (List.mem_of_getElem? (i := 7) rfl)) (hw _ (List.mem_of_getElem? (i := 1) rfl)) (by decide) (O2.1) (own_rm1 l Z a0 hw x2 h0 n0 Z0 z2 O2) e224 (by decide) (by decide) (by decide) (by decide) (by rw [hml]; rfl) (lenOf own_pd___Ljava_lang_String_ rfl) rfl (Nat.le_of_eq rfl) (hb hby at_71) ?_
    rintro _ T225 L225 X225 ⟨rfl, N225, e225⟩
    have NA225 := Fr.app NA223 N225
    show own_Go p.tables e below _ (T225.setTop (mkF m 74 #[.val (.int p1), .val (.int p2), .val (.int (p2 &&& (3 : Int32))), .val (.int c0), .val (.ref z0), .val (.ref z1), .unset, .unset, .unset, .unset, .unset] [(.ref z2)]))
    refine own_go (fun _ kont => XS.astore X225.here hx rfl (hb hby at_74) rfl rfl (l' := #[.val (.int p1), .val (.int p2), .val (.int (p2 &&& (3 : Int32))), .val (.int c0), .val (.ref z0), .val (.ref z1), .val (.ref z2), .unset, .unset, .unset, .unset]) rfl kont) ?_
    show own_Go p.tables e below _ (T225.setTop (mkF m 76 #[.val (.int p1), .val (.int p2), .val (.int (p2 &&& (3 : Int32))), .val (.int c0), .val (.ref z0), .val (.ref z1), .val (.ref z2), .unset, .unset, .unset, .unset] []))
    obtain ⟨T226, X226, e226, st226⟩ := getS X225 hx hZ hown (host := "") (hw _ (List.mem_of_getElem? (i := 14) rfl)) Via.refl e225 S3 (g := (mkF m 76 #[.val (.int p1), .val (.int p2), .val (.int (p2 &&& (3 : Int32))), .val (.int c0), .val (.ref z0), .val (.ref z1), .val (.ref z2), .unset, .unset, .unset, .unset] [])) rfl (hb hby at_76)
    refine own_go st226 ?_
    show own_Go p.tables e below _ (T226.setTop (mkF m 79 #[.val (.int p1), .val (.int p2), .val (.int (p2 &&& (3 : Int32))), .val (.int c0), .val (.ref z0), .val (.ref z1), .val (.ref z2), .unset, .unset, .unset, .unset] [(.ref x3)]))
    refine own_callV X226 hx hZ (z := (⟨"com/example/predicant/predicant/ArithmeticOperator", "symbol", "()Ljava/lang/String;"⟩ : MethodName)) (argsL := []) (rest := []) (W := 0) hown (hw _ (List.mem_of_getElem? (i := 3) rfl)) (hw _ (List.mem_of_getElem? (i := 4) rfl)) (hw _ (List.mem_of_getElem? (i := 6) rfl)) (hw _ (List.mem_of_getElem? (i := 5) rfl)) (hw _ (List.mem_of_getElem? (i := 7) rfl)) (hw _ (List.mem_of_getElem? (i := 1) rfl)) (by decide) (O3.1) (own_rm1 l Z a0 hw x3 h0 n0 Z0 z3 O3) e226 (by decide) (by decide) (by decide) (by decide) (by rw [hml]; rfl) (lenOf own_pd___Ljava_lang_String_ rfl) rfl (Nat.le_of_eq rfl) (hb hby at_79) ?_
    rintro _ T227 L227 X227 ⟨rfl, N227, e227⟩
    have NA227 := Fr.app NA225 N227
    show own_Go p.tables e below _ (T227.setTop (mkF m 82 #[.val (.int p1), .val (.int p2), .val (.int (p2 &&& (3 : Int32))), .val (.int c0), .val (.ref z0), .val (.ref z1), .val (.ref z2), .unset, .unset, .unset, .unset] [(.ref z3)]))
    refine own_go (fun _ kont => XS.astore X227.here hx rfl (hb hby at_82) rfl rfl (l' := #[.val (.int p1), .val (.int p2), .val (.int (p2 &&& (3 : Int32))), .val (.int c0), .val (.ref z0), .val (.ref z1), .val (.ref z2), .val (.ref z3), .unset, .unset, .unset]) rfl kont) ?_
    show own_Go p.tables e below _ (T227.setTop (mkF m 84 #[.val (.int p1), .val (.int p2), .val (.int (p2 &&& (3 : Int32))), .val (.int c0), .val (.ref z0), .val (.ref z1), .val (.ref z2), .val (.ref z3), .unset, .unset, .unset] []))
    obtain ⟨T228, X228, e228, st228⟩ := getS X227 hx hZ hown (host := "") (hw _ (List.mem_of_getElem? (i := 16) rfl)) Via.refl e227 S4 (g := (mkF m 84 #[.val (.int p1), .val (.int p2), .val (.int (p2 &&& (3 : Int32))), .val (.int c0), .val (.ref z0), .val (.ref z1), .val (.ref z2), .val (.ref z3), .unset, .unset, .unset] [])) rfl (hb hby at_84)
    refine own_go st228 ?_
    show own_Go p.tables e below _ (T228.setTop (mkF m 87 #[.val (.int p1), .val (.int p2), .val (.int (p2 &&& (3 : Int32))), .val (.int c0), .val (.ref z0), .val (.ref z1), .val (.ref z2), .val (.ref z3), .unset, .unset, .unset] [(.ref x4)]))
    refine own_callV X228 hx hZ (z := (⟨"com/example/predicant/predicant/ArithmeticOperator", "symbol", "()Ljava/lang/String;"⟩ : MethodName)) (argsL := []) (rest := []) (W := 0) hown (hw _ (List.mem_of_getElem? (i := 3) rfl)) (hw _ (List.mem_of_getElem? (i := 4) rfl)) (hw _ (List.mem_of_getElem? (i := 6) rfl)) (hw _ (List.mem_of_getElem? (i := 5) rfl)) (hw _ (List.mem_of_getElem? (i := 7) rfl)) (hw _ (List.mem_of_getElem? (i := 1) rfl)) (by decide) (O4.1) (own_rm1 l Z a0 hw x4 h0 n0 Z0 z4 O4) e228 (by decide) (by decide) (by decide) (by decide) (by rw [hml]; rfl) (lenOf own_pd___Ljava_lang_String_ rfl) rfl (Nat.le_of_eq rfl) (hb hby at_87) ?_
    rintro _ T229 L229 X229 ⟨rfl, N229, e229⟩
    have NA229 := Fr.app NA227 N229
    show own_Go p.tables e below _ (T229.setTop (mkF m 90 #[.val (.int p1), .val (.int p2), .val (.int (p2 &&& (3 : Int32))), .val (.int c0), .val (.ref z0), .val (.ref z1), .val (.ref z2), .val (.ref z3), .unset, .unset, .unset] [(.ref z4)]))
    refine own_go (fun _ kont => XS.astore X229.here hx rfl (hb hby at_90) rfl rfl (l' := #[.val (.int p1), .val (.int p2), .val (.int (p2 &&& (3 : Int32))), .val (.int c0), .val (.ref z0), .val (.ref z1), .val (.ref z2), .val (.ref z3), .val (.ref z4), .unset, .unset]) rfl kont) ?_
    show own_Go p.tables e below _ (T229.setTop (mkF m 92 #[.val (.int p1), .val (.int p2), .val (.int (p2 &&& (3 : Int32))), .val (.int c0), .val (.ref z0), .val (.ref z1), .val (.ref z2), .val (.ref z3), .val (.ref z4), .unset, .unset] []))
    refine own_go (fun _ kont => XS.aload X229.here hx rfl (hb hby at_92) rfl rfl kont) ?_
    show own_Go p.tables e below _ (T229.setTop (mkF m 94 #[.val (.int p1), .val (.int p2), .val (.int (p2 &&& (3 : Int32))), .val (.int c0), .val (.ref z0), .val (.ref z1), .val (.ref z2), .val (.ref z3), .val (.ref z4), .unset, .unset] [(.ref z0)]))
    refine own_callV X229 hx hZ (z := (⟨"java/lang/String", "length", "()I"⟩ : MethodName)) (argsL := []) (rest := []) (W := 0) hown (hw _ (List.mem_of_getElem? (i := 18) rfl)) (hw _ (List.mem_of_getElem? (i := 19) rfl)) (hw _ (List.mem_of_getElem? (i := 21) rfl)) (hw _ (List.mem_of_getElem? (i := 20) rfl)) (hw _ (List.mem_of_getElem? (i := 23) rfl)) (hw _ (List.mem_of_getElem? (i := 22) rfl)) (by decide) (T0.1) (own_rm2 l Z a0 hw z0 h0 n0 Z0 43 T0 cs CS cz) e229 (by decide) (by decide) (by decide) (by decide) (by rw [hml]; rfl) (lenOf own_pd___I rfl) rfl (Nat.le_of_eq rfl) (hb hby at_94) ?_
    rintro _ T230 L230 X230 ⟨rfl, N230, e230⟩
    have NA230 := Fr.app NA229 N230
    show own_Go p.tables e below _ (T230.setTop (mkF m 97 #[.val (.int p1), .val (.int p2), .val (.int (p2 &&& (3 : Int32))), .val (.int c0), .val (.ref z0), .val (.ref z1), .val (.ref z2), .val (.ref z3), .val (.ref z4), .unset, .unset] [(.int (1 : Int32))]))
    refine own_go (fun _ kont => XS.iconst X230.here hx rfl (hb hby at_97) kont) ?_
    show own_Go p.tables e below _ (T230.setTop (mkF m 98 #[.val (.int p1), .val (.int p2), .val (.int (p2 &&& (3 : Int32))), .val (.int c0), .val (.ref z0), .val (.ref z1), .val (.ref z2), .val (.ref z3), .val (.ref z4), .unset, .unset] [(.int (1 : Int32)), (.int (1 : Int32))]))
    refine own_go (fun _ kont => XS.icmpNo X230.here hx rfl (hb hby at_98) rfl (XT.ii_ne_f (rfl)) kont) ?_
    show own_Go p.tables e below _ (T230.setTop (mkF m 101 #[.val (.int p1), .val (.int p2), .val (.int (p2 &&& (3 : Int32))), .val (.int c0), .val (.ref z0), .val (.ref z1), .val (.ref z2), .val (.ref z3), .val (.ref z4), .unset, .unset] []))
    refine own_go (fun _ kont => XS.aload X230.here hx rfl (hb hby at_101) rfl rfl kont) ?_
    show own_Go p.tables e below _ (T230.setTop (mkF m 103 #[.val (.int p1), .val (.int p2), .val (.int (p2 &&& (3 : Int32))), .val (.int c0), .val (.ref z0), .val (.ref z1), .val (.ref z2), .val (.ref z3), .val (.ref z4), .unset, .unset] [(.ref z1)]))
    refine own_callV X230 hx hZ (z := (⟨"java/lang/String", "length", "()I"⟩ : MethodName)) (argsL := []) (rest := []) (W := 0) hown (hw _ (List.mem_of_getElem? (i := 18) rfl)) (hw _ (List.mem_of_getElem? (i := 19) rfl)) (hw _ (List.mem_of_getElem? (i := 21) rfl)) (hw _ (List.mem_of_getElem? (i := 20) rfl)) (hw _ (List.mem_of_getElem? (i := 23) rfl)) (hw _ (List.mem_of_getElem? (i := 22) rfl)) (by decide) (T1.1) (own_rm2 l Z a0 hw z1 h0 n0 Z0 45 T1 cs CS cz) e230 (by decide) (by decide) (by decide) (by decide) (by rw [hml]; rfl) (lenOf own_pd___I rfl) rfl (Nat.le_of_eq rfl) (hb hby at_103) ?_
    rintro _ T231 L231 X231 ⟨rfl, N231, e231⟩
    have NA231 := Fr.app NA230 N231
    show own_Go p.tables e below _ (T231.setTop (mkF m 106 #[.val (.int p1), .val (.int p2), .val (.int (p2 &&& (3 : Int32))), .val (.int c0), .val (.ref z0), .val (.ref z1), .val (.ref z2), .val (.ref z3), .val (.ref z4), .unset, .unset] [(.int (1 : Int32))]))
    refine own_go (fun _ kont => XS.iconst X231.here hx rfl (hb hby at_106) kont) ?_
    show own_Go p.tables e below _ (T231.setTop (mkF m 107 #[.val (.int p1), .val (.int p2), .val (.int (p2 &&& (3 : Int32))), .val (.int c0), .val (.ref z0), .val (.ref z1), .val (.ref z2), .val (.ref z3), .val (.ref z4), .unset, .unset] [(.int (1 : Int32)), (.int (1 : Int32))]))
    refine own_go (fun _ kont => XS.icmpNo X231.here hx rfl (hb hby at_107) rfl (XT.ii_ne_f (rfl)) kont) ?_
    show own_Go p.tables e below _ (T231.setTop (mkF m 110 #[.val (.int p1), .val (.int p2), .val (.int (p2 &&& (3 : Int32))), .val (.int c0), .val (.ref z0), .val (.ref z1), .val (.ref z2), .val (.ref z3), .val (.ref z4), .unset, .unset] []))
    refine own_go (fun _ kont => XS.aload X231.here hx rfl (hb hby at_110) rfl rfl kont) ?_
    show own_Go p.tables e below _ (T231.setTop (mkF m 112 #[.val (.int p1), .val (.int p2), .val (.int (p2 &&& (3 : Int32))), .val (.int c0), .val (.ref z0), .val (.ref z1), .val (.ref z2), .val (.ref z3), .val (.ref z4), .unset, .unset] [(.ref z2)]))
    refine own_callV X231 hx hZ (z := (⟨"java/lang/String", "length", "()I"⟩ : MethodName)) (argsL := []) (rest := []) (W := 0) hown (hw _ (List.mem_of_getElem? (i := 18) rfl)) (hw _ (List.mem_of_getElem? (i := 19) rfl)) (hw _ (List.mem_of_getElem? (i := 21) rfl)) (hw _ (List.mem_of_getElem? (i := 20) rfl)) (hw _ (List.mem_of_getElem? (i := 23) rfl)) (hw _ (List.mem_of_getElem? (i := 22) rfl)) (by decide) (T2.1) (own_rm2 l Z a0 hw z2 h0 n0 Z0 42 T2 cs CS cz) e231 (by decide) (by decide) (by decide) (by decide) (by rw [hml]; rfl) (lenOf own_pd___I rfl) rfl (Nat.le_of_eq rfl) (hb hby at_112) ?_
    rintro _ T232 L232 X232 ⟨rfl, N232, e232⟩
    have NA232 := Fr.app NA231 N232
    show own_Go p.tables e below _ (T232.setTop (mkF m 115 #[.val (.int p1), .val (.int p2), .val (.int (p2 &&& (3 : Int32))), .val (.int c0), .val (.ref z0), .val (.ref z1), .val (.ref z2), .val (.ref z3), .val (.ref z4), .unset, .unset] [(.int (1 : Int32))]))
    refine own_go (fun _ kont => XS.iconst X232.here hx rfl (hb hby at_115) kont) ?_
    show own_Go p.tables e below _ (T232.setTop (mkF m 116 #[.val (.int p1), .val (.int p2), .val (.int (p2 &&& (3 : Int32))), .val (.int c0), .val (.ref z0), .val (.ref z1), .val (.ref z2), .val (.ref z3), .val (.ref z4), .unset, .unset] [(.int (1 : Int32)), (.int (1 : Int32))]))
    refine own_go (fun _ kont => XS.icmpNo X232.here hx rfl (hb hby at_116) rfl (XT.ii_ne_f (rfl)) kont) ?_
    show own_Go p.tables e below _ (T232.setTop (mkF m 119 #[.val (.int p1), .val (.int p2), .val (.int (p2 &&& (3 : Int32))), .val (.int c0), .val (.ref z0), .val (.ref z1), .val (.ref z2), .val (.ref z3), .val (.ref z4), .unset, .unset] []))
    refine own_go (fun _ kont => XS.aload X232.here hx rfl (hb hby at_119) rfl rfl kont) ?_
    show own_Go p.tables e below _ (T232.setTop (mkF m 121 #[.val (.int p1), .val (.int p2), .val (.int (p2 &&& (3 : Int32))), .val (.int c0), .val (.ref z0), .val (.ref z1), .val (.ref z2), .val (.ref z3), .val (.ref z4), .unset, .unset] [(.ref z3)]))
    refine own_callV X232 hx hZ (z := (⟨"java/lang/String", "length", "()I"⟩ : MethodName)) (argsL := []) (rest := []) (W := 0) hown (hw _ (List.mem_of_getElem? (i := 18) rfl)) (hw _ (List.mem_of_getElem? (i := 19) rfl)) (hw _ (List.mem_of_getElem? (i := 21) rfl)) (hw _ (List.mem_of_getElem? (i := 20) rfl)) (hw _ (List.mem_of_getElem? (i := 23) rfl)) (hw _ (List.mem_of_getElem? (i := 22) rfl)) (by decide) (T3.1) (own_rm2 l Z a0 hw z3 h0 n0 Z0 47 T3 cs CS cz) e232 (by decide) (by decide) (by decide) (by decide) (by rw [hml]; rfl) (lenOf own_pd___I rfl) rfl (Nat.le_of_eq rfl) (hb hby at_121) ?_
    rintro _ T233 L233 X233 ⟨rfl, N233, e233⟩
    have NA233 := Fr.app NA232 N233
    show own_Go p.tables e below _ (T233.setTop (mkF m 124 #[.val (.int p1), .val (.int p2), .val (.int (p2 &&& (3 : Int32))), .val (.int c0), .val (.ref z0), .val (.ref z1), .val (.ref z2), .val (.ref z3), .val (.ref z4), .unset, .unset] [(.int (1 : Int32))]))
    refine own_go (fun _ kont => XS.iconst X233.here hx rfl (hb hby at_124) kont) ?_
    show own_Go p.tables e below _ (T233.setTop (mkF m 125 #[.val (.int p1), .val (.int p2), .val (.int (p2 &&& (3 : Int32))), .val (.int c0), .val (.ref z0), .val (.ref z1), .val (.ref z2), .val (.ref z3), .val (.ref z4), .unset, .unset] [(.int (1 : Int32)), (.int (1 : Int32))]))
    refine own_go (fun _ kont => XS.icmpNo X233.here hx rfl (hb hby at_125) rfl (XT.ii_ne_f (rfl)) kont) ?_
    show own_Go p.tables e below _ (T233.setTop (mkF m 128 #[.val (.int p1), .val (.int p2), .val (.int (p2 &&& (3 : Int32))), .val (.int c0), .val (.ref z0), .val (.ref z1), .val (.ref z2), .val (.ref z3), .val (.ref z4), .unset, .unset] []))
    refine own_go (fun _ kont => XS.aload X233.here hx rfl (hb hby at_128) rfl rfl kont) ?_
    show own_Go p.tables e below _ (T233.setTop (mkF m 130 #[.val (.int p1), .val (.int p2), .val (.int (p2 &&& (3 : Int32))), .val (.int c0), .val (.ref z0), .val (.ref z1), .val (.ref z2), .val (.ref z3), .val (.ref z4), .unset, .unset] [(.ref z4)]))
    refine own_callV X233 hx hZ (z := (⟨"java/lang/String", "length", "()I"⟩ : MethodName)) (argsL := []) (rest := []) (W := 0) hown (hw _ (List.mem_of_getElem? (i := 18) rfl)) (hw _ (List.mem_of_getElem? (i := 19) rfl)) (hw _ (List.mem_of_getElem? (i := 21) rfl)) (hw _ (List.mem_of_getElem? (i := 20) rfl)) (hw _ (List.mem_of_getElem? (i := 23) rfl)) (hw _ (List.mem_of_getElem? (i := 22) rfl)) (by decide) (T4.1) (own_rm2 l Z a0 hw z4 h0 n0 Z0 37 T4 cs CS cz) e233 (by decide) (by decide) (by decide) (by decide) (by rw [hml]; rfl) (lenOf own_pd___I rfl) rfl (Nat.le_of_eq rfl) (hb hby at_130) ?_
    rintro _ T234 L234 X234 ⟨rfl, N234, e234⟩
    have NA234 := Fr.app NA233 N234
    show own_Go p.tables e below _ (T234.setTop (mkF m 133 #[.val (.int p1), .val (.int p2), .val (.int (p2 &&& (3 : Int32))), .val (.int c0), .val (.ref z0), .val (.ref z1), .val (.ref z2), .val (.ref z3), .val (.ref z4), .unset, .unset] [(.int (1 : Int32))]))
    refine own_go (fun _ kont => XS.iconst X234.here hx rfl (hb hby at_133) kont) ?_
    show own_Go p.tables e below _ (T234.setTop (mkF m 134 #[.val (.int p1), .val (.int p2), .val (.int (p2 &&& (3 : Int32))), .val (.int c0), .val (.ref z0), .val (.ref z1), .val (.ref z2), .val (.ref z3), .val (.ref z4), .unset, .unset] [(.int (1 : Int32)), (.int (1 : Int32))]))
    refine own_go (fun _ kont => XS.icmpNo X234.here hx rfl (hb hby at_134) rfl (XT.ii_ne_f (rfl)) kont) ?_
    show own_Go p.tables e below _ (T234.setTop (mkF m 137 #[.val (.int p1), .val (.int p2), .val (.int (p2 &&& (3 : Int32))), .val (.int c0), .val (.ref z0), .val (.ref z1), .val (.ref z2), .val (.ref z3), .val (.ref z4), .unset, .unset] []))
    refine own_go (fun _ kont => XS.iconst X234.here hx rfl (hb hby at_137) kont) ?_
    show own_Go p.tables e below _ (T234.setTop (mkF m 138 #[.val (.int p1), .val (.int p2), .val (.int (p2 &&& (3 : Int32))), .val (.int c0), .val (.ref z0), .val (.ref z1), .val (.ref z2), .val (.ref z3), .val (.ref z4), .unset, .unset] [(.int (1 : Int32))]))
    refine own_go (fun _ kont => XS.goto X234.here hx rfl (pc0 := 138) (pc' := 142) rfl (hb hby at_138) (by decide) (by decide) kont) ?_
    show own_Go p.tables e below _ (T234.setTop (mkF m 142 #[.val (.int p1), .val (.int p2), .val (.int (p2 &&& (3 : Int32))), .val (.int c0), .val (.ref z0), .val (.ref z1), .val (.ref z2), .val (.ref z3), .val (.ref z4), .unset, .unset] [(.int (1 : Int32))]))
    refine own_go (fun _ kont => XS.istore X234.here hx rfl (hb hby at_142) rfl (l' := #[.val (.int p1), .val (.int p2), .val (.int (p2 &&& (3 : Int32))), .val (.int c0), .val (.ref z0), .val (.ref z1), .val (.ref z2), .val (.ref z3), .val (.ref z4), .val (.int (1 : Int32)), .unset]) rfl kont) ?_
    show own_Go p.tables e below _ (T234.setTop (mkF m 144 #[.val (.int p1), .val (.int p2), .val (.int (p2 &&& (3 : Int32))), .val (.int c0), .val (.ref z0), .val (.ref z1), .val (.ref z2), .val (.ref z3), .val (.ref z4), .val (.int (1 : Int32)), .unset] []))
    refine own_go (fun _ kont => XS.iload X234.here hx rfl (hb hby at_144) rfl kont) ?_
    show own_Go p.tables e below _ (T234.setTop (mkF m 146 #[.val (.int p1), .val (.int p2), .val (.int (p2 &&& (3 : Int32))), .val (.int c0), .val (.ref z0), .val (.ref z1), .val (.ref z2), .val (.ref z3), .val (.ref z4), .val (.int (1 : Int32)), .unset] [(.int (1 : Int32))]))
    refine own_go (fun _ kont => XS.ifYes X234.here hx rfl (pc0 := 146) (pc' := 151) rfl (hb hby at_146) rfl (XT.i0_ne_t (by decide)) (by decide) (by decide) kont) ?_
    show own_Go p.tables e below _ (T234.setTop (mkF m 151 #[.val (.int p1), .val (.int p2), .val (.int (p2 &&& (3 : Int32))), .val (.int c0), .val (.ref z0), .val (.ref z1), .val (.ref z2), .val (.ref z3), .val (.ref z4), .val (.int (1 : Int32)), .unset] []))
    have c208 : ∀ (z : Int32) (T235 : State) (Lc235 : List Loc), (hz : own_b (own_S c0) = z) → Stand p l e room_1 s m #[(.int p1), (.int p2)] below meth c T235 Lc235 (0) (0) → Fr n0 Lc235 → T235.heap = h0 → own_Go p.tables e below (own_Fin s below (fun v h L => v = some (.int 1) ∧ Fr n0 L) room_1.cells room_1.slots) (T235.setTop (mkF m 208 #[.val (.int p1), .val (.int p2), .val (.int (p2 &&& (3 : Int32))), .val (.int c0), .val (.ref z0), .val (.ref z1), .val (.ref z2), .val (.ref z3), .val (.ref z4), .val (.int (1 : Int32)), .val (.int z)] [])) := by
      intro z T235 Lc235 hz X235 N235 e235
      refine own_go (fun _ kont => XS.iloadN X235.here hx rfl (hb hby at_208) rfl kont) ?_
      show own_Go p.tables e below _ (T235.setTop (mkF m 209 #[.val (.int p1), .val (.int p2), .val (.int (p2 &&& (3 : Int32))), .val (.int c0), .val (.ref z0), .val (.ref z1), .val (.ref z2), .val (.ref z3), .val (.ref z4), .val (.int (1 : Int32)), .val (.int z)] [(.int c0)]))
      refine own_callS X235 hx hZ (y := (⟨"com/example/predicant/predicant/ArithmeticOperator", "isSymbol", "(I)Z"⟩ : MethodName)) (argsL := [(.int c0)]) (rest := []) (W := 0) hown (hw _ (List.mem_of_getElem? (i := 56) rfl)) (hw _ (List.mem_of_getElem? (i := 57) rfl)) (hw _ (List.mem_of_getElem? (i := 1) rfl)) (hw _ (List.mem_of_getElem? (i := 58) rfl)) (by decide) (own_rm9 l Z a0 hw c0 h0 n0 Z0) e235 (by decide) (by decide) (by decide) (by decide) (by rw [hml]; rfl) (lenOf own_pd__I_Z rfl) rfl (Nat.le_of_eq rfl) (hb hby at_209) ?_
      rintro _ T236 L236 X236 ⟨rfl, N236, e236⟩
      have NA236 := Fr.app N235 N236
      show own_Go p.tables e below _ (T236.setTop (mkF m 212 #[.val (.int p1), .val (.int p2), .val (.int (p2 &&& (3 : Int32))), .val (.int c0), .val (.ref z0), .val (.ref z1), .val (.ref z2), .val (.ref z3), .val (.ref z4), .val (.int (1 : Int32)), .val (.int z)] [(.int (own_b (own_S c0)))]))
      refine own_go (fun _ kont => XS.iload X236.here hx rfl (hb hby at_212) rfl kont) ?_
      show own_Go p.tables e below _ (T236.setTop (mkF m 214 #[.val (.int p1), .val (.int p2), .val (.int (p2 &&& (3 : Int32))), .val (.int c0), .val (.ref z0), .val (.ref z1), .val (.ref z2), .val (.ref z3), .val (.ref z4), .val (.int (1 : Int32)), .val (.int z)] [(.int z), (.int (own_b (own_S c0)))]))
      refine own_go (fun _ kont => XS.icmpNo X236.here hx rfl (hb hby at_214) rfl (XT.ii_ne_f (hz)) kont) ?_
      show own_Go p.tables e below _ (T236.setTop (mkF m 217 #[.val (.int p1), .val (.int p2), .val (.int (p2 &&& (3 : Int32))), .val (.int c0), .val (.ref z0), .val (.ref z1), .val (.ref z2), .val (.ref z3), .val (.ref z4), .val (.int (1 : Int32)), .val (.int z)] []))
      refine own_go (fun _ kont => XS.iconst X236.here hx rfl (hb hby at_217) kont) ?_
      show own_Go p.tables e below _ (T236.setTop (mkF m 218 #[.val (.int p1), .val (.int p2), .val (.int (p2 &&& (3 : Int32))), .val (.int c0), .val (.ref z0), .val (.ref z1), .val (.ref z2), .val (.ref z3), .val (.ref z4), .val (.int (1 : Int32)), .val (.int z)] [(.int (1 : Int32))]))
      refine own_go (fun _ kont => XS.goto X236.here hx rfl (pc0 := 218) (pc' := 222) rfl (hb hby at_218) (by decide) (by decide) kont) ?_
      show own_Go p.tables e below _ (T236.setTop (mkF m 222 #[.val (.int p1), .val (.int p2), .val (.int (p2 &&& (3 : Int32))), .val (.int c0), .val (.ref z0), .val (.ref z1), .val (.ref z2), .val (.ref z3), .val (.ref z4), .val (.int (1 : Int32)), .val (.int z)] [(.int (1 : Int32))]))
      exact own_retI X236 hx hlk hret (by simp) rfl (hb hby at_222) (⟨rfl, NA236⟩) (by decide) (by decide)
    have l0 : own_c 43 = 43 := by decide
    have l1 : own_c 45 = 45 := by decide
    have l2 : own_c 42 = 42 := by decide
    have l3 : own_c 47 = 47 := by decide
    have l4 : own_c 37 = 37 := by decide
    refine own_go (fun _ kont => XS.iloadN X234.here hx rfl (hb hby at_151) rfl kont) ?_
    show own_Go p.tables e below _ (T234.setTop (mkF m 152 #[.val (.int p1), .val (.int p2), .val (.int (p2 &&& (3 : Int32))), .val (.int c0), .val (.ref z0), .val (.ref z1), .val (.ref z2), .val (.ref z3), .val (.ref z4), .val (.int (1 : Int32)), .unset] [(.int c0)]))
    refine own_go (fun _ kont => XS.aload X234.here hx rfl (hb hby at_152) rfl rfl kont) ?_
    show own_Go p.tables e below _ (T234.setTop (mkF m 154 #[.val (.int p1), .val (.int p2), .val (.int (p2 &&& (3 : Int32))), .val (.int c0), .val (.ref z0), .val (.ref z1), .val (.ref z2), .val (.ref z3), .val (.ref z4), .val (.int (1 : Int32)), .unset] [(.ref z0), (.int c0)]))
    refine own_go (fun _ kont => XS.iconst X234.here hx rfl (hb hby at_154) kont) ?_
    show own_Go p.tables e below _ (T234.setTop (mkF m 155 #[.val (.int p1), .val (.int p2), .val (.int (p2 &&& (3 : Int32))), .val (.int c0), .val (.ref z0), .val (.ref z1), .val (.ref z2), .val (.ref z3), .val (.ref z4), .val (.int (1 : Int32)), .unset] [(.int (0 : Int32)), (.ref z0), (.int c0)]))
    refine own_callV X234 hx hZ (z := (⟨"java/lang/String", "charAt", "(I)C"⟩ : MethodName)) (argsL := [(.int (0 : Int32))]) (rest := [(.int c0)]) (W := 1) hown (hw _ (List.mem_of_getElem? (i := 34) rfl)) (hw _ (List.mem_of_getElem? (i := 35) rfl)) (hw _ (List.mem_of_getElem? (i := 37) rfl)) (hw _ (List.mem_of_getElem? (i := 36) rfl)) (hw _ (List.mem_of_getElem? (i := 38) rfl)) (hw _ (List.mem_of_getElem? (i := 22) rfl)) (by decide) (T0.1) (own_rm4 l Z a0 hw z0 h0 n0 Z0 43 T0 cs CS cz v5 SF hv) e234 (by decide) (by decide) (by decide) (by decide) (by rw [hml]; rfl) (lenOf own_pd__I_C rfl) rfl (Nat.le_of_eq rfl) (hb hby at_155) ?_
    rintro _ T237 L237 X237 ⟨rfl, N237, e237⟩
    have NA237 := Fr.app NA234 N237
    show own_Go p.tables e below _ (T237.setTop (mkF m 158 #[.val (.int p1), .val (.int p2), .val (.int (p2 &&& (3 : Int32))), .val (.int c0), .val (.ref z0), .val (.ref z1), .val (.ref z2), .val (.ref z3), .val (.ref z4), .val (.int (1 : Int32)), .unset] [(.int (own_c 43)), (.int c0)]))
    by_cases d0 : c0 = (own_c 43)
    · skip
      refine own_go (fun _ kont => XS.icmpYes X237.here hx rfl (pc0 := 158) (pc' := 201) rfl (hb hby at_158) rfl (XT.ii_eq_t (d0)) (by decide) (by decide) kont) ?_
      show own_Go p.tables e below _ (T237.setTop (mkF m 201 #[.val (.int p1), .val (.int p2), .val (.int (p2 &&& (3 : Int32))), .val (.int c0), .val (.ref z0), .val (.ref z1), .val (.ref z2), .val (.ref z3), .val (.ref z4), .val (.int (1 : Int32)), .unset] []))
      refine own_go (fun _ kont => XS.iconst X237.here hx rfl (hb hby at_201) kont) ?_
      show own_Go p.tables e below _ (T237.setTop (mkF m 202 #[.val (.int p1), .val (.int p2), .val (.int (p2 &&& (3 : Int32))), .val (.int c0), .val (.ref z0), .val (.ref z1), .val (.ref z2), .val (.ref z3), .val (.ref z4), .val (.int (1 : Int32)), .unset] [(.int (1 : Int32))]))
      refine own_go (fun _ kont => XS.goto X237.here hx rfl (pc0 := 202) (pc' := 206) rfl (hb hby at_202) (by decide) (by decide) kont) ?_
      show own_Go p.tables e below _ (T237.setTop (mkF m 206 #[.val (.int p1), .val (.int p2), .val (.int (p2 &&& (3 : Int32))), .val (.int c0), .val (.ref z0), .val (.ref z1), .val (.ref z2), .val (.ref z3), .val (.ref z4), .val (.int (1 : Int32)), .unset] [(.int (1 : Int32))]))
      refine own_go (fun _ kont => XS.istore X237.here hx rfl (hb hby at_206) rfl (l' := #[.val (.int p1), .val (.int p2), .val (.int (p2 &&& (3 : Int32))), .val (.int c0), .val (.ref z0), .val (.ref z1), .val (.ref z2), .val (.ref z3), .val (.ref z4), .val (.int (1 : Int32)), .val (.int (1 : Int32))]) rfl kont) ?_
      show own_Go p.tables e below _ (T237.setTop (mkF m 208 #[.val (.int p1), .val (.int p2), .val (.int (p2 &&& (3 : Int32))), .val (.int c0), .val (.ref z0), .val (.ref z1), .val (.ref z2), .val (.ref z3), .val (.ref z4), .val (.int (1 : Int32)), .val (.int (1 : Int32))] []))
      exact c208 _ _ _ (own_b1 (by rw [l0] at d0; unfold own_S; simp [d0])) X237 NA237 e237
    · skip
      refine own_go (fun _ kont => XS.icmpNo X237.here hx rfl (hb hby at_158) rfl (XT.ii_eq_f (d0)) kont) ?_
      show own_Go p.tables e below _ (T237.setTop (mkF m 161 #[.val (.int p1), .val (.int p2), .val (.int (p2 &&& (3 : Int32))), .val (.int c0), .val (.ref z0), .val (.ref z1), .val (.ref z2), .val (.ref z3), .val (.ref z4), .val (.int (1 : Int32)), .unset] []))
      refine own_go (fun _ kont => XS.iloadN X237.here hx rfl (hb hby at_161) rfl kont) ?_
      show own_Go p.tables e below _ (T237.setTop (mkF m 162 #[.val (.int p1), .val (.int p2), .val (.int (p2 &&& (3 : Int32))), .val (.int c0), .val (.ref z0), .val (.ref z1), .val (.ref z2), .val (.ref z3), .val (.ref z4), .val (.int (1 : Int32)), .unset] [(.int c0)]))
      refine own_go (fun _ kont => XS.aload X237.here hx rfl (hb hby at_162) rfl rfl kont) ?_
      show own_Go p.tables e below _ (T237.setTop (mkF m 164 #[.val (.int p1), .val (.int p2), .val (.int (p2 &&& (3 : Int32))), .val (.int c0), .val (.ref z0), .val (.ref z1), .val (.ref z2), .val (.ref z3), .val (.ref z4), .val (.int (1 : Int32)), .unset] [(.ref z1), (.int c0)]))
      refine own_go (fun _ kont => XS.iconst X237.here hx rfl (hb hby at_164) kont) ?_
      show own_Go p.tables e below _ (T237.setTop (mkF m 165 #[.val (.int p1), .val (.int p2), .val (.int (p2 &&& (3 : Int32))), .val (.int c0), .val (.ref z0), .val (.ref z1), .val (.ref z2), .val (.ref z3), .val (.ref z4), .val (.int (1 : Int32)), .unset] [(.int (0 : Int32)), (.ref z1), (.int c0)]))
      refine own_callV X237 hx hZ (z := (⟨"java/lang/String", "charAt", "(I)C"⟩ : MethodName)) (argsL := [(.int (0 : Int32))]) (rest := [(.int c0)]) (W := 1) hown (hw _ (List.mem_of_getElem? (i := 34) rfl)) (hw _ (List.mem_of_getElem? (i := 35) rfl)) (hw _ (List.mem_of_getElem? (i := 37) rfl)) (hw _ (List.mem_of_getElem? (i := 36) rfl)) (hw _ (List.mem_of_getElem? (i := 38) rfl)) (hw _ (List.mem_of_getElem? (i := 22) rfl)) (by decide) (T1.1) (own_rm4 l Z a0 hw z1 h0 n0 Z0 45 T1 cs CS cz v5 SF hv) e237 (by decide) (by decide) (by decide) (by decide) (by rw [hml]; rfl) (lenOf own_pd__I_C rfl) rfl (Nat.le_of_eq rfl) (hb hby at_165) ?_
      rintro _ T238 L238 X238 ⟨rfl, N238, e238⟩
      have NA238 := Fr.app NA237 N238
      show own_Go p.tables e below _ (T238.setTop (mkF m 168 #[.val (.int p1), .val (.int p2), .val (.int (p2 &&& (3 : Int32))), .val (.int c0), .val (.ref z0), .val (.ref z1), .val (.ref z2), .val (.ref z3), .val (.ref z4), .val (.int (1 : Int32)), .unset] [(.int (own_c 45)), (.int c0)]))
      by_cases d1 : c0 = (own_c 45)
      · skip
        refine own_go (fun _ kont => XS.icmpYes X238.here hx rfl (pc0 := 168) (pc' := 201) rfl (hb hby at_168) rfl (XT.ii_eq_t (d1)) (by decide) (by decide) kont) ?_
        show own_Go p.tables e below _ (T238.setTop (mkF m 201 #[.val (.int p1), .val (.int p2), .val (.int (p2 &&& (3 : Int32))), .val (.int c0), .val (.ref z0), .val (.ref z1), .val (.ref z2), .val (.ref z3), .val (.ref z4), .val (.int (1 : Int32)), .unset] []))
        refine own_go (fun _ kont => XS.iconst X238.here hx rfl (hb hby at_201) kont) ?_
        show own_Go p.tables e below _ (T238.setTop (mkF m 202 #[.val (.int p1), .val (.int p2), .val (.int (p2 &&& (3 : Int32))), .val (.int c0), .val (.ref z0), .val (.ref z1), .val (.ref z2), .val (.ref z3), .val (.ref z4), .val (.int (1 : Int32)), .unset] [(.int (1 : Int32))]))
        refine own_go (fun _ kont => XS.goto X238.here hx rfl (pc0 := 202) (pc' := 206) rfl (hb hby at_202) (by decide) (by decide) kont) ?_
        show own_Go p.tables e below _ (T238.setTop (mkF m 206 #[.val (.int p1), .val (.int p2), .val (.int (p2 &&& (3 : Int32))), .val (.int c0), .val (.ref z0), .val (.ref z1), .val (.ref z2), .val (.ref z3), .val (.ref z4), .val (.int (1 : Int32)), .unset] [(.int (1 : Int32))]))
        refine own_go (fun _ kont => XS.istore X238.here hx rfl (hb hby at_206) rfl (l' := #[.val (.int p1), .val (.int p2), .val (.int (p2 &&& (3 : Int32))), .val (.int c0), .val (.ref z0), .val (.ref z1), .val (.ref z2), .val (.ref z3), .val (.ref z4), .val (.int (1 : Int32)), .val (.int (1 : Int32))]) rfl kont) ?_
        show own_Go p.tables e below _ (T238.setTop (mkF m 208 #[.val (.int p1), .val (.int p2), .val (.int (p2 &&& (3 : Int32))), .val (.int c0), .val (.ref z0), .val (.ref z1), .val (.ref z2), .val (.ref z3), .val (.ref z4), .val (.int (1 : Int32)), .val (.int (1 : Int32))] []))
        exact c208 _ _ _ (own_b1 (by rw [l1] at d1; unfold own_S; simp [d1])) X238 NA238 e238
      · skip
        refine own_go (fun _ kont => XS.icmpNo X238.here hx rfl (hb hby at_168) rfl (XT.ii_eq_f (d1)) kont) ?_
        show own_Go p.tables e below _ (T238.setTop (mkF m 171 #[.val (.int p1), .val (.int p2), .val (.int (p2 &&& (3 : Int32))), .val (.int c0), .val (.ref z0), .val (.ref z1), .val (.ref z2), .val (.ref z3), .val (.ref z4), .val (.int (1 : Int32)), .unset] []))
        refine own_go (fun _ kont => XS.iloadN X238.here hx rfl (hb hby at_171) rfl kont) ?_
        show own_Go p.tables e below _ (T238.setTop (mkF m 172 #[.val (.int p1), .val (.int p2), .val (.int (p2 &&& (3 : Int32))), .val (.int c0), .val (.ref z0), .val (.ref z1), .val (.ref z2), .val (.ref z3), .val (.ref z4), .val (.int (1 : Int32)), .unset] [(.int c0)]))
        refine own_go (fun _ kont => XS.aload X238.here hx rfl (hb hby at_172) rfl rfl kont) ?_
        show own_Go p.tables e below _ (T238.setTop (mkF m 174 #[.val (.int p1), .val (.int p2), .val (.int (p2 &&& (3 : Int32))), .val (.int c0), .val (.ref z0), .val (.ref z1), .val (.ref z2), .val (.ref z3), .val (.ref z4), .val (.int (1 : Int32)), .unset] [(.ref z2), (.int c0)]))
        refine own_go (fun _ kont => XS.iconst X238.here hx rfl (hb hby at_174) kont) ?_
        show own_Go p.tables e below _ (T238.setTop (mkF m 175 #[.val (.int p1), .val (.int p2), .val (.int (p2 &&& (3 : Int32))), .val (.int c0), .val (.ref z0), .val (.ref z1), .val (.ref z2), .val (.ref z3), .val (.ref z4), .val (.int (1 : Int32)), .unset] [(.int (0 : Int32)), (.ref z2), (.int c0)]))
        refine own_callV X238 hx hZ (z := (⟨"java/lang/String", "charAt", "(I)C"⟩ : MethodName)) (argsL := [(.int (0 : Int32))]) (rest := [(.int c0)]) (W := 1) hown (hw _ (List.mem_of_getElem? (i := 34) rfl)) (hw _ (List.mem_of_getElem? (i := 35) rfl)) (hw _ (List.mem_of_getElem? (i := 37) rfl)) (hw _ (List.mem_of_getElem? (i := 36) rfl)) (hw _ (List.mem_of_getElem? (i := 38) rfl)) (hw _ (List.mem_of_getElem? (i := 22) rfl)) (by decide) (T2.1) (own_rm4 l Z a0 hw z2 h0 n0 Z0 42 T2 cs CS cz v5 SF hv) e238 (by decide) (by decide) (by decide) (by decide) (by rw [hml]; rfl) (lenOf own_pd__I_C rfl) rfl (Nat.le_of_eq rfl) (hb hby at_175) ?_
        rintro _ T239 L239 X239 ⟨rfl, N239, e239⟩
        have NA239 := Fr.app NA238 N239
        show own_Go p.tables e below _ (T239.setTop (mkF m 178 #[.val (.int p1), .val (.int p2), .val (.int (p2 &&& (3 : Int32))), .val (.int c0), .val (.ref z0), .val (.ref z1), .val (.ref z2), .val (.ref z3), .val (.ref z4), .val (.int (1 : Int32)), .unset] [(.int (own_c 42)), (.int c0)]))
        by_cases d2 : c0 = (own_c 42)
        · skip
          refine own_go (fun _ kont => XS.icmpYes X239.here hx rfl (pc0 := 178) (pc' := 201) rfl (hb hby at_178) rfl (XT.ii_eq_t (d2)) (by decide) (by decide) kont) ?_
          show own_Go p.tables e below _ (T239.setTop (mkF m 201 #[.val (.int p1), .val (.int p2), .val (.int (p2 &&& (3 : Int32))), .val (.int c0), .val (.ref z0), .val (.ref z1), .val (.ref z2), .val (.ref z3), .val (.ref z4), .val (.int (1 : Int32)), .unset] []))
          refine own_go (fun _ kont => XS.iconst X239.here hx rfl (hb hby at_201) kont) ?_
          show own_Go p.tables e below _ (T239.setTop (mkF m 202 #[.val (.int p1), .val (.int p2), .val (.int (p2 &&& (3 : Int32))), .val (.int c0), .val (.ref z0), .val (.ref z1), .val (.ref z2), .val (.ref z3), .val (.ref z4), .val (.int (1 : Int32)), .unset] [(.int (1 : Int32))]))
          refine own_go (fun _ kont => XS.goto X239.here hx rfl (pc0 := 202) (pc' := 206) rfl (hb hby at_202) (by decide) (by decide) kont) ?_
          show own_Go p.tables e below _ (T239.setTop (mkF m 206 #[.val (.int p1), .val (.int p2), .val (.int (p2 &&& (3 : Int32))), .val (.int c0), .val (.ref z0), .val (.ref z1), .val (.ref z2), .val (.ref z3), .val (.ref z4), .val (.int (1 : Int32)), .unset] [(.int (1 : Int32))]))
          refine own_go (fun _ kont => XS.istore X239.here hx rfl (hb hby at_206) rfl (l' := #[.val (.int p1), .val (.int p2), .val (.int (p2 &&& (3 : Int32))), .val (.int c0), .val (.ref z0), .val (.ref z1), .val (.ref z2), .val (.ref z3), .val (.ref z4), .val (.int (1 : Int32)), .val (.int (1 : Int32))]) rfl kont) ?_
          show own_Go p.tables e below _ (T239.setTop (mkF m 208 #[.val (.int p1), .val (.int p2), .val (.int (p2 &&& (3 : Int32))), .val (.int c0), .val (.ref z0), .val (.ref z1), .val (.ref z2), .val (.ref z3), .val (.ref z4), .val (.int (1 : Int32)), .val (.int (1 : Int32))] []))
          exact c208 _ _ _ (own_b1 (by rw [l2] at d2; unfold own_S; simp [d2])) X239 NA239 e239
        · skip
          refine own_go (fun _ kont => XS.icmpNo X239.here hx rfl (hb hby at_178) rfl (XT.ii_eq_f (d2)) kont) ?_
          show own_Go p.tables e below _ (T239.setTop (mkF m 181 #[.val (.int p1), .val (.int p2), .val (.int (p2 &&& (3 : Int32))), .val (.int c0), .val (.ref z0), .val (.ref z1), .val (.ref z2), .val (.ref z3), .val (.ref z4), .val (.int (1 : Int32)), .unset] []))
          refine own_go (fun _ kont => XS.iloadN X239.here hx rfl (hb hby at_181) rfl kont) ?_
          show own_Go p.tables e below _ (T239.setTop (mkF m 182 #[.val (.int p1), .val (.int p2), .val (.int (p2 &&& (3 : Int32))), .val (.int c0), .val (.ref z0), .val (.ref z1), .val (.ref z2), .val (.ref z3), .val (.ref z4), .val (.int (1 : Int32)), .unset] [(.int c0)]))
          refine own_go (fun _ kont => XS.aload X239.here hx rfl (hb hby at_182) rfl rfl kont) ?_
          show own_Go p.tables e below _ (T239.setTop (mkF m 184 #[.val (.int p1), .val (.int p2), .val (.int (p2 &&& (3 : Int32))), .val (.int c0), .val (.ref z0), .val (.ref z1), .val (.ref z2), .val (.ref z3), .val (.ref z4), .val (.int (1 : Int32)), .unset] [(.ref z3), (.int c0)]))
          refine own_go (fun _ kont => XS.iconst X239.here hx rfl (hb hby at_184) kont) ?_
          show own_Go p.tables e below _ (T239.setTop (mkF m 185 #[.val (.int p1), .val (.int p2), .val (.int (p2 &&& (3 : Int32))), .val (.int c0), .val (.ref z0), .val (.ref z1), .val (.ref z2), .val (.ref z3), .val (.ref z4), .val (.int (1 : Int32)), .unset] [(.int (0 : Int32)), (.ref z3), (.int c0)]))
          refine own_callV X239 hx hZ (z := (⟨"java/lang/String", "charAt", "(I)C"⟩ : MethodName)) (argsL := [(.int (0 : Int32))]) (rest := [(.int c0)]) (W := 1) hown (hw _ (List.mem_of_getElem? (i := 34) rfl)) (hw _ (List.mem_of_getElem? (i := 35) rfl)) (hw _ (List.mem_of_getElem? (i := 37) rfl)) (hw _ (List.mem_of_getElem? (i := 36) rfl)) (hw _ (List.mem_of_getElem? (i := 38) rfl)) (hw _ (List.mem_of_getElem? (i := 22) rfl)) (by decide) (T3.1) (own_rm4 l Z a0 hw z3 h0 n0 Z0 47 T3 cs CS cz v5 SF hv) e239 (by decide) (by decide) (by decide) (by decide) (by rw [hml]; rfl) (lenOf own_pd__I_C rfl) rfl (Nat.le_of_eq rfl) (hb hby at_185) ?_
          rintro _ T240 L240 X240 ⟨rfl, N240, e240⟩
          have NA240 := Fr.app NA239 N240
          show own_Go p.tables e below _ (T240.setTop (mkF m 188 #[.val (.int p1), .val (.int p2), .val (.int (p2 &&& (3 : Int32))), .val (.int c0), .val (.ref z0), .val (.ref z1), .val (.ref z2), .val (.ref z3), .val (.ref z4), .val (.int (1 : Int32)), .unset] [(.int (own_c 47)), (.int c0)]))
          by_cases d3 : c0 = (own_c 47)
          · skip
            refine own_go (fun _ kont => XS.icmpYes X240.here hx rfl (pc0 := 188) (pc' := 201) rfl (hb hby at_188) rfl (XT.ii_eq_t (d3)) (by decide) (by decide) kont) ?_
            show own_Go p.tables e below _ (T240.setTop (mkF m 201 #[.val (.int p1), .val (.int p2), .val (.int (p2 &&& (3 : Int32))), .val (.int c0), .val (.ref z0), .val (.ref z1), .val (.ref z2), .val (.ref z3), .val (.ref z4), .val (.int (1 : Int32)), .unset] []))
            refine own_go (fun _ kont => XS.iconst X240.here hx rfl (hb hby at_201) kont) ?_
            show own_Go p.tables e below _ (T240.setTop (mkF m 202 #[.val (.int p1), .val (.int p2), .val (.int (p2 &&& (3 : Int32))), .val (.int c0), .val (.ref z0), .val (.ref z1), .val (.ref z2), .val (.ref z3), .val (.ref z4), .val (.int (1 : Int32)), .unset] [(.int (1 : Int32))]))
            refine own_go (fun _ kont => XS.goto X240.here hx rfl (pc0 := 202) (pc' := 206) rfl (hb hby at_202) (by decide) (by decide) kont) ?_
            show own_Go p.tables e below _ (T240.setTop (mkF m 206 #[.val (.int p1), .val (.int p2), .val (.int (p2 &&& (3 : Int32))), .val (.int c0), .val (.ref z0), .val (.ref z1), .val (.ref z2), .val (.ref z3), .val (.ref z4), .val (.int (1 : Int32)), .unset] [(.int (1 : Int32))]))
            refine own_go (fun _ kont => XS.istore X240.here hx rfl (hb hby at_206) rfl (l' := #[.val (.int p1), .val (.int p2), .val (.int (p2 &&& (3 : Int32))), .val (.int c0), .val (.ref z0), .val (.ref z1), .val (.ref z2), .val (.ref z3), .val (.ref z4), .val (.int (1 : Int32)), .val (.int (1 : Int32))]) rfl kont) ?_
            show own_Go p.tables e below _ (T240.setTop (mkF m 208 #[.val (.int p1), .val (.int p2), .val (.int (p2 &&& (3 : Int32))), .val (.int c0), .val (.ref z0), .val (.ref z1), .val (.ref z2), .val (.ref z3), .val (.ref z4), .val (.int (1 : Int32)), .val (.int (1 : Int32))] []))
            exact c208 _ _ _ (own_b1 (by rw [l3] at d3; unfold own_S; simp [d3])) X240 NA240 e240
          · skip
            refine own_go (fun _ kont => XS.icmpNo X240.here hx rfl (hb hby at_188) rfl (XT.ii_eq_f (d3)) kont) ?_
            show own_Go p.tables e below _ (T240.setTop (mkF m 191 #[.val (.int p1), .val (.int p2), .val (.int (p2 &&& (3 : Int32))), .val (.int c0), .val (.ref z0), .val (.ref z1), .val (.ref z2), .val (.ref z3), .val (.ref z4), .val (.int (1 : Int32)), .unset] []))
            refine own_go (fun _ kont => XS.iloadN X240.here hx rfl (hb hby at_191) rfl kont) ?_
            show own_Go p.tables e below _ (T240.setTop (mkF m 192 #[.val (.int p1), .val (.int p2), .val (.int (p2 &&& (3 : Int32))), .val (.int c0), .val (.ref z0), .val (.ref z1), .val (.ref z2), .val (.ref z3), .val (.ref z4), .val (.int (1 : Int32)), .unset] [(.int c0)]))
            refine own_go (fun _ kont => XS.aload X240.here hx rfl (hb hby at_192) rfl rfl kont) ?_
            show own_Go p.tables e below _ (T240.setTop (mkF m 194 #[.val (.int p1), .val (.int p2), .val (.int (p2 &&& (3 : Int32))), .val (.int c0), .val (.ref z0), .val (.ref z1), .val (.ref z2), .val (.ref z3), .val (.ref z4), .val (.int (1 : Int32)), .unset] [(.ref z4), (.int c0)]))
            refine own_go (fun _ kont => XS.iconst X240.here hx rfl (hb hby at_194) kont) ?_
            show own_Go p.tables e below _ (T240.setTop (mkF m 195 #[.val (.int p1), .val (.int p2), .val (.int (p2 &&& (3 : Int32))), .val (.int c0), .val (.ref z0), .val (.ref z1), .val (.ref z2), .val (.ref z3), .val (.ref z4), .val (.int (1 : Int32)), .unset] [(.int (0 : Int32)), (.ref z4), (.int c0)]))
            refine own_callV X240 hx hZ (z := (⟨"java/lang/String", "charAt", "(I)C"⟩ : MethodName)) (argsL := [(.int (0 : Int32))]) (rest := [(.int c0)]) (W := 1) hown (hw _ (List.mem_of_getElem? (i := 34) rfl)) (hw _ (List.mem_of_getElem? (i := 35) rfl)) (hw _ (List.mem_of_getElem? (i := 37) rfl)) (hw _ (List.mem_of_getElem? (i := 36) rfl)) (hw _ (List.mem_of_getElem? (i := 38) rfl)) (hw _ (List.mem_of_getElem? (i := 22) rfl)) (by decide) (T4.1) (own_rm4 l Z a0 hw z4 h0 n0 Z0 37 T4 cs CS cz v5 SF hv) e240 (by decide) (by decide) (by decide) (by decide) (by rw [hml]; rfl) (lenOf own_pd__I_C rfl) rfl (Nat.le_of_eq rfl) (hb hby at_195) ?_
            rintro _ T241 L241 X241 ⟨rfl, N241, e241⟩
            have NA241 := Fr.app NA240 N241
            show own_Go p.tables e below _ (T241.setTop (mkF m 198 #[.val (.int p1), .val (.int p2), .val (.int (p2 &&& (3 : Int32))), .val (.int c0), .val (.ref z0), .val (.ref z1), .val (.ref z2), .val (.ref z3), .val (.ref z4), .val (.int (1 : Int32)), .unset] [(.int (own_c 37)), (.int c0)]))
            by_cases d4 : c0 = (own_c 37)
            · skip
              refine own_go (fun _ kont => XS.icmpNo X241.here hx rfl (hb hby at_198) rfl (XT.ii_ne_f (d4)) kont) ?_
              show own_Go p.tables e below _ (T241.setTop (mkF m 201 #[.val (.int p1), .val (.int p2), .val (.int (p2 &&& (3 : Int32))), .val (.int c0), .val (.ref z0), .val (.ref z1), .val (.ref z2), .val (.ref z3), .val (.ref z4), .val (.int (1 : Int32)), .unset] []))
              refine own_go (fun _ kont => XS.iconst X241.here hx rfl (hb hby at_201) kont) ?_
              show own_Go p.tables e below _ (T241.setTop (mkF m 202 #[.val (.int p1), .val (.int p2), .val (.int (p2 &&& (3 : Int32))), .val (.int c0), .val (.ref z0), .val (.ref z1), .val (.ref z2), .val (.ref z3), .val (.ref z4), .val (.int (1 : Int32)), .unset] [(.int (1 : Int32))]))
              refine own_go (fun _ kont => XS.goto X241.here hx rfl (pc0 := 202) (pc' := 206) rfl (hb hby at_202) (by decide) (by decide) kont) ?_
              show own_Go p.tables e below _ (T241.setTop (mkF m 206 #[.val (.int p1), .val (.int p2), .val (.int (p2 &&& (3 : Int32))), .val (.int c0), .val (.ref z0), .val (.ref z1), .val (.ref z2), .val (.ref z3), .val (.ref z4), .val (.int (1 : Int32)), .unset] [(.int (1 : Int32))]))
              refine own_go (fun _ kont => XS.istore X241.here hx rfl (hb hby at_206) rfl (l' := #[.val (.int p1), .val (.int p2), .val (.int (p2 &&& (3 : Int32))), .val (.int c0), .val (.ref z0), .val (.ref z1), .val (.ref z2), .val (.ref z3), .val (.ref z4), .val (.int (1 : Int32)), .val (.int (1 : Int32))]) rfl kont) ?_
              show own_Go p.tables e below _ (T241.setTop (mkF m 208 #[.val (.int p1), .val (.int p2), .val (.int (p2 &&& (3 : Int32))), .val (.int c0), .val (.ref z0), .val (.ref z1), .val (.ref z2), .val (.ref z3), .val (.ref z4), .val (.int (1 : Int32)), .val (.int (1 : Int32))] []))
              exact c208 _ _ _ (own_b1 (by rw [l4] at d4; unfold own_S; simp [d4])) X241 NA241 e241
            · skip
              refine own_go (fun _ kont => XS.icmpYes X241.here hx rfl (pc0 := 198) (pc' := 205) rfl (hb hby at_198) rfl (XT.ii_ne_t (d4)) (by decide) (by decide) kont) ?_
              show own_Go p.tables e below _ (T241.setTop (mkF m 205 #[.val (.int p1), .val (.int p2), .val (.int (p2 &&& (3 : Int32))), .val (.int c0), .val (.ref z0), .val (.ref z1), .val (.ref z2), .val (.ref z3), .val (.ref z4), .val (.int (1 : Int32)), .unset] []))
              refine own_go (fun _ kont => XS.iconst X241.here hx rfl (hb hby at_205) kont) ?_
              show own_Go p.tables e below _ (T241.setTop (mkF m 206 #[.val (.int p1), .val (.int p2), .val (.int (p2 &&& (3 : Int32))), .val (.int c0), .val (.ref z0), .val (.ref z1), .val (.ref z2), .val (.ref z3), .val (.ref z4), .val (.int (1 : Int32)), .unset] [(.int (0 : Int32))]))
              refine own_go (fun _ kont => XS.istore X241.here hx rfl (hb hby at_206) rfl (l' := #[.val (.int p1), .val (.int p2), .val (.int (p2 &&& (3 : Int32))), .val (.int c0), .val (.ref z0), .val (.ref z1), .val (.ref z2), .val (.ref z3), .val (.ref z4), .val (.int (1 : Int32)), .val (.int (0 : Int32))]) rfl kont) ?_
              show own_Go p.tables e below _ (T241.setTop (mkF m 208 #[.val (.int p1), .val (.int p2), .val (.int (p2 &&& (3 : Int32))), .val (.int c0), .val (.ref z0), .val (.ref z1), .val (.ref z2), .val (.ref z3), .val (.ref z4), .val (.int (1 : Int32)), .val (.int (0 : Int32))] []))
              exact c208 _ _ _ (own_b0 (by rw [l0] at d0; rw [l1] at d1; rw [l2] at d2; rw [l3] at d3; rw [l4] at d4; unfold own_S; simp [d0, d1, d2, d3, d4])) X241 NA241 e241
  refine own_go (fun _ kont => XS.iloadN X0.here hx rfl (hb hby at_4) rfl kont) ?_
  show own_Go p.tables e below _ (s₁.setTop (mkF m 5 #[.val (.int p1), .val (.int p2), .val (.int (p2 &&& (3 : Int32))), .unset, .unset, .unset, .unset, .unset, .unset, .unset, .unset] [(.int (p2 &&& (3 : Int32)))]))
  refine own_go (fun _ kont => XS.iconst X0.here hx rfl (hb hby at_5) kont) ?_
  show own_Go p.tables e below _ (s₁.setTop (mkF m 6 #[.val (.int p1), .val (.int p2), .val (.int (p2 &&& (3 : Int32))), .unset, .unset, .unset, .unset, .unset, .unset, .unset, .unset] [(.int (1 : Int32)), (.int (p2 &&& (3 : Int32)))]))
  by_cases b242 : (p2 &&& (3 : Int32)) = (1 : Int32)
  · skip
    refine own_go (fun _ kont => XS.icmpYes X0.here hx rfl (pc0 := 6) (pc' := 14) rfl (hb hby at_6) rfl (XT.ii_eq_t (b242)) (by decide) (by decide) kont) ?_
    show own_Go p.tables e below _ (s₁.setTop (mkF m 14 #[.val (.int p1), .val (.int p2), .val (.int (p2 &&& (3 : Int32))), .unset, .unset, .unset, .unset, .unset, .unset, .unset, .unset] []))
    refine own_go (fun _ kont => XS.bipush X0.here hx rfl (hb hby at_14) kont) ?_
    show own_Go p.tables e below _ (s₁.setTop (mkF m 16 #[.val (.int p1), .val (.int p2), .val (.int (p2 &&& (3 : Int32))), .unset, .unset, .unset, .unset, .unset, .unset, .unset, .unset] [(.int (32 : Int32))]))
    refine own_go (fun _ kont => XS.iloadN X0.here hx rfl (hb hby at_16) rfl kont) ?_
    show own_Go p.tables e below _ (s₁.setTop (mkF m 17 #[.val (.int p1), .val (.int p2), .val (.int (p2 &&& (3 : Int32))), .unset, .unset, .unset, .unset, .unset, .unset, .unset, .unset] [(.int p1), (.int (32 : Int32))]))
    refine own_go (fun _ kont => XS.bipush X0.here hx rfl (hb hby at_17) kont) ?_
    show own_Go p.tables e below _ (s₁.setTop (mkF m 19 #[.val (.int p1), .val (.int p2), .val (.int (p2 &&& (3 : Int32))), .unset, .unset, .unset, .unset, .unset, .unset, .unset, .unset] [(.int (31 : Int32)), (.int p1), (.int (32 : Int32))]))
    refine own_go (fun _ kont => XS.iand X0.here hx rfl (hb hby at_19) rfl kont) ?_
    show own_Go p.tables e below _ (s₁.setTop (mkF m 20 #[.val (.int p1), .val (.int p2), .val (.int (p2 &&& (3 : Int32))), .unset, .unset, .unset, .unset, .unset, .unset, .unset, .unset] [(.int (p1 &&& (31 : Int32))), (.int (32 : Int32))]))
    refine own_go (fun _ kont => XS.iadd X0.here hx rfl (hb hby at_20) rfl kont) ?_
    show own_Go p.tables e below _ (s₁.setTop (mkF m 21 #[.val (.int p1), .val (.int p2), .val (.int (p2 &&& (3 : Int32))), .unset, .unset, .unset, .unset, .unset, .unset, .unset, .unset] [(.int ((32 : Int32) + (p1 &&& (31 : Int32))))]))
    refine own_go (fun _ kont => XS.istoreN X0.here hx rfl (hb hby at_21) rfl (l' := #[.val (.int p1), .val (.int p2), .val (.int (p2 &&& (3 : Int32))), .val (.int ((32 : Int32) + (p1 &&& (31 : Int32)))), .unset, .unset, .unset, .unset, .unset, .unset, .unset]) rfl kont) ?_
    show own_Go p.tables e below _ (s₁.setTop (mkF m 22 #[.val (.int p1), .val (.int p2), .val (.int (p2 &&& (3 : Int32))), .val (.int ((32 : Int32) + (p1 &&& (31 : Int32)))), .unset, .unset, .unset, .unset, .unset, .unset, .unset] []))
    refine own_go (fun _ kont => XS.goto X0.here hx rfl (pc0 := 22) (pc' := 52) rfl (hb hby at_22) (by decide) (by decide) kont) ?_
    show own_Go p.tables e below _ (s₁.setTop (mkF m 52 #[.val (.int p1), .val (.int p2), .val (.int (p2 &&& (3 : Int32))), .val (.int ((32 : Int32) + (p1 &&& (31 : Int32)))), .unset, .unset, .unset, .unset, .unset, .unset, .unset] []))
    exact c52 _ _ _  X0 N0 e0
  · skip
    refine own_go (fun _ kont => XS.icmpNo X0.here hx rfl (hb hby at_6) rfl (XT.ii_eq_f (b242)) kont) ?_
    show own_Go p.tables e below _ (s₁.setTop (mkF m 9 #[.val (.int p1), .val (.int p2), .val (.int (p2 &&& (3 : Int32))), .unset, .unset, .unset, .unset, .unset, .unset, .unset, .unset] []))
    refine own_go (fun _ kont => XS.iloadN X0.here hx rfl (hb hby at_9) rfl kont) ?_
    show own_Go p.tables e below _ (s₁.setTop (mkF m 10 #[.val (.int p1), .val (.int p2), .val (.int (p2 &&& (3 : Int32))), .unset, .unset, .unset, .unset, .unset, .unset, .unset, .unset] [(.int (p2 &&& (3 : Int32)))]))
    refine own_go (fun _ kont => XS.iconst X0.here hx rfl (hb hby at_10) kont) ?_
    show own_Go p.tables e below _ (s₁.setTop (mkF m 11 #[.val (.int p1), .val (.int p2), .val (.int (p2 &&& (3 : Int32))), .unset, .unset, .unset, .unset, .unset, .unset, .unset, .unset] [(.int (3 : Int32)), (.int (p2 &&& (3 : Int32)))]))
    by_cases b243 : (p2 &&& (3 : Int32)) = (3 : Int32)
    · skip
      refine own_go (fun _ kont => XS.icmpNo X0.here hx rfl (hb hby at_11) rfl (XT.ii_ne_f (b243)) kont) ?_
      show own_Go p.tables e below _ (s₁.setTop (mkF m 14 #[.val (.int p1), .val (.int p2), .val (.int (p2 &&& (3 : Int32))), .unset, .unset, .unset, .unset, .unset, .unset, .unset, .unset] []))
      refine own_go (fun _ kont => XS.bipush X0.here hx rfl (hb hby at_14) kont) ?_
      show own_Go p.tables e below _ (s₁.setTop (mkF m 16 #[.val (.int p1), .val (.int p2), .val (.int (p2 &&& (3 : Int32))), .unset, .unset, .unset, .unset, .unset, .unset, .unset, .unset] [(.int (32 : Int32))]))
      refine own_go (fun _ kont => XS.iloadN X0.here hx rfl (hb hby at_16) rfl kont) ?_
      show own_Go p.tables e below _ (s₁.setTop (mkF m 17 #[.val (.int p1), .val (.int p2), .val (.int (p2 &&& (3 : Int32))), .unset, .unset, .unset, .unset, .unset, .unset, .unset, .unset] [(.int p1), (.int (32 : Int32))]))
      refine own_go (fun _ kont => XS.bipush X0.here hx rfl (hb hby at_17) kont) ?_
      show own_Go p.tables e below _ (s₁.setTop (mkF m 19 #[.val (.int p1), .val (.int p2), .val (.int (p2 &&& (3 : Int32))), .unset, .unset, .unset, .unset, .unset, .unset, .unset, .unset] [(.int (31 : Int32)), (.int p1), (.int (32 : Int32))]))
      refine own_go (fun _ kont => XS.iand X0.here hx rfl (hb hby at_19) rfl kont) ?_
      show own_Go p.tables e below _ (s₁.setTop (mkF m 20 #[.val (.int p1), .val (.int p2), .val (.int (p2 &&& (3 : Int32))), .unset, .unset, .unset, .unset, .unset, .unset, .unset, .unset] [(.int (p1 &&& (31 : Int32))), (.int (32 : Int32))]))
      refine own_go (fun _ kont => XS.iadd X0.here hx rfl (hb hby at_20) rfl kont) ?_
      show own_Go p.tables e below _ (s₁.setTop (mkF m 21 #[.val (.int p1), .val (.int p2), .val (.int (p2 &&& (3 : Int32))), .unset, .unset, .unset, .unset, .unset, .unset, .unset, .unset] [(.int ((32 : Int32) + (p1 &&& (31 : Int32))))]))
      refine own_go (fun _ kont => XS.istoreN X0.here hx rfl (hb hby at_21) rfl (l' := #[.val (.int p1), .val (.int p2), .val (.int (p2 &&& (3 : Int32))), .val (.int ((32 : Int32) + (p1 &&& (31 : Int32)))), .unset, .unset, .unset, .unset, .unset, .unset, .unset]) rfl kont) ?_
      show own_Go p.tables e below _ (s₁.setTop (mkF m 22 #[.val (.int p1), .val (.int p2), .val (.int (p2 &&& (3 : Int32))), .val (.int ((32 : Int32) + (p1 &&& (31 : Int32)))), .unset, .unset, .unset, .unset, .unset, .unset, .unset] []))
      refine own_go (fun _ kont => XS.goto X0.here hx rfl (pc0 := 22) (pc' := 52) rfl (hb hby at_22) (by decide) (by decide) kont) ?_
      show own_Go p.tables e below _ (s₁.setTop (mkF m 52 #[.val (.int p1), .val (.int p2), .val (.int (p2 &&& (3 : Int32))), .val (.int ((32 : Int32) + (p1 &&& (31 : Int32)))), .unset, .unset, .unset, .unset, .unset, .unset, .unset] []))
      exact c52 _ _ _  X0 N0 e0
    · skip
      refine own_go (fun _ kont => XS.icmpYes X0.here hx rfl (pc0 := 11) (pc' := 25) rfl (hb hby at_11) rfl (XT.ii_ne_t (b243)) (by decide) (by decide) kont) ?_
      show own_Go p.tables e below _ (s₁.setTop (mkF m 25 #[.val (.int p1), .val (.int p2), .val (.int (p2 &&& (3 : Int32))), .unset, .unset, .unset, .unset, .unset, .unset, .unset, .unset] []))
      refine own_go (fun _ kont => XS.iloadN X0.here hx rfl (hb hby at_25) rfl kont) ?_
      show own_Go p.tables e below _ (s₁.setTop (mkF m 26 #[.val (.int p1), .val (.int p2), .val (.int (p2 &&& (3 : Int32))), .unset, .unset, .unset, .unset, .unset, .unset, .unset, .unset] [(.int (p2 &&& (3 : Int32)))]))
      refine own_go (fun _ kont => XS.iconst X0.here hx rfl (hb hby at_26) kont) ?_
      show own_Go p.tables e below _ (s₁.setTop (mkF m 27 #[.val (.int p1), .val (.int p2), .val (.int (p2 &&& (3 : Int32))), .unset, .unset, .unset, .unset, .unset, .unset, .unset, .unset] [(.int (2 : Int32)), (.int (p2 &&& (3 : Int32)))]))
      by_cases b244 : (p2 &&& (3 : Int32)) = (2 : Int32)
      · skip
        refine own_go (fun _ kont => XS.icmpNo X0.here hx rfl (hb hby at_27) rfl (XT.ii_ne_f (b244)) kont) ?_
        show own_Go p.tables e below _ (s₁.setTop (mkF m 30 #[.val (.int p1), .val (.int p2), .val (.int (p2 &&& (3 : Int32))), .unset, .unset, .unset, .unset, .unset, .unset, .unset, .unset] []))
        refine own_go (fun _ kont => XS.bipush X0.here hx rfl (hb hby at_30) kont) ?_
        show own_Go p.tables e below _ (s₁.setTop (mkF m 32 #[.val (.int p1), .val (.int p2), .val (.int (p2 &&& (3 : Int32))), .unset, .unset, .unset, .unset, .unset, .unset, .unset, .unset] [(.int (32 : Int32))]))
        refine own_go (fun _ kont => XS.iloadN X0.here hx rfl (hb hby at_32) rfl kont) ?_
        show own_Go p.tables e below _ (s₁.setTop (mkF m 33 #[.val (.int p1), .val (.int p2), .val (.int (p2 &&& (3 : Int32))), .unset, .unset, .unset, .unset, .unset, .unset, .unset, .unset] [(.int p1), (.int (32 : Int32))]))
        refine own_go (fun _ kont => XS.bipush X0.here hx rfl (hb hby at_33) kont) ?_
        show own_Go p.tables e below _ (s₁.setTop (mkF m 35 #[.val (.int p1), .val (.int p2), .val (.int (p2 &&& (3 : Int32))), .unset, .unset, .unset, .unset, .unset, .unset, .unset, .unset] [(.int (31 : Int32)), (.int p1), (.int (32 : Int32))]))
        refine own_go (fun _ kont => XS.iand X0.here hx rfl (hb hby at_35) rfl kont) ?_
        show own_Go p.tables e below _ (s₁.setTop (mkF m 36 #[.val (.int p1), .val (.int p2), .val (.int (p2 &&& (3 : Int32))), .unset, .unset, .unset, .unset, .unset, .unset, .unset, .unset] [(.int (p1 &&& (31 : Int32))), (.int (32 : Int32))]))
        refine own_go (fun _ kont => XS.iadd X0.here hx rfl (hb hby at_36) rfl kont) ?_
        show own_Go p.tables e below _ (s₁.setTop (mkF m 37 #[.val (.int p1), .val (.int p2), .val (.int (p2 &&& (3 : Int32))), .unset, .unset, .unset, .unset, .unset, .unset, .unset, .unset] [(.int ((32 : Int32) + (p1 &&& (31 : Int32))))]))
        refine own_go (fun _ kont => XS.iloadN X0.here hx rfl (hb hby at_37) rfl kont) ?_
        show own_Go p.tables e below _ (s₁.setTop (mkF m 38 #[.val (.int p1), .val (.int p2), .val (.int (p2 &&& (3 : Int32))), .unset, .unset, .unset, .unset, .unset, .unset, .unset, .unset] [(.int p1), (.int ((32 : Int32) + (p1 &&& (31 : Int32))))]))
        refine own_go (fun _ kont => XS.iconst X0.here hx rfl (hb hby at_38) kont) ?_
        show own_Go p.tables e below _ (s₁.setTop (mkF m 39 #[.val (.int p1), .val (.int p2), .val (.int (p2 &&& (3 : Int32))), .unset, .unset, .unset, .unset, .unset, .unset, .unset, .unset] [(.int (5 : Int32)), (.int p1), (.int ((32 : Int32) + (p1 &&& (31 : Int32))))]))
        refine own_go (fun _ kont => XS.iushr X0.here hx rfl (hb hby at_39) rfl kont) ?_
        show own_Go p.tables e below _ (s₁.setTop (mkF m 40 #[.val (.int p1), .val (.int p2), .val (.int (p2 &&& (3 : Int32))), .unset, .unset, .unset, .unset, .unset, .unset, .unset, .unset] [(.int ((p1.toUInt32 >>> ((5 : Int32) &&& 31).toUInt32).toInt32)), (.int ((32 : Int32) + (p1 &&& (31 : Int32))))]))
        refine own_go (fun _ kont => XS.iconst X0.here hx rfl (hb hby at_40) kont) ?_
        show own_Go p.tables e below _ (s₁.setTop (mkF m 41 #[.val (.int p1), .val (.int p2), .val (.int (p2 &&& (3 : Int32))), .unset, .unset, .unset, .unset, .unset, .unset, .unset, .unset] [(.int (1 : Int32)), (.int ((p1.toUInt32 >>> ((5 : Int32) &&& 31).toUInt32).toInt32)), (.int ((32 : Int32) + (p1 &&& (31 : Int32))))]))
        refine own_go (fun _ kont => XS.ior X0.here hx rfl (hb hby at_41) rfl kont) ?_
        show own_Go p.tables e below _ (s₁.setTop (mkF m 42 #[.val (.int p1), .val (.int p2), .val (.int (p2 &&& (3 : Int32))), .unset, .unset, .unset, .unset, .unset, .unset, .unset, .unset] [(.int (((p1.toUInt32 >>> ((5 : Int32) &&& 31).toUInt32).toInt32) ||| (1 : Int32))), (.int ((32 : Int32) + (p1 &&& (31 : Int32))))]))
        refine own_go (fun _ kont => XS.bipush X0.here hx rfl (hb hby at_42) kont) ?_
        show own_Go p.tables e below _ (s₁.setTop (mkF m 44 #[.val (.int p1), .val (.int p2), .val (.int (p2 &&& (3 : Int32))), .unset, .unset, .unset, .unset, .unset, .unset, .unset, .unset] [(.int (16 : Int32)), (.int (((p1.toUInt32 >>> ((5 : Int32) &&& 31).toUInt32).toInt32) ||| (1 : Int32))), (.int ((32 : Int32) + (p1 &&& (31 : Int32))))]))
        refine own_go (fun _ kont => XS.ishl X0.here hx rfl (hb hby at_44) rfl kont) ?_
        show own_Go p.tables e below _ (s₁.setTop (mkF m 45 #[.val (.int p1), .val (.int p2), .val (.int (p2 &&& (3 : Int32))), .unset, .unset, .unset, .unset, .unset, .unset, .unset, .unset] [(.int ((((p1.toUInt32 >>> ((5 : Int32) &&& 31).toUInt32).toInt32) ||| (1 : Int32)) <<< ((16 : Int32) &&& 31))), (.int ((32 : Int32) + (p1 &&& (31 : Int32))))]))
        refine own_go (fun _ kont => XS.ior X0.here hx rfl (hb hby at_45) rfl kont) ?_
        show own_Go p.tables e below _ (s₁.setTop (mkF m 46 #[.val (.int p1), .val (.int p2), .val (.int (p2 &&& (3 : Int32))), .unset, .unset, .unset, .unset, .unset, .unset, .unset, .unset] [(.int (((32 : Int32) + (p1 &&& (31 : Int32))) ||| ((((p1.toUInt32 >>> ((5 : Int32) &&& 31).toUInt32).toInt32) ||| (1 : Int32)) <<< ((16 : Int32) &&& 31))))]))
        refine own_go (fun _ kont => XS.istoreN X0.here hx rfl (hb hby at_46) rfl (l' := #[.val (.int p1), .val (.int p2), .val (.int (p2 &&& (3 : Int32))), .val (.int (((32 : Int32) + (p1 &&& (31 : Int32))) ||| ((((p1.toUInt32 >>> ((5 : Int32) &&& 31).toUInt32).toInt32) ||| (1 : Int32)) <<< ((16 : Int32) &&& 31)))), .unset, .unset, .unset, .unset, .unset, .unset, .unset]) rfl kont) ?_
        show own_Go p.tables e below _ (s₁.setTop (mkF m 47 #[.val (.int p1), .val (.int p2), .val (.int (p2 &&& (3 : Int32))), .val (.int (((32 : Int32) + (p1 &&& (31 : Int32))) ||| ((((p1.toUInt32 >>> ((5 : Int32) &&& 31).toUInt32).toInt32) ||| (1 : Int32)) <<< ((16 : Int32) &&& 31)))), .unset, .unset, .unset, .unset, .unset, .unset, .unset] []))
        refine own_go (fun _ kont => XS.goto X0.here hx rfl (pc0 := 47) (pc' := 52) rfl (hb hby at_47) (by decide) (by decide) kont) ?_
        show own_Go p.tables e below _ (s₁.setTop (mkF m 52 #[.val (.int p1), .val (.int p2), .val (.int (p2 &&& (3 : Int32))), .val (.int (((32 : Int32) + (p1 &&& (31 : Int32))) ||| ((((p1.toUInt32 >>> ((5 : Int32) &&& 31).toUInt32).toInt32) ||| (1 : Int32)) <<< ((16 : Int32) &&& 31)))), .unset, .unset, .unset, .unset, .unset, .unset, .unset] []))
        exact c52 _ _ _  X0 N0 e0
      · skip
        refine own_go (fun _ kont => XS.icmpYes X0.here hx rfl (pc0 := 27) (pc' := 50) rfl (hb hby at_27) rfl (XT.ii_ne_t (b244)) (by decide) (by decide) kont) ?_
        show own_Go p.tables e below _ (s₁.setTop (mkF m 50 #[.val (.int p1), .val (.int p2), .val (.int (p2 &&& (3 : Int32))), .unset, .unset, .unset, .unset, .unset, .unset, .unset, .unset] []))
        refine own_go (fun _ kont => XS.iloadN X0.here hx rfl (hb hby at_50) rfl kont) ?_
        show own_Go p.tables e below _ (s₁.setTop (mkF m 51 #[.val (.int p1), .val (.int p2), .val (.int (p2 &&& (3 : Int32))), .unset, .unset, .unset, .unset, .unset, .unset, .unset, .unset] [(.int p1)]))
        refine own_go (fun _ kont => XS.istoreN X0.here hx rfl (hb hby at_51) rfl (l' := #[.val (.int p1), .val (.int p2), .val (.int (p2 &&& (3 : Int32))), .val (.int p1), .unset, .unset, .unset, .unset, .unset, .unset, .unset]) rfl kont) ?_
        show own_Go p.tables e below _ (s₁.setTop (mkF m 52 #[.val (.int p1), .val (.int p2), .val (.int (p2 &&& (3 : Int32))), .val (.int p1), .unset, .unset, .unset, .unset, .unset, .unset, .unset] []))
        exact c52 _ _ _  X0 N0 e0
set_option maxRecDepth 65536 in
set_option maxHeartbeats 40000000 in
theorem own_comes {Post : Tables → Env → Array Value → State → Outcome → State → Prop} (hpost : ∀ tb e args s v u, (limb_1_1.after args s (.returned v) u = true ∧ limb_1_2.after args s (.returned v) u = true) → FrameEnd s (.returned v) u (Jvm.fieldLocs frame_1_writes args s ++ Jvm.arrayLocs frame_1_arrays args s ++ Jvm.staticLocs frame_1_statics s) 0 0 → Post tb e args s (.returned v) u) :
    ArmFor flags0 classFile x code maxLocals ret World_1 tables_1 room_1 Calls_1 rest_1 Pre_1 Post := by
  intro l hfl _ _ p e ha hc hk s m args below hf hA hF happ hP
  obtain ⟨hcalls, hrest, hpre⟩ := hP
  obtain ⟨-, -, -, hnamed, -, -, -, hat⟩ := (Spec.applies_iff hf).mp happ
  obtain ⟨hg, hn⟩ := and_e (Cond.before_iff.mp (show (Jvm.Cond.and given_1 narrow_1).before args s = true from hpre))
  obtain ⟨g0, g1⟩ := and_e hg
  obtain ⟨i0, g2⟩ := and_e g1
  have i1 := g2
  obtain ⟨w0, w1, rfl⟩ : ∃ w0 w1 : Value, args = #[w0, w1] := by
    have hs : args.size = 2 := by simpa [Cond.value, given_1] using g0
    obtain ⟨L⟩ := args
    match L, hs with
    | [w0, w1], _ => exact ⟨w0, w1, rfl⟩
  have hw := fun d (hd : d ∈ tables_1) => atoms_spec (ws := Jvm.Cond.code x code maxLocals ret :: tables_1) hat d (List.mem_cons_of_mem _ hd)
  have hfit : Fit s := fun {y c} hc i hi => by
    obtain ⟨ha, rfl⟩ := Array.getElem?_eq_some_iff.mp hc
    have q := List.all_eq_true.mp ((Array.all_eq_true_iff_forall_mem.mp hF) _ (Array.getElem_mem ha)) i (List.mem_range.mpr hi)
    simpa [Array.getElem?_eq_getElem hi] using q
  obtain ⟨z0, ez0⟩ := is_v i0
  obtain rfl : w0 = (.int z0) := Option.some.inj ez0
  obtain ⟨z1, ez1⟩ := is_v i1
  obtain rfl : w1 = (.int z1) := Option.some.inj ez1
  obtain ⟨hsets, hown0⟩ := atoms_of _ (rest_1_c_eq ▸ (show rest_1_c.before _ s = true from hrest))
  obtain ⟨m0, r0⟩ := and_e hn
  obtain ⟨m1, r1⟩ := and_e r0
  obtain ⟨m2, r2⟩ := and_e r1
  obtain ⟨m3, r3⟩ := and_e r2
  obtain ⟨m4, r4⟩ := and_e r3
  obtain ⟨m5, r5⟩ := and_e r4
  obtain ⟨m6, r6⟩ := and_e r5
  obtain ⟨m7, r7⟩ := and_e r6
  obtain ⟨m8, r8⟩ := and_e r7
  obtain ⟨m9, r9⟩ := and_e r8
  obtain ⟨m10, r10⟩ := and_e r9
  obtain ⟨m11, r11⟩ := and_e r10
  obtain ⟨m12, r12⟩ := and_e r11
  obtain ⟨m13, r13⟩ := and_e r12
  obtain ⟨m14, r14⟩ := and_e r13
  obtain ⟨m15, r15⟩ := and_e r14
  obtain ⟨m16, r16⟩ := and_e r15
  obtain ⟨m17, r17⟩ := and_e r16
  obtain ⟨m18, r18⟩ := and_e r17
  obtain ⟨m19, r19⟩ := and_e r18
  obtain ⟨m20, r20⟩ := and_e r19
  obtain ⟨m21, r21⟩ := and_e r20
  obtain ⟨m22, r22⟩ := and_e r21
  obtain ⟨m23, r23⟩ := and_e r22
  obtain ⟨m24, r24⟩ := and_e r23
  obtain ⟨m25, r25⟩ := and_e r24
  obtain ⟨m26, r26⟩ := and_e r25
  obtain ⟨m27, r27⟩ := and_e r26
  obtain ⟨m28, r28⟩ := and_e r27
  obtain ⟨m29, r29⟩ := and_e r28
  obtain ⟨m30, r30⟩ := and_e r29
  obtain ⟨m31, r31⟩ := and_e r30
  obtain ⟨m32, r32⟩ := and_e r31
  obtain ⟨m33, r33⟩ := and_e r32
  obtain ⟨m34, r34⟩ := and_e r33
  obtain ⟨m35, r35⟩ := and_e r34
  obtain ⟨m36, r36⟩ := and_e r35
  obtain ⟨m37, r37⟩ := and_e r36
  obtain ⟨m38, r38⟩ := and_e r37
  obtain ⟨m39, r39⟩ := and_e r38
  obtain ⟨m40, r40⟩ := and_e r39
  obtain ⟨m41, r41⟩ := and_e r40
  obtain ⟨m42, r42⟩ := and_e r41
  obtain ⟨m43, r43⟩ := and_e r42
  obtain ⟨m44, r44⟩ := and_e r43
  obtain ⟨m45, r45⟩ := and_e r44
  obtain ⟨m46, r46⟩ := and_e r45
  obtain ⟨m47, r47⟩ := and_e r46
  obtain ⟨m48, r48⟩ := and_e r47
  obtain ⟨m49, r49⟩ := and_e r48
  obtain ⟨m50, r50⟩ := and_e r49
  obtain ⟨m51, r51⟩ := and_e r50
  obtain ⟨m52, r52⟩ := and_e r51
  have m53 := r52
  obtain ⟨x0, y0, ev0, el0, O0, E0⟩ := own_op m0 m1 m3
  have T0 := own_str el0 E0 m20 m21 m22 m35
  have S0 : Sta s s.heap "com/example/predicant/predicant/ArithmeticOperator" "ADD" "Lcom/example/predicant/predicant/ArithmeticOperator;" (.ref x0) := Sta.start ev0 (Or.inr ⟨hw _ (List.mem_of_getElem? (i := 1) rfl), hw _ (List.mem_of_getElem? (i := 2) rfl)⟩)
  obtain ⟨x1, y1, ev1, el1, O1, E1⟩ := own_op m4 m5 m7
  have T1 := own_str el1 E1 m23 m24 m25 m36
  have S1 : Sta s s.heap "com/example/predicant/predicant/ArithmeticOperator" "SUBTRACT" "Lcom/example/predicant/predicant/ArithmeticOperator;" (.ref x1) := Sta.start ev1 (Or.inr ⟨hw _ (List.mem_of_getElem? (i := 1) rfl), hw _ (List.mem_of_getElem? (i := 11) rfl)⟩)
  obtain ⟨x2, y2, ev2, el2, O2, E2⟩ := own_op m8 m9 m11
  have T2 := own_str el2 E2 m26 m27 m28 m37
  have S2 : Sta s s.heap "com/example/predicant/predicant/ArithmeticOperator" "MULTIPLY" "Lcom/example/predicant/predicant/ArithmeticOperator;" (.ref x2) := Sta.start ev2 (Or.inr ⟨hw _ (List.mem_of_getElem? (i := 1) rfl), hw _ (List.mem_of_getElem? (i := 13) rfl)⟩)
  obtain ⟨x3, y3, ev3, el3, O3, E3⟩ := own_op m12 m13 m15
  have T3 := own_str el3 E3 m29 m30 m31 m38
  have S3 : Sta s s.heap "com/example/predicant/predicant/ArithmeticOperator" "DIVIDE" "Lcom/example/predicant/predicant/ArithmeticOperator;" (.ref x3) := Sta.start ev3 (Or.inr ⟨hw _ (List.mem_of_getElem? (i := 1) rfl), hw _ (List.mem_of_getElem? (i := 15) rfl)⟩)
  obtain ⟨x4, y4, ev4, el4, O4, E4⟩ := own_op m16 m17 m19
  have T4 := own_str el4 E4 m32 m33 m34 m39
  have S4 : Sta s s.heap "com/example/predicant/predicant/ArithmeticOperator" "REMAINDER" "Lcom/example/predicant/predicant/ArithmeticOperator;" (.ref x4) := Sta.start ev4 (Or.inr ⟨hw _ (List.mem_of_getElem? (i := 1) rfl), hw _ (List.mem_of_getElem? (i := 17) rfl)⟩)
  have n5 := not_v (Cond.before_iff.mp (hsets _ (List.mem_of_getElem? (i := 2) rfl)))
  obtain ⟨cs, e10⟩ := is_v (Cond.before_iff.mp (hsets _ (List.mem_of_getElem? (i := 1) rfl)))
  have CS : Sta s s.heap "java/lang/String" "COMPACT_STRINGS" "Z" (.int cs) := Sta.start e10 (Or.inl (hsets _ (List.mem_of_getElem? (i := 0) rfl)))
  have cz : ¬ (cs = (0 : Int32)) := gotF (Cond.eq_ints e10 (Term.int_eval (0))) n5
  obtain ⟨v5, e14, hv⟩ := isR_v (Cond.before_iff.mp (hsets _ (List.mem_of_getElem? (i := 8) rfl)))
  have SF : Sta s s.heap "jdk/internal/util/Preconditions" "SIOOBE_FORMATTER" "Ljava/util/function/BiFunction;" v5 := Sta.start e14 (Or.inl (hsets _ (List.mem_of_getElem? (i := 7) rfl)))
  obtain ⟨n, o, h1, h2, h3, _, L, rfl, ⟨rfl, N⟩, hq⟩ := own_rm0 l s _ hw tables_1 z0 z1 s.heap s.heap.size (Nat.le_refl _) x0 y0 S0 O0 T0 x1 y1 S1 O1 T1 x2 y2 S2 O2 T2 x3 y3 S3 O3 T3 x4 y4 S4 O4 T4 cs CS cz v5 SF hv p e ha hc hk s m _ below hf ((Spec.applies_iff_loose hf).mp happ).1 ⟨rfl, State.Warmed39.refl s, rfl⟩ trivial
  refine ⟨n, _, h1, h2, h3, hpost _ _ _ _ _ _ ⟨Cond.after_iff.mpr rfl, Cond.after_iff.mpr (eq_i res_at (Term.int_eval (1)) rfl)⟩ ⟨hq.1, hq.2.1, (hq.2.2.sift fun y hy => Or.inr (N y hy)).mono (by decide) (by decide)⟩⟩
theorem main_1_1 : Claimed_1_1 := own_comes fun _ _ _ _ _ _ h hF => ⟨h.1, hF⟩
theorem main_1_2 : Claimed_1_2 := own_comes fun _ _ _ _ _ _ h hF => ⟨h.2, hF⟩
end Jvm.Pilot.@@N@@
namespace Jvm.Pilot.@@N@@
open Jvm Jvm.ClassFile Sem Op Lib Jvm.Free Jvm.Stand Jvm.Pilot.@@N@@.Jvm.D
/-! MADE BY PROGRAM (witnessworld.py) out of the Statement's table words and the real class files: 19 classes; the members and pool entries that the words name. The judged class is class 1, her method 1. -/
namespace start1
open Jvm.ClassFile
def u (s : String) : CpInfo := .utf8 (stringToUtf16 s)
/-- a pool by its gaps: so many unusable entries, then the entry; so many at the end -/
def gap : Nat → List CpInfo → List CpInfo
  | 0, r => r
  | n + 1, r => .unusable :: gap n r
def poolList (es : List (Nat × CpInfo)) (last : Nat) : List CpInfo := es.foldr (fun e r => gap e.1 (e.2 :: r)) (gap last [])
def pool (es : List (Nat × CpInfo)) (last : Nat) : Array CpInfo := ⟨poolList es last⟩
def fileOf (pool : Array CpInfo) (this : Nat) (attrs : Array Attribute := #[]) (ms : Array MethodInfo := #[]) (fl : Nat := 33) (sup : Nat := 0) (ifs : Array Nat := #[]) (fds : Array FieldInfo := #[]) : ClassFile where
  minorVersion := 0
  majorVersion := 65
  constantPool := pool
  accessFlags := fl
  thisClass := this
  superClass := sup
  interfaces := ifs
  fields := fds
  methods := ms
  attributes := attrs
def plain (name : String) (sup : Option ClassId) : Class where
  name := name
  kind := .ordinary
  loader := none
  accessFlags := 33
  super := sup
  interfaces := #[]
  cf := none
  fields := #[]
  methods := #[]
  instanceTypes := #[]
  staticTypes := #[]
  resolved := #[]
  callSites := []
  init := .initialized
  statics := none
  mirror := none

def pool0 : Array CpInfo := pool [(5, u "<init>"), (0, u "()V"), (1, .class_ 10), (1, u "java/lang/Object")] 113

def k0m0 : Method := { name := "<init>", desc := "()V", sig := { parameters := [], returnType := none }, accessFlags := 1, code := none }
/-- java/lang/Object -/
def k0 : Class := { plain "java/lang/Object" none with
  accessFlags := 33
  interfaces := #[]
  cf := some (fileOf pool0 8 #[] #[{ accessFlags := 1, nameIndex := 5, descriptorIndex := 6, attributes := #[] }] 33 0 #[] #[])
  fields := #[]
  methods := #[k0m0]
  instanceTypes := #[]
  staticTypes := #[]
  resolved := Array.replicate 124 none
  statics := none }

def pool1 : Array CpInfo := pool [(2, .class_ 4), (1, u "java/lang/Object"), (0, u "<init>"), (0, u "()V"), (0, .fieldref 8 9), (0, .class_ 10), (0, .nameAndType 11 12), (0, u "com/example/predicant/predicant/ArithmeticOperator"), (0, u "ADD"), (0, u "Lcom/example/predicant/predicant/ArithmeticOperator;"), (0, .methodref 8 14), (0, .nameAndType 15 16), (0, u "symbol"), (0, u "()Ljava/lang/String;"), (0, .fieldref 8 18), (0, .nameAndType 19 12), (0, u "SUBTRACT"), (0, .fieldref 8 21), (0, .nameAndType 22 12), (0, u "MULTIPLY"), (0, .fieldref 8 24), (0, .nameAndType 25 12), (0, u "DIVIDE"), (0, .fieldref 8 27), (0, .nameAndType 28 12), (0, u "REMAINDER"), (0, .methodref 30 31), (0, .class_ 32), (0, .nameAndType 33 34), (0, u "java/lang/String"), (0, u "length"), (0, u "()I"), (0, .methodref 30 36), (0, .nameAndType 37 38), (0, u "charAt"), (0, u "(I)C"), (0, .methodref 8 40), (0, .nameAndType 41 42), (0, u "isSymbol"), (0, u "(I)Z"), (0, .class_ 44), (0, u "com/example/predicant/predicant/ArithmeticOperatorIsSymbolPinLaw"), (2, u "law"), (0, u "(II)Z")] 3

def k1m0 : Method := { name := "<init>", desc := "()V", sig := { parameters := [], returnType := none }, accessFlags := 2, code := none }
def k1c1 : Code := { maxStack := 3, maxLocals := 11, code := code, exceptionTable := #[], attributes := #[] }
def k1m1 : Method := { name := "law", desc := "(II)Z", sig := { parameters := [.int, .int], returnType := some .boolean }, accessFlags := 9, code := some k1c1 }
/-- com/example/predicant/predicant/ArithmeticOperatorIsSymbolPinLaw -/
def k1 : Class := { plain "com/example/predicant/predicant/ArithmeticOperatorIsSymbolPinLaw" (some 0) with
  accessFlags := 49
  interfaces := #[]
  cf := some (fileOf pool1 43 #[] #[{ accessFlags := 2, nameIndex := 5, descriptorIndex := 6, attributes := #[] }, { accessFlags := 9, nameIndex := 47, descriptorIndex := 48, attributes := #[] }] 49 2 #[] #[])
  fields := #[]
  methods := #[k1m0, k1m1]
  instanceTypes := #[]
  staticTypes := #[]
  resolved := Array.replicate 52 none
  statics := none }

def pool2 : Array CpInfo := pool [(1, .class_ 2), (0, u "java/lang/constant/Constable"), (0, .class_ 4), (0, u "java/lang/Object")] 6

/-- java/lang/constant/Constable -/
def k2 : Class := { plain "java/lang/constant/Constable" (some 0) with
  accessFlags := 1537
  interfaces := #[]
  cf := some (fileOf pool2 1 #[] #[] 1537 3 #[] #[])
  fields := #[]
  methods := #[]
  instanceTypes := #[]
  staticTypes := #[]
  resolved := Array.replicate 11 none
  statics := none }

def pool3 : Array CpInfo := pool [(1, .class_ 2), (0, u "java/lang/Comparable"), (0, .class_ 4), (0, u "java/lang/Object")] 7

/-- java/lang/Comparable -/
def k3 : Class := { plain "java/lang/Comparable" (some 0) with
  accessFlags := 1537
  interfaces := #[]
  cf := some (fileOf pool3 1 #[] #[] 1537 3 #[] #[])
  fields := #[]
  methods := #[]
  instanceTypes := #[]
  staticTypes := #[]
  resolved := Array.replicate 12 none
  statics := none }

def pool4 : Array CpInfo := pool [(1, .class_ 2), (0, u "java/io/Serializable"), (0, .class_ 4), (0, u "java/lang/Object")] 2

/-- java/io/Serializable -/
def k4 : Class := { plain "java/io/Serializable" (some 0) with
  accessFlags := 1537
  interfaces := #[]
  cf := some (fileOf pool4 1 #[] #[] 1537 3 #[] #[])
  fields := #[]
  methods := #[]
  instanceTypes := #[]
  staticTypes := #[]
  resolved := Array.replicate 7 none
  statics := none }

def pool5 : Array CpInfo := pool [(2, .class_ 4), (1, u "java/lang/Enum"), (0, u "name"), (0, u "Ljava/lang/String;"), (2, u "ordinal"), (0, u "I"), (1, .class_ 14), (1, u "java/lang/Object"), (4, u "hash"), (86, .class_ 108), (1, u "java/lang/Enum$EnumDesc"), (2, .class_ 112), (0, u "java/lang/constant/Constable"), (0, .class_ 114), (0, u "java/lang/Comparable"), (0, .class_ 116), (0, u "java/io/Serializable")] 87

/-- java/lang/Enum -/
def k5 : Class := { plain "java/lang/Enum" (some 0) with
  accessFlags := 1057
  interfaces := #[2, 3, 4]
  cf := some (fileOf pool5 2 #[.nestMembers #[106]] #[] 1057 12 #[111, 113, 115] #[{ accessFlags := 18, nameIndex := 5, descriptorIndex := 6, attributes := #[] }, { accessFlags := 18, nameIndex := 9, descriptorIndex := 10, attributes := #[] }, { accessFlags := 2, nameIndex := 19, descriptorIndex := 10, attributes := #[] }])
  fields := #[{ name := "name", type := (.object "java/lang/String"), accessFlags := 18, slot := 0, constantValue := 0 }, { name := "ordinal", type := .int, accessFlags := 18, slot := 1, constantValue := 0 }, { name := "hash", type := .int, accessFlags := 2, slot := 2, constantValue := 0 }]
  methods := #[]
  instanceTypes := #[(.object "java/lang/String"), .int, .int]
  staticTypes := #[]
  resolved := Array.replicate 204 none
  statics := none }

def pool6 : Array CpInfo := pool [(1, .class_ 2), (0, u "com/example/predicant/predicant/ArithmeticOperator"), (2, u "ADD"), (0, u "Lcom/example/predicant/predicant/ArithmeticOperator;"), (2, u "SUBTRACT"), (2, u "MULTIPLY"), (2, u "DIVIDE"), (2, u "REMAINDER"), (2, u "$VALUES"), (0, u "[Lcom/example/predicant/predicant/ArithmeticOperator;"), (6, .class_ 31), (1, u "java/lang/Enum"), (8, u "level"), (0, u "Lcom/example/predicant/predicant/ArithmeticOperator$Level;"), (0, .fieldref 1 43), (0, .nameAndType 44 45), (0, u "spellings"), (0, u "[Ljava/lang/String;"), (17, u "BY_SPELLING"), (0, u "Lcom/example/predicant/predicant/WordTable;"), (3, u "()Ljava/lang/String;"), (27, u "CARRIED"), (0, u "Ljava/math/MathContext;"), (55, u "FIVE"), (0, u "Ljava/math/BigInteger;"), (58, .class_ 215), (1, u "com/example/predicant/predicant/ArithmeticOperator$Level"), (56, u "MAX_DIGITS"), (0, u "I"), (9, u "isSymbol"), (0, u "(I)Z"), (3, u "symbol")] 36

def k6c0 : Code := { maxStack := 2, maxLocals := 1, code := prog_5_method_4_code, exceptionTable := #[], attributes := #[] }
def k6m0 : Method := { name := "isSymbol", desc := "(I)Z", sig := { parameters := [.int], returnType := some .boolean }, accessFlags := 8, code := some k6c0 }
def k6c1 : Code := { maxStack := 2, maxLocals := 1, code := prog_5_method_7_code, exceptionTable := #[], attributes := #[] }
def k6m1 : Method := { name := "symbol", desc := "()Ljava/lang/String;", sig := { parameters := [], returnType := some (.object "java/lang/String") }, accessFlags := 0, code := some k6c1 }
/-- com/example/predicant/predicant/ArithmeticOperator -/
def k6 : Class := { plain "com/example/predicant/predicant/ArithmeticOperator" (some 5) with
  accessFlags := 16432
  interfaces := #[]
  cf := some (fileOf pool6 1 #[.nestMembers #[213]] #[{ accessFlags := 8, nameIndex := 283, descriptorIndex := 284, attributes := #[] }, { accessFlags := 0, nameIndex := 288, descriptorIndex := 68, attributes := #[] }] 16432 29 #[] #[{ accessFlags := 16409, nameIndex := 5, descriptorIndex := 6, attributes := #[] }, { accessFlags := 16409, nameIndex := 9, descriptorIndex := 6, attributes := #[] }, { accessFlags := 16409, nameIndex := 12, descriptorIndex := 6, attributes := #[] }, { accessFlags := 16409, nameIndex := 15, descriptorIndex := 6, attributes := #[] }, { accessFlags := 16409, nameIndex := 18, descriptorIndex := 6, attributes := #[] }, { accessFlags := 24, nameIndex := 272, descriptorIndex := 273, attributes := #[] }, { accessFlags := 26, nameIndex := 96, descriptorIndex := 97, attributes := #[] }, { accessFlags := 26, nameIndex := 153, descriptorIndex := 154, attributes := #[] }, { accessFlags := 26, nameIndex := 63, descriptorIndex := 64, attributes := #[] }, { accessFlags := 18, nameIndex := 40, descriptorIndex := 41, attributes := #[] }, { accessFlags := 18, nameIndex := 44, descriptorIndex := 45, attributes := #[] }, { accessFlags := 4122, nameIndex := 21, descriptorIndex := 22, attributes := #[] }])
  fields := #[{ name := "ADD", type := (.object "com/example/predicant/predicant/ArithmeticOperator"), accessFlags := 16409, slot := 0, constantValue := 0 }, { name := "SUBTRACT", type := (.object "com/example/predicant/predicant/ArithmeticOperator"), accessFlags := 16409, slot := 1, constantValue := 0 }, { name := "MULTIPLY", type := (.object "com/example/predicant/predicant/ArithmeticOperator"), accessFlags := 16409, slot := 2, constantValue := 0 }, { name := "DIVIDE", type := (.object "com/example/predicant/predicant/ArithmeticOperator"), accessFlags := 16409, slot := 3, constantValue := 0 }, { name := "REMAINDER", type := (.object "com/example/predicant/predicant/ArithmeticOperator"), accessFlags := 16409, slot := 4, constantValue := 0 }, { name := "MAX_DIGITS", type := .int, accessFlags := 24, slot := 5, constantValue := 0 }, { name := "CARRIED", type := (.object "java/math/MathContext"), accessFlags := 26, slot := 6, constantValue := 0 }, { name := "FIVE", type := (.object "java/math/BigInteger"), accessFlags := 26, slot := 7, constantValue := 0 }, { name := "BY_SPELLING", type := (.object "com/example/predicant/predicant/WordTable"), accessFlags := 26, slot := 8, constantValue := 0 }, { name := "level", type := (.object "com/example/predicant/predicant/ArithmeticOperator$Level"), accessFlags := 18, slot := 3, constantValue := 0 }, { name := "spellings", type := (.array (.object "java/lang/String")), accessFlags := 18, slot := 4, constantValue := 0 }, { name := "$VALUES", type := (.array (.object "com/example/predicant/predicant/ArithmeticOperator")), accessFlags := 4122, slot := 9, constantValue := 0 }]
  methods := #[k6m0, k6m1]
  instanceTypes := #[(.object "java/lang/String"), .int, .int, (.object "com/example/predicant/predicant/ArithmeticOperator$Level"), (.array (.object "java/lang/String"))]
  staticTypes := #[(.object "com/example/predicant/predicant/ArithmeticOperator"), (.object "com/example/predicant/predicant/ArithmeticOperator"), (.object "com/example/predicant/predicant/ArithmeticOperator"), (.object "com/example/predicant/predicant/ArithmeticOperator"), (.object "com/example/predicant/predicant/ArithmeticOperator"), .int, (.object "java/math/MathContext"), (.object "java/math/BigInteger"), (.object "com/example/predicant/predicant/WordTable"), (.array (.object "com/example/predicant/predicant/ArithmeticOperator"))]
  resolved := Array.replicate 325 none
  statics := some 0 }

def pool7 : Array CpInfo := pool [(2, .class_ 4), (1, u "java/lang/CharSequence"), (42, .class_ 48), (0, u "java/lang/CharSequence$1CodePointIterator"), (10, .class_ 60), (0, u "java/lang/CharSequence$1CharIterator"), (5, .class_ 67), (0, u "java/lang/Object")] 63

/-- java/lang/CharSequence -/
def k7 : Class := { plain "java/lang/CharSequence" (some 0) with
  accessFlags := 1537
  interfaces := #[]
  cf := some (fileOf pool7 2 #[.nestMembers #[47, 59]] #[] 1537 66 #[] #[])
  fields := #[]
  methods := #[]
  instanceTypes := #[]
  staticTypes := #[]
  resolved := Array.replicate 131 none
  statics := none }

def pool8 : Array CpInfo := pool [(1, .class_ 2), (0, u "java/lang/constant/ConstantDesc"), (0, .class_ 4), (0, u "java/lang/Object")] 32

/-- java/lang/constant/ConstantDesc -/
def k8 : Class := { plain "java/lang/constant/ConstantDesc" (some 0) with
  accessFlags := 1537
  interfaces := #[]
  cf := some (fileOf pool8 1 #[] #[] 1537 3 #[] #[])
  fields := #[]
  methods := #[]
  instanceTypes := #[]
  staticTypes := #[]
  resolved := Array.replicate 37 none
  statics := none }

def pool9 : Array CpInfo := pool [(2, .class_ 4), (1, u "java/lang/Object"), (0, u "<init>"), (0, u "()V"), (2, .fieldref 10 11), (0, .class_ 12), (0, .nameAndType 13 14), (0, u "java/lang/String"), (0, u "value"), (0, u "[B"), (0, .fieldref 10 16), (0, .nameAndType 17 18), (0, u "coder"), (0, u "B"), (2, u "hash"), (0, u "I"), (2, u "hashIsZero"), (0, u "Z"), (11, .fieldref 10 39), (0, .nameAndType 40 26), (0, u "COMPACT_STRINGS"), (66, .class_ 109), (1, u "java/lang/StringLatin1"), (32, u "()Z"), (191, u "()I"), (0, .methodref 10 336), (0, .nameAndType 17 337), (0, u "()B"), (25, u "([BI)C"), (27, u "(II)V"), (35, u "(I)C"), (64, .methodref 10 493), (0, .nameAndType 494 142), (0, u "isLatin1"), (0, .methodref 107 496), (0, .nameAndType 497 363), (0, u "charAt"), (3, u "checkIndex"), (5, u "length"), (67, .class_ 576), (0, u "java/lang/CharSequence"), (22, u "CASE_INSENSITIVE_ORDER"), (0, u "Ljava/util/Comparator;"), (452, .fieldref 1054 1055), (0, .class_ 1056), (0, .nameAndType 1057 1058), (0, u "jdk/internal/util/Preconditions"), (0, u "SIOOBE_FORMATTER"), (0, u "Ljava/util/function/BiFunction;"), (0, .methodref 1054 1060), (0, .nameAndType 501 1061), (0, u "(IILjava/util/function/BiFunction;)I"), (39, u "serialPersistentFields"), (0, u "[Ljava/io/ObjectStreamField;"), (0, .class_ 1104), (0, u "java/lang/String$CaseInsensitiveComparator"), (1, .class_ 1107), (0, u "java/io/Serializable"), (0, .class_ 1109), (0, u "java/lang/Comparable"), (0, .class_ 1111), (0, u "java/lang/constant/Constable"), (0, .class_ 1113), (0, u "java/lang/constant/ConstantDesc"), (2, u "serialVersionUID"), (0, u "J"), (3, u "REPL"), (0, u "C"), (2, u "LATIN1"), (1, u "UTF16")] 323

def k9m0 : Method := { name := "<init>", desc := "()V", sig := { parameters := [], returnType := none }, accessFlags := 1, code := none }
def k9c1 : Code := { maxStack := 2, maxLocals := 1, code := jdk_42_method_54_code, exceptionTable := #[], attributes := #[] }
def k9m1 : Method := { name := "length", desc := "()I", sig := { parameters := [], returnType := some .int }, accessFlags := 1, code := some k9c1 }
def k9c2 : Code := { maxStack := 2, maxLocals := 2, code := jdk_42_method_56_code, exceptionTable := #[], attributes := #[] }
def k9m2 : Method := { name := "charAt", desc := "(I)C", sig := { parameters := [.int], returnType := some .char }, accessFlags := 1, code := some k9c2 }
def k9c3 : Code := { maxStack := 1, maxLocals := 1, code := jdk_42_method_152_code, exceptionTable := #[], attributes := #[] }
def k9m3 : Method := { name := "coder", desc := "()B", sig := { parameters := [], returnType := some .byte }, accessFlags := 0, code := some k9c3 }
def k9c4 : Code := { maxStack := 1, maxLocals := 1, code := jdk_42_method_154_code, exceptionTable := #[], attributes := #[] }
def k9m4 : Method := { name := "isLatin1", desc := "()Z", sig := { parameters := [], returnType := some .boolean }, accessFlags := 0, code := some k9c4 }
def k9c5 : Code := { maxStack := 3, maxLocals := 2, code := jdk_42_method_155_code, exceptionTable := #[], attributes := #[] }
def k9m5 : Method := { name := "checkIndex", desc := "(II)V", sig := { parameters := [.int, .int], returnType := none }, accessFlags := 8, code := some k9c5 }
/-- java/lang/String -/
def k9 : Class := { plain "java/lang/String" (some 0) with
  accessFlags := 49
  interfaces := #[4, 3, 7, 2, 8]
  cf := some (fileOf pool9 10 #[.nestMembers #[1103]] #[{ accessFlags := 1, nameIndex := 5, descriptorIndex := 6, attributes := #[] }, { accessFlags := 1, nameIndex := 507, descriptorIndex := 334, attributes := #[] }, { accessFlags := 1, nameIndex := 497, descriptorIndex := 427, attributes := #[] }, { accessFlags := 0, nameIndex := 17, descriptorIndex := 337, attributes := #[] }, { accessFlags := 0, nameIndex := 494, descriptorIndex := 142, attributes := #[] }, { accessFlags := 8, nameIndex := 501, descriptorIndex := 391, attributes := #[] }] 49 2 #[1106, 1108, 575, 1110, 1112] #[{ accessFlags := 18, nameIndex := 13, descriptorIndex := 14, attributes := #[] }, { accessFlags := 18, nameIndex := 17, descriptorIndex := 18, attributes := #[] }, { accessFlags := 2, nameIndex := 21, descriptorIndex := 22, attributes := #[] }, { accessFlags := 2, nameIndex := 25, descriptorIndex := 26, attributes := #[] }, { accessFlags := 26, nameIndex := 1116, descriptorIndex := 1117, attributes := #[] }, { accessFlags := 24, nameIndex := 40, descriptorIndex := 26, attributes := #[] }, { accessFlags := 26, nameIndex := 1101, descriptorIndex := 1102, attributes := #[] }, { accessFlags := 26, nameIndex := 1121, descriptorIndex := 1122, attributes := #[] }, { accessFlags := 25, nameIndex := 599, descriptorIndex := 600, attributes := #[] }, { accessFlags := 24, nameIndex := 1125, descriptorIndex := 18, attributes := #[] }, { accessFlags := 24, nameIndex := 1127, descriptorIndex := 18, attributes := #[] }])
  fields := #[{ name := "value", type := (.array .byte), accessFlags := 18, slot := 0, constantValue := 0 }, { name := "coder", type := .byte, accessFlags := 18, slot := 1, constantValue := 0 }, { name := "hash", type := .int, accessFlags := 2, slot := 2, constantValue := 0 }, { name := "hashIsZero", type := .boolean, accessFlags := 2, slot := 3, constantValue := 0 }, { name := "serialVersionUID", type := .long, accessFlags := 26, slot := 0, constantValue := 0 }, { name := "COMPACT_STRINGS", type := .boolean, accessFlags := 24, slot := 1, constantValue := 0 }, { name := "serialPersistentFields", type := (.array (.object "java/io/ObjectStreamField")), accessFlags := 26, slot := 2, constantValue := 0 }, { name := "REPL", type := .char, accessFlags := 26, slot := 3, constantValue := 0 }, { name := "CASE_INSENSITIVE_ORDER", type := (.object "java/util/Comparator"), accessFlags := 25, slot := 4, constantValue := 0 }, { name := "LATIN1", type := .byte, accessFlags := 24, slot := 5, constantValue := 0 }, { name := "UTF16", type := .byte, accessFlags := 24, slot := 6, constantValue := 0 }]
  methods := #[k9m0, k9m1, k9m2, k9m3, k9m4, k9m5]
  instanceTypes := #[(.array .byte), .byte, .int, .boolean]
  staticTypes := #[.long, .boolean, (.array (.object "java/io/ObjectStreamField")), .char, (.object "java/util/Comparator"), .byte, .byte]
  resolved := Array.replicate 1451 none
  statics := some 1 }

def pool10 : Array CpInfo := pool [(1, .class_ 2), (0, u "java/lang/String"), (1, .class_ 6), (1, u "java/lang/Object"), (0, u "<init>"), (0, u "()V"), (0, .methodref 1 10), (0, .nameAndType 11 12), (0, u "checkIndex"), (0, u "(II)V"), (1, .class_ 16), (1, u "java/lang/StringLatin1"), (36, u "([BI)C"), (67, u "$assertionsDisabled"), (0, u "Z"), (98, .class_ 223), (1, u "java/lang/StringLatin1$LinesSpliterator"), (28, u "charAt"), (137, .class_ 391), (0, u "java/lang/StringLatin1$CharsSpliterator")] 3

def k10m0 : Method := { name := "<init>", desc := "()V", sig := { parameters := [], returnType := none }, accessFlags := 0, code := none }
def k10c1 : Code := { maxStack := 2, maxLocals := 2, code := jdk_43_method_2_code, exceptionTable := #[], attributes := #[] }
def k10m1 : Method := { name := "charAt", desc := "([BI)C", sig := { parameters := [(.array .byte), .int], returnType := some .char }, accessFlags := 9, code := some k10c1 }
/-- java/lang/StringLatin1 -/
def k10 : Class := { plain "java/lang/StringLatin1" (some 0) with
  accessFlags := 48
  interfaces := #[]
  cf := some (fileOf pool10 14 #[.nestMembers #[390, 221]] #[{ accessFlags := 0, nameIndex := 7, descriptorIndex := 8, attributes := #[] }, { accessFlags := 9, nameIndex := 252, descriptorIndex := 53, attributes := #[] }] 48 4 #[] #[{ accessFlags := 4120, nameIndex := 121, descriptorIndex := 122, attributes := #[] }])
  fields := #[{ name := "$assertionsDisabled", type := .boolean, accessFlags := 4120, slot := 0, constantValue := 0 }]
  methods := #[k10m0, k10m1]
  instanceTypes := #[]
  staticTypes := #[.boolean]
  resolved := Array.replicate 395 none
  statics := none }

def pool11 : Array CpInfo := pool [(2, .class_ 4), (1, u "java/lang/Object"), (0, u "<init>"), (0, u "()V"), (17, .class_ 26), (1, u "jdk/internal/util/Preconditions"), (6, u "checkIndex"), (21, .class_ 56), (0, u "jdk/internal/util/Preconditions$4"), (57, .class_ 115), (0, u "jdk/internal/util/Preconditions$1"), (7, u "SIOOBE_FORMATTER"), (0, u "Ljava/util/function/BiFunction;"), (0, .class_ 126), (0, u "jdk/internal/util/Preconditions$2"), (3, u "AIOOBE_FORMATTER"), (0, .class_ 132), (0, u "jdk/internal/util/Preconditions$3"), (3, u "IOOBE_FORMATTER"), (41, u "(IILjava/util/function/BiFunction;)I")] 15

def k11m0 : Method := { name := "<init>", desc := "()V", sig := { parameters := [], returnType := none }, accessFlags := 1, code := none }
def k11c1 : Code := { maxStack := 3, maxLocals := 3, code := jdk_41_method_11_code, exceptionTable := #[], attributes := #[] }
def k11m1 : Method := { name := "checkIndex", desc := "(IILjava/util/function/BiFunction;)I", sig := { parameters := [.int, .int, (.object "java/util/function/BiFunction")], returnType := some .int }, accessFlags := 9, code := some k11c1 }
/-- jdk/internal/util/Preconditions -/
def k11 : Class := { plain "jdk/internal/util/Preconditions" (some 0) with
  accessFlags := 33
  interfaces := #[]
  cf := some (fileOf pool11 24 #[.nestMembers #[55, 131, 125, 114]] #[{ accessFlags := 1, nameIndex := 5, descriptorIndex := 6, attributes := #[] }, { accessFlags := 9, nameIndex := 33, descriptorIndex := 178, attributes := #[] }] 33 2 #[] #[{ accessFlags := 25, nameIndex := 123, descriptorIndex := 124, attributes := #[] }, { accessFlags := 25, nameIndex := 130, descriptorIndex := 124, attributes := #[] }, { accessFlags := 25, nameIndex := 136, descriptorIndex := 124, attributes := #[] }])
  fields := #[{ name := "SIOOBE_FORMATTER", type := (.object "java/util/function/BiFunction"), accessFlags := 25, slot := 0, constantValue := 0 }, { name := "AIOOBE_FORMATTER", type := (.object "java/util/function/BiFunction"), accessFlags := 25, slot := 1, constantValue := 0 }, { name := "IOOBE_FORMATTER", type := (.object "java/util/function/BiFunction"), accessFlags := 25, slot := 2, constantValue := 0 }]
  methods := #[k11m0, k11m1]
  instanceTypes := #[]
  staticTypes := #[(.object "java/util/function/BiFunction"), (.object "java/util/function/BiFunction"), (.object "java/util/function/BiFunction")]
  resolved := Array.replicate 194 none
  statics := some 2 }

def pool12 : Array CpInfo := pool [(9, u "<init>"), (6, .class_ 18), (1, u "java/lang/Object"), (0, u "()V"), (1, .class_ 23), (1, u "jdk/internal/util/ArraysSupport"), (0, u "LOG2_ARRAY_LONG_INDEX_SCALE"), (0, u "I"), (2, u "U"), (0, u "Ljdk/internal/misc/Unsafe;"), (8, u "BIG_ENDIAN"), (0, u "Z"), (8, u "LOG2_BYTE_BIT_SIZE"), (4, u "LOG2_ARRAY_INT_INDEX_SCALE"), (54, u "JLA"), (0, u "Ljdk/internal/access/JavaLangAccess;"), (11, u "LOG2_ARRAY_BOOLEAN_INDEX_SCALE"), (9, u "LOG2_ARRAY_BYTE_INDEX_SCALE"), (5, u "LOG2_ARRAY_CHAR_INDEX_SCALE"), (5, u "LOG2_ARRAY_SHORT_INDEX_SCALE"), (18, u "LOG2_ARRAY_FLOAT_INDEX_SCALE"), (24, u "LOG2_ARRAY_DOUBLE_INDEX_SCALE"), (89, u "T_BOOLEAN"), (2, u "T_CHAR"), (1, u "T_FLOAT"), (1, u "T_DOUBLE"), (1, u "T_BYTE"), (1, u "T_SHORT"), (1, u "T_INT"), (1, u "T_LONG"), (1, u "SOFT_MAX_ARRAY_LENGTH")] 83

def k12m0 : Method := { name := "<init>", desc := "()V", sig := { parameters := [], returnType := none }, accessFlags := 2, code := none }
/-- jdk/internal/util/ArraysSupport -/
def k12 : Class := { plain "jdk/internal/util/ArraysSupport" (some 0) with
  accessFlags := 33
  interfaces := #[]
  cf := some (fileOf pool12 21 #[] #[{ accessFlags := 2, nameIndex := 9, descriptorIndex := 19, attributes := #[] }] 33 16 #[] #[{ accessFlags := 24, nameIndex := 28, descriptorIndex := 29, attributes := #[] }, { accessFlags := 26, nameIndex := 38, descriptorIndex := 39, attributes := #[] }, { accessFlags := 25, nameIndex := 121, descriptorIndex := 25, attributes := #[] }, { accessFlags := 25, nameIndex := 131, descriptorIndex := 25, attributes := #[] }, { accessFlags := 25, nameIndex := 137, descriptorIndex := 25, attributes := #[] }, { accessFlags := 25, nameIndex := 143, descriptorIndex := 25, attributes := #[] }, { accessFlags := 25, nameIndex := 53, descriptorIndex := 25, attributes := #[] }, { accessFlags := 25, nameIndex := 24, descriptorIndex := 25, attributes := #[] }, { accessFlags := 25, nameIndex := 162, descriptorIndex := 25, attributes := #[] }, { accessFlags := 25, nameIndex := 187, descriptorIndex := 25, attributes := #[] }, { accessFlags := 26, nameIndex := 48, descriptorIndex := 25, attributes := #[] }, { accessFlags := 25, nameIndex := 277, descriptorIndex := 25, attributes := #[] }, { accessFlags := 25, nameIndex := 280, descriptorIndex := 25, attributes := #[] }, { accessFlags := 25, nameIndex := 282, descriptorIndex := 25, attributes := #[] }, { accessFlags := 25, nameIndex := 284, descriptorIndex := 25, attributes := #[] }, { accessFlags := 25, nameIndex := 286, descriptorIndex := 25, attributes := #[] }, { accessFlags := 25, nameIndex := 288, descriptorIndex := 25, attributes := #[] }, { accessFlags := 25, nameIndex := 290, descriptorIndex := 25, attributes := #[] }, { accessFlags := 25, nameIndex := 292, descriptorIndex := 25, attributes := #[] }, { accessFlags := 26, nameIndex := 108, descriptorIndex := 109, attributes := #[] }, { accessFlags := 25, nameIndex := 294, descriptorIndex := 25, attributes := #[] }])
  fields := #[{ name := "U", type := (.object "jdk/internal/misc/Unsafe"), accessFlags := 24, slot := 0, constantValue := 0 }, { name := "BIG_ENDIAN", type := .boolean, accessFlags := 26, slot := 1, constantValue := 0 }, { name := "LOG2_ARRAY_BOOLEAN_INDEX_SCALE", type := .int, accessFlags := 25, slot := 2, constantValue := 0 }, { name := "LOG2_ARRAY_BYTE_INDEX_SCALE", type := .int, accessFlags := 25, slot := 3, constantValue := 0 }, { name := "LOG2_ARRAY_CHAR_INDEX_SCALE", type := .int, accessFlags := 25, slot := 4, constantValue := 0 }, { name := "LOG2_ARRAY_SHORT_INDEX_SCALE", type := .int, accessFlags := 25, slot := 5, constantValue := 0 }, { name := "LOG2_ARRAY_INT_INDEX_SCALE", type := .int, accessFlags := 25, slot := 6, constantValue := 0 }, { name := "LOG2_ARRAY_LONG_INDEX_SCALE", type := .int, accessFlags := 25, slot := 7, constantValue := 0 }, { name := "LOG2_ARRAY_FLOAT_INDEX_SCALE", type := .int, accessFlags := 25, slot := 8, constantValue := 0 }, { name := "LOG2_ARRAY_DOUBLE_INDEX_SCALE", type := .int, accessFlags := 25, slot := 9, constantValue := 0 }, { name := "LOG2_BYTE_BIT_SIZE", type := .int, accessFlags := 26, slot := 10, constantValue := 0 }, { name := "T_BOOLEAN", type := .int, accessFlags := 25, slot := 11, constantValue := 0 }, { name := "T_CHAR", type := .int, accessFlags := 25, slot := 12, constantValue := 0 }, { name := "T_FLOAT", type := .int, accessFlags := 25, slot := 13, constantValue := 0 }, { name := "T_DOUBLE", type := .int, accessFlags := 25, slot := 14, constantValue := 0 }, { name := "T_BYTE", type := .int, accessFlags := 25, slot := 15, constantValue := 0 }, { name := "T_SHORT", type := .int, accessFlags := 25, slot := 16, constantValue := 0 }, { name := "T_INT", type := .int, accessFlags := 25, slot := 17, constantValue := 0 }, { name := "T_LONG", type := .int, accessFlags := 25, slot := 18, constantValue := 0 }, { name := "JLA", type := (.object "jdk/internal/access/JavaLangAccess"), accessFlags := 26, slot := 19, constantValue := 0 }, { name := "SOFT_MAX_ARRAY_LENGTH", type := .int, accessFlags := 25, slot := 20, constantValue := 0 }]
  methods := #[k12m0]
  instanceTypes := #[]
  staticTypes := #[(.object "jdk/internal/misc/Unsafe"), .boolean, .int, .int, .int, .int, .int, .int, .int, .int, .int, .int, .int, .int, .int, .int, .int, .int, .int, (.object "jdk/internal/access/JavaLangAccess"), .int]
  resolved := Array.replicate 378 none
  statics := none }

def pool13 : Array CpInfo := pool [(1, u "java/lang/Cloneable"), (0, .class_ 1), (0, u "java/lang/Object"), (0, .class_ 3)] 3

/-- java/lang/Cloneable -/
def k13 : Class := { plain "java/lang/Cloneable" (some 0) with
  accessFlags := 1537
  interfaces := #[]
  cf := some (fileOf pool13 2 #[] #[] 1537 4 #[] #[])
  fields := #[]
  methods := #[]
  instanceTypes := #[]
  staticTypes := #[]
  resolved := Array.replicate 8 none
  statics := none }

/-- the primitive byte -/
def k14 : Class := { plain "byte" none with kind := .primitive 'B', accessFlags := 0x411 }
/-- [B -/
def k15 : Class := { plain "[B" (some 0) with kind := .array 14 .byte, interfaces := #[13, 4], accessFlags := 1041 }

/-- the primitive int -/
def k16 : Class := { plain "int" none with kind := .primitive 'I', accessFlags := 0x411 }
/-- [I -/
def k17 : Class := { plain "[I" (some 0) with kind := .array 16 .int, interfaces := #[13, 4], accessFlags := 1041 }

/-- [Ljava/lang/String; -/
def k18 : Class := { plain "[Ljava/lang/String;" (some 0) with kind := .array 9 (.object "java/lang/String"), interfaces := #[13, 4], accessFlags := 1041 }

def heap : Heap := #[{ cls := 6, slots := #[.ref 8, .ref 9, .ref 10, .ref 11, .ref 12, .int 0, .null, .null, .null, .null], vm := .statics 6 },
  { cls := 9, slots := #[.long 0, .int 1, .null, .int 0, .null, .int 0, .int 0], vm := .statics 9 },
  { cls := 11, slots := #[.null, .null, .null], vm := .statics 11 },
  { cls := 18, slots := #[.ref 13], vm := .none },
  { cls := 18, slots := #[.ref 14], vm := .none },
  { cls := 18, slots := #[.ref 15], vm := .none },
  { cls := 18, slots := #[.ref 16, .ref 18], vm := .none },
  { cls := 18, slots := #[.ref 17, .ref 19], vm := .none },
  { cls := 6, slots := #[.null, .int 0, .int 0, .null, .ref 3], vm := .none },
  { cls := 6, slots := #[.null, .int 0, .int 0, .null, .ref 4], vm := .none },
  { cls := 6, slots := #[.null, .int 0, .int 0, .null, .ref 5], vm := .none },
  { cls := 6, slots := #[.null, .int 0, .int 0, .null, .ref 6], vm := .none },
  { cls := 6, slots := #[.null, .int 0, .int 0, .null, .ref 7], vm := .none },
  { cls := 9, slots := #[.ref 20, .int 0, .int 0, .int 0], vm := .none },
  { cls := 9, slots := #[.ref 21, .int 0, .int 0, .int 0], vm := .none },
  { cls := 9, slots := #[.ref 22, .int 0, .int 0, .int 0], vm := .none },
  { cls := 9, slots := #[.ref 23, .int 0, .int 0, .int 0], vm := .none },
  { cls := 9, slots := #[.ref 24, .int 0, .int 0, .int 0], vm := .none },
  { cls := 9, slots := #[.ref 25, .int 0, .int 0, .int 0], vm := .none },
  { cls := 9, slots := #[.ref 26, .int 0, .int 0, .int 0], vm := .none },
  { cls := 15, slots := #[.int 43], vm := .none },
  { cls := 15, slots := #[.int 45], vm := .none },
  { cls := 15, slots := #[.int 42], vm := .none },
  { cls := 15, slots := #[.int 47], vm := .none },
  { cls := 15, slots := #[.int 37], vm := .none },
  { cls := 15, slots := #[.int 68, .int 73, .int 86], vm := .none },
  { cls := 15, slots := #[.int 77, .int 79, .int 68], vm := .none }]
def classes : Array Class := #[k0, k1, k2, k3, k4, k5, k6, k7, k8, k9, k10, k11, k12, k13, k14, k15, k16, k17, k18]
def interned : List (Array UInt16 × Addr) := []
def slotsUsed : Nat := 91
def theMethod : MethodId := ⟨1, 1⟩
def args0 : Array Value := #[.int 5, .int 8]
def aboutOver (below : List Frame) : State where
  vm := { classes := classes, interned := interned.toArray }
  heap := heap
  slotsUsed := slotsUsed
  threads := #[{ frames := .invoking theMethod args0 :: below }]
def below0 : List Frame := [.native { method := ⟨0, 0⟩, args := #[] }]
def about1 : State := aboutOver below0
def p0 : Program := .bare "" "" ""
def e0 : Env := launch0.env 0 0 0
theorem w_frames : about1.frames = Frame.invoking theMethod args0 :: below0 := rfl
set_option maxRecDepth 65536 in
theorem w_args : argsFit about1.vm theMethod args0 = true := by decide +kernel
set_option maxRecDepth 65536 in
theorem w_heap : heapFits about1 = true := by decide +kernel
set_option maxRecDepth 65536 in
theorem w_runnable : about1.curStatus? = some .runnable := by decide +kernel
set_option maxRecDepth 65536 in
theorem w_alone : about1.alone = true := by decide +kernel
set_option maxRecDepth 65536 in
theorem w_named : about1.methodNamed? x = some theMethod := by decide +kernel
set_option maxRecDepth 65536 in
theorem w_hears : about1.hears theMethod below0 = true := by decide +kernel
set_option maxRecDepth 65536 in
theorem w_ripe : about1.ripe theMethod args0 below0 = true := by decide +kernel
theorem w_running : about1.status = .running := rfl
set_option maxRecDepth 65536 in
theorem w_room : about1.hasRoom e0.platform room_1 = true :=
  launch0.hasRoom_least _ room_1 (by decide +kernel) (by decide +kernel) (by decide +kernel) (by decide +kernel) (by decide +kernel) (by decide +kernel)
theorem allAtoms_all (ts : List Jvm.Cond) (a : Array Jvm.Value) (st : Jvm.State) : (allAtoms ts).before a st = ts.all (fun c => c.before a st) := by
  induction ts with
  | nil => rfl
  | cons c t ih =>
    show (Jvm.Cond.and c (allAtoms t)).before a st = _
    rw [Jvm.Cond.before_and, ih, List.all_cons]
def words1 : List Jvm.Cond := Jvm.Cond.code x code maxLocals ret :: tables_1
/-- a 'code' word, met by the world's own term for the bytes: nothing is compared byte by byte -/
theorem code_word {y : MethodName} {bytes : ByteArray} {mx : Nat} {rt : Option FieldType} {a : Array Value} {s : State} {m : MethodId} {meth : Method} {c : Code} (h1 : s.methodNamed? y = some m) (h2 : s.vm.method? m = some meth) (h3 : meth.code = some c) (h4 : c.code = bytes)
    (h5 : (c.maxLocals == mx && c.exceptionTable.isEmpty && decide (c.maxStack ≤ mostOperands) && decide (meth.sig.returnType = rt) && !meth.locks && decide (parseMethodDescriptor y.desc = some meth.sig)) = true) : (Jvm.Cond.code y bytes mx rt).before a s = true := by
  simp only [Bool.and_eq_true, beq_iff_eq, Bool.not_eq_true', decide_eq_true_eq] at h5
  obtain ⟨⟨⟨⟨⟨g1, g2⟩, g3⟩, g4⟩, g5⟩, g6⟩ := h5
  simp [Cond.before, Cond.holds, Cond.value, h1, h2, h3, h4, g1, g2, g3, g4, g5, g6]
def isCode : Jvm.Cond → Bool
  | .code _ _ _ _ => true
  | _ => false
theorem all_split {L : List Jvm.Cond} {P : Jvm.Cond → Bool} (h1 : L.all (fun c => isCode c || P c) = true) (h2 : ∀ c ∈ L.filter isCode, P c = true) : L.all P = true := by
  refine List.all_eq_true.mpr fun c hc => ?_
  have h := List.all_eq_true.mp h1 c hc
  rcases Bool.eq_false_or_eq_true (isCode c) with hi | hi
  · exact h2 c (List.mem_filter.mpr ⟨hc, hi⟩)
  · simpa [hi] using h
set_option maxRecDepth 65536 in
theorem w_c0 : (Jvm.Cond.code x code maxLocals ret).before args0 about1 = true := code_word (m := ⟨1, 1⟩) (meth := k1m1) (c := k1c1) (by decide +kernel) rfl rfl rfl (by decide +kernel)
set_option maxRecDepth 65536 in
theorem w_c1 : (Jvm.Cond.code ({ cls := "com/example/predicant/predicant/ArithmeticOperator", name := "symbol", desc := "()Ljava/lang/String;" } : Jvm.MethodName) prog_5_method_7_code (1 : Nat) (Option.some (Jvm.ClassFile.FieldType.object "java/lang/String"))).before args0 about1 = true := code_word (m := ⟨6, 1⟩) (meth := k6m1) (c := k6c1) (by decide +kernel) rfl rfl rfl (by decide +kernel)
set_option maxRecDepth 65536 in
theorem w_c2 : (Jvm.Cond.code ({ cls := "java/lang/String", name := "length", desc := "()I" } : Jvm.MethodName) jdk_42_method_54_code (1 : Nat) (Option.some Jvm.ClassFile.FieldType.int)).before args0 about1 = true := code_word (m := ⟨9, 1⟩) (meth := k9m1) (c := k9c1) (by decide +kernel) rfl rfl rfl (by decide +kernel)
set_option maxRecDepth 65536 in
theorem w_c3 : (Jvm.Cond.code ({ cls := "java/lang/String", name := "coder", desc := "()B" } : Jvm.MethodName) jdk_42_method_152_code (1 : Nat) (Option.some Jvm.ClassFile.FieldType.byte)).before args0 about1 = true := code_word (m := ⟨9, 3⟩) (meth := k9m3) (c := k9c3) (by decide +kernel) rfl rfl rfl (by decide +kernel)
set_option maxRecDepth 65536 in
theorem w_c4 : (Jvm.Cond.code ({ cls := "java/lang/String", name := "charAt", desc := "(I)C" } : Jvm.MethodName) jdk_42_method_56_code (2 : Nat) (Option.some Jvm.ClassFile.FieldType.char)).before args0 about1 = true := code_word (m := ⟨9, 2⟩) (meth := k9m2) (c := k9c2) (by decide +kernel) rfl rfl rfl (by decide +kernel)
set_option maxRecDepth 65536 in
theorem w_c5 : (Jvm.Cond.code ({ cls := "java/lang/String", name := "isLatin1", desc := "()Z" } : Jvm.MethodName) jdk_42_method_154_code (1 : Nat) (Option.some Jvm.ClassFile.FieldType.boolean)).before args0 about1 = true := code_word (m := ⟨9, 4⟩) (meth := k9m4) (c := k9c4) (by decide +kernel) rfl rfl rfl (by decide +kernel)
set_option maxRecDepth 65536 in
theorem w_c6 : (Jvm.Cond.code ({ cls := "java/lang/StringLatin1", name := "charAt", desc := "([BI)C" } : Jvm.MethodName) jdk_43_method_2_code (2 : Nat) (Option.some Jvm.ClassFile.FieldType.char)).before args0 about1 = true := code_word (m := ⟨10, 1⟩) (meth := k10m1) (c := k10c1) (by decide +kernel) rfl rfl rfl (by decide +kernel)
set_option maxRecDepth 65536 in
theorem w_c7 : (Jvm.Cond.code ({ cls := "java/lang/String", name := "checkIndex", desc := "(II)V" } : Jvm.MethodName) jdk_42_method_155_code (2 : Nat) (Option.none : Option Jvm.ClassFile.FieldType)).before args0 about1 = true := code_word (m := ⟨9, 5⟩) (meth := k9m5) (c := k9c5) (by decide +kernel) rfl rfl rfl (by decide +kernel)
set_option maxRecDepth 65536 in
theorem w_c8 : (Jvm.Cond.code ({ cls := "jdk/internal/util/Preconditions", name := "checkIndex", desc := "(IILjava/util/function/BiFunction;)I" } : Jvm.MethodName) jdk_41_method_11_code (3 : Nat) (Option.some Jvm.ClassFile.FieldType.int)).before args0 about1 = true := code_word (m := ⟨11, 1⟩) (meth := k11m1) (c := k11c1) (by decide +kernel) rfl rfl rfl (by decide +kernel)
set_option maxRecDepth 65536 in
theorem w_c9 : (Jvm.Cond.code ({ cls := "com/example/predicant/predicant/ArithmeticOperator", name := "isSymbol", desc := "(I)Z" } : Jvm.MethodName) prog_5_method_4_code (1 : Nat) (Option.some Jvm.ClassFile.FieldType.boolean)).before args0 about1 = true := code_word (m := ⟨6, 0⟩) (meth := k6m0) (c := k6c0) (by decide +kernel) rfl rfl rfl (by decide +kernel)
def codes1 : List Jvm.Cond := [Jvm.Cond.code x code maxLocals ret, Jvm.Cond.code ({ cls := "com/example/predicant/predicant/ArithmeticOperator", name := "symbol", desc := "()Ljava/lang/String;" } : Jvm.MethodName) prog_5_method_7_code (1 : Nat) (Option.some (Jvm.ClassFile.FieldType.object "java/lang/String")), Jvm.Cond.code ({ cls := "java/lang/String", name := "length", desc := "()I" } : Jvm.MethodName) jdk_42_method_54_code (1 : Nat) (Option.some Jvm.ClassFile.FieldType.int), Jvm.Cond.code ({ cls := "java/lang/String", name := "coder", desc := "()B" } : Jvm.MethodName) jdk_42_method_152_code (1 : Nat) (Option.some Jvm.ClassFile.FieldType.byte), Jvm.Cond.code ({ cls := "java/lang/String", name := "charAt", desc := "(I)C" } : Jvm.MethodName) jdk_42_method_56_code (2 : Nat) (Option.some Jvm.ClassFile.FieldType.char), Jvm.Cond.code ({ cls := "java/lang/String", name := "isLatin1", desc := "()Z" } : Jvm.MethodName) jdk_42_method_154_code (1 : Nat) (Option.some Jvm.ClassFile.FieldType.boolean), Jvm.Cond.code ({ cls := "java/lang/StringLatin1", name := "charAt", desc := "([BI)C" } : Jvm.MethodName) jdk_43_method_2_code (2 : Nat) (Option.some Jvm.ClassFile.FieldType.char), Jvm.Cond.code ({ cls := "java/lang/String", name := "checkIndex", desc := "(II)V" } : Jvm.MethodName) jdk_42_method_155_code (2 : Nat) (Option.none : Option Jvm.ClassFile.FieldType), Jvm.Cond.code ({ cls := "jdk/internal/util/Preconditions", name := "checkIndex", desc := "(IILjava/util/function/BiFunction;)I" } : Jvm.MethodName) jdk_41_method_11_code (3 : Nat) (Option.some Jvm.ClassFile.FieldType.int), Jvm.Cond.code ({ cls := "com/example/predicant/predicant/ArithmeticOperator", name := "isSymbol", desc := "(I)Z" } : Jvm.MethodName) prog_5_method_4_code (1 : Nat) (Option.some Jvm.ClassFile.FieldType.boolean)]
set_option maxRecDepth 65536 in
theorem codes_eq : words1.filter isCode = codes1 := rfl
theorem w_codes : ∀ c ∈ words1.filter isCode, c.before args0 about1 = true := by
  rw [codes_eq]
  intro c hc
  simp only [codes1, List.mem_cons, List.not_mem_nil, or_false] at hc
  rcases hc with rfl | rfl | rfl | rfl | rfl | rfl | rfl | rfl | rfl | rfl
  · exact w_c0
  · exact w_c1
  · exact w_c2
  · exact w_c3
  · exact w_c4
  · exact w_c5
  · exact w_c6
  · exact w_c7
  · exact w_c8
  · exact w_c9
set_option maxRecDepth 65536 in
theorem w_t1 : (words1.take 24).all (fun c => isCode c || c.before args0 about1) = true := by decide +kernel
set_option maxRecDepth 65536 in
theorem w_t2 : ((words1.drop 24).take 24).all (fun c => isCode c || c.before args0 about1) = true := by decide +kernel
set_option maxRecDepth 65536 in
theorem w_t3 : ((words1.drop 24).drop 24).all (fun c => isCode c || c.before args0 about1) = true := by decide +kernel
theorem w_tables : (allAtoms (Jvm.Cond.code x code maxLocals ret :: tables_1)).before args0 about1 = true := by
  rw [allAtoms_all]
  show words1.all (fun c => c.before args0 about1) = true
  refine all_split ?_ w_codes
  rw [← List.take_append_drop 24 words1, List.all_append, w_t1, ← List.take_append_drop 24 (words1.drop 24), List.all_append, w_t2, w_t3]
  rfl
set_option maxRecDepth 65536 in
theorem w_rest : rest_1_c.before args0 about1 = true := by decide +kernel
set_option maxRecDepth 65536 in
theorem w_case : (Jvm.Cond.and given_1 narrow_1).before args0 about1 = true := by decide +kernel
theorem w_applies : (headSpec (Jvm.Cond.code x code maxLocals ret :: tables_1) room_1).applies x e0.platform about1 = true :=
  (Spec.applies_iff w_frames).mpr ⟨w_running, w_runnable, w_alone, w_named, w_hears, w_ripe, w_room, w_tables⟩
theorem atStart : AtStart classFile x code maxLocals ret World_1 tables_1 room_1 Calls_1 rest_1 Pre_1 launch0 p0 e0 about1 theMethod args0 below0 :=
  ⟨lists_1, trivial, launch0.admits_env _ _ _, launch0.least_env, fairChoices_fair.cas, fairChoices_fair.clock, w_frames, w_args, w_heap, w_applies, trivial, w_rest, w_case⟩
end start1
theorem witness_1 : WitnessClaimed_1 := ⟨start1.p0, start1.e0, start1.about1, start1.theMethod, start1.args0, start1.below0, start1.atStart⟩
end Jvm.Pilot.@@N@@
