import JvmDerived
import JvmDerived.Pilot.@@N@@Statement
import JvmDerived.Pilot.@@N@@Code
set_option linter.unusedVariables false
set_option linter.unusedSimpArgs false
namespace Jvm.Pilot.@@N@@
open Jvm Jvm.ClassFile Sem Op Lib Jvm.Free Jvm.Stand Jvm.LawKit Jvm.RoadKit Bundle Jvm.Pilot.@@N@@.Jvm.D

/-! own kit: the walk goes forward, from state to state, to an end that the contract names -/
section OwnKit
variable {p : Program} {l : Launch} {e : Env} {R : Room} {s : State} {m : MethodId} {args : Array Value} {below : List Frame} {meth : Method} {c : Code} {T : State} {locs : List Loc} {cells slots : Nat} {Z : State} {a0 : Array Value} {h : Heap}
def own_Go (tb : Tables) (e : Env) (below : List Frame) (F : State → Outcome → Prop) (S : State) : Prop := ∃ t o, Steps tb e below S t ∧ F t o
theorem own_go {tb : Tables} {F : State → Outcome → Prop} {S S' : State} (k : ∀ t, Steps tb e below S' t → Steps tb e below S t) (q : own_Go tb e below F S') : own_Go tb e below F S := by
  obtain ⟨t, o, a, b⟩ := q; exact ⟨t, o, k t a, b⟩
theorem own_gt {tb : Tables} {F : State → Outcome → Prop} {S S' : State} (k : Steps tb e below S S') (q : own_Go tb e below F S') : own_Go tb e below F S := own_go (fun _ r => k.trans r) q
def own_Fin (s : State) (below : List Frame) (Q : Option Value → Heap → List Loc → Prop) (nc ns : Nat) (t : State) (o : Outcome) : Prop :=
  t.status = .running ∧ Ended t below o ∧ ∃ v L, o = .returned v ∧ Q v t.heap L ∧ FrameEnd s o t L nc ns
def own_Met (l : Launch) (y : MethodName) (ws : List Jvm.Cond) (rm : Room) (Z : State) (h : Heap) (as : Array Value) (Q : Option Value → Heap → List Loc → Prop) : Prop :=
  MetFree l y (head1 ws rm) (fun a U => a = as ∧ Z.Warmed39 U.vm ∧ U.heap = h) (fun _ _ _ _ _ => True) (fun _ U o U' => ∃ v L, o = .returned v ∧ Q v U'.heap L ∧ FrameEnd U o U' L rm.cells rm.slots)
theorem own_body {y : MethodName} {bytes : ByteArray} {mx : Nat} {rt : Option FieldType} {rm : Room} {ws : List Jvm.Cond} {as : Array Value} {Q : Option Value → Heap → List Loc → Prop} (pn : plainName y.cls = true)
    (H : ∀ (p : Program) (e : Env) (s : State) (m : MethodId) (below : List Frame) (meth : Method) (c : Code) (s₁ : State), p.tables.exec = Jvm.exec → c.code = bytes → c.maxLocals = mx → s.vm.findClass y.cls = some m.cls → meth.name = y.name → meth.sig.returnType = rt → meth.locks = false → Z.Warmed39 s.vm →
      Stand p l e rm s m as below meth c s₁ [] 0 0 → s₁.heap = h → own_Go p.tables e below (own_Fin s below Q rm.cells rm.slots) (s₁.setTop (entryFrame m as mx))) :
    own_Met l y (Jvm.Cond.code y bytes mx rt :: ws) rm Z h as Q := by
  refine MetFree.of_bodySF (plainFor_of_name pn) hisR ?_
  intro p e s m args below meth c s₁ Bd hml hP hK
  obtain ⟨rfl, hZ, hh⟩ := hP
  exact H p e s m below meth c s₁ Bd.exec Bd.bytes hml (findClass_of_methodNamed Bd.named) (name_of_methodNamed Bd.named Bd.method).1 Bd.returns Bd.notSynchronized hZ (Stand.of_body Bd) (by rw [← hh, Bd.state]; rfl)
theorem own_end (X : Stand p l e R s m args below meth c T locs cells slots) {v : Option Value} {g : JFrame} {Q : Option Value → Heap → List Loc → Prop} {nc ns : Nat} (hlk : meth.locks = false) (hv : meth.sig.returnType = none → v = none)
    (st : ∀ fs, (∀ (f : JFrame) (acts : List Action), f.method = m → f.locked = none → f.entered = [] → (doReturn e (T.setTop f) acts v).1 = T.setFrames fs) → Steps p.tables e below (T.setTop g) (T.setFrames fs)) (hQ : Q v T.heap locs) (h1 : cells ≤ nc) (h2 : slots ≤ ns) :
    own_Go p.tables e below (own_Fin s below Q nc ns) (T.setTop g) := by
  obtain ⟨fs, hr, hrun, hended, hW, hsame⟩ := X.leave (v := v) hv hlk
  exact ⟨_, _, st fs hr, hrun, hended, _, _, rfl, hQ, ⟨_, rfl⟩, hW, hsame.mono h1 h2⟩
theorem own_retI (X : Stand p l e R s m args below meth c T locs cells slots) (hx : p.tables.exec = Jvm.exec) {pc : Nat} {Ls : Array Slot} {z : Int32} {t : FieldType} {rest : List Value} {Q : Option Value → Heap → List Loc → Prop} {nc ns : Nat} (hlk : meth.locks = false) (hret : meth.sig.returnType = some t) (ht : t = .int ∨ t = .boolean ∨ t = .byte ∨ t = .char ∨ t = .short) (hn : narrow t (.int z) = .int z)
    (hd : decode c.code pc = .ok (.ireturn, 1)) (hQ : Q (some (.int z)) T.heap locs) (h1 : cells ≤ nc) (h2 : slots ≤ ns) : own_Go p.tables e below (own_Fin s below Q nc ns) (T.setTop (mkF m pc Ls (.int z :: rest))) :=
  own_end X hlk (fun q => by rw [hret] at q; cases q) (fun fs hr => retOut X hx hret hn (Or.inl ⟨rfl, ht, _, rfl⟩) hd hr) hQ h1 h2
theorem own_retJ (X : Stand p l e R s m args below meth c T locs cells slots) (hx : p.tables.exec = Jvm.exec) {pc : Nat} {Ls : Array Slot} {z : Int64} {rest : List Value} {Q : Option Value → Heap → List Loc → Prop} {nc ns : Nat} (hlk : meth.locks = false) (hret : meth.sig.returnType = some .long)
    (hd : decode c.code pc = .ok (.lreturn, 1)) (hQ : Q (some (.long z)) T.heap locs) (h1 : cells ≤ nc) (h2 : slots ≤ ns) : own_Go p.tables e below (own_Fin s below Q nc ns) (T.setTop (mkF m pc Ls (.long z :: rest))) :=
  own_end X hlk (fun q => by rw [hret] at q; cases q) (fun fs hr => retOut X hx hret rfl (Or.inr (Or.inl ⟨rfl, rfl, _, rfl⟩)) hd hr) hQ h1 h2
theorem own_retA (X : Stand p l e R s m args below meth c T locs cells slots) (hx : p.tables.exec = Jvm.exec) {pc : Nat} {Ls : Array Slot} {w : Value} {t : FieldType} {rest : List Value} {Q : Option Value → Heap → List Loc → Prop} {nc ns : Nat} (hlk : meth.locks = false) (hret : meth.sig.returnType = some t) (ht : t.isReference = true) (hw : w.isRef = true)
    (hd : decode c.code pc = .ok (.areturn, 1)) (hQ : Q (some w) T.heap locs) (h1 : cells ≤ nc) (h2 : slots ≤ ns) : own_Go p.tables e below (own_Fin s below Q nc ns) (T.setTop (mkF m pc Ls (w :: rest))) :=
  own_end X hlk (fun q => by rw [hret] at q; cases q) (fun fs hr => retOut X hx hret (by cases t <;> first | (cases ht; done) | (cases w <;> first | rfl | cases hw)) (Or.inr (Or.inr (Or.inr (Or.inr ⟨rfl, ht, hw⟩)))) hd hr) hQ h1 h2
theorem own_retV (X : Stand p l e R s m args below meth c T locs cells slots) (hx : p.tables.exec = Jvm.exec) {pc : Nat} {Ls : Array Slot} {Q : Option Value → Heap → List Loc → Prop} {nc ns : Nat} (hlk : meth.locks = false) (hret : meth.sig.returnType = none)
    (hd : decode c.code pc = .ok (.return_, 1)) (hQ : Q none T.heap locs) (h1 : cells ≤ nc) (h2 : slots ≤ ns) : own_Go p.tables e below (own_Fin s below Q nc ns) (T.setTop (mkF m pc Ls [])) :=
  own_end X hlk (fun _ => rfl) (fun fs hr => X.returnOut hx hret hd hr) hQ h1 h2
theorem own_callS (X : Stand p l e R s m args below meth c T locs cells slots) (hx : p.tables.exec = Jvm.exec) (hZ : Z.Warmed39 s.vm) {own : String} {index : Nat} {y : MethodName} {bytes : ByteArray} {mx : Nat} {rt : Option FieldType} {rm : Room} {W pc : Nat} {Ls : Array Slot} {St argsL rest : List Value} {Q : Option Value → Heap → List Loc → Prop} {F : State → Outcome → Prop}
    (hown : s.vm.findClass own = some m.cls) (w1 : (Jvm.Cond.methodLink own index y).before a0 Z = true) (w2 : (Jvm.Cond.static y).before a0 Z = true) (w3 : (Jvm.Cond.initialized y.cls).before a0 Z = true) (w4 : (Jvm.Cond.code y bytes mx rt).before a0 Z = true)
    (hy : y.cls ≠ "java/lang/invoke/MethodHandle" ∧ y.cls ≠ "java/lang/invoke/VarHandle") (M : own_Met l y [Jvm.Cond.code y bytes mx rt] rm Z h argsL.toArray Q) (eT : T.heap = h) (hf : rm.frames + 1 ≤ R.frames) (hl : W + (mx + 11) + rm.locals ≤ R.locals) (hc : cells + rm.cells ≤ R.cells) (hs : slots + rm.slots ≤ R.slots)
    (hsz : Ls.size = c.maxLocals) (hlen : ∀ sig, parseMethodDescriptor y.desc = some sig → argsL.length = sig.parameters.length) (hst : St = argsL.reverse ++ rest) (hW : (rest.map fun v => v.category).sum ≤ W) (hd : decode c.code pc = .ok (.invokestatic index, 3))
    (K : ∀ v T' L, Stand p l e R s m args below meth c T' (locs ++ L) (cells + rm.cells) (slots + rm.slots) → Q v T'.heap L → own_Go p.tables e below F (T'.setTop (mkF m (pc + 3) Ls (v.toList ++ rest)))) :
    own_Go p.tables e below F (T.setTop (mkF m pc Ls St)) := by
  obtain ⟨v, _, ⟨T', L', k', n'⟩, -, X', ⟨L, hQ, l1, l2, l3⟩, st⟩ := Jvm.LawKit.callS X hx (y := y) hown (mvT hZ w1) (mvT hZ w2) (mvT hZ w3) (mvT hZ w4) hy (backOf (W := W) M hZ w4 w3 hf hl) (g := mkF m pc Ls St) rfl hsz (argsL := argsL) (rest := rest) hlen hst (by show 2 * 0 + _ ≤ _; rw [Nat.mul_zero, Nat.zero_add]; exact hW) hd (fun _ _ => ⟨rfl, eT, hc, hs⟩)
  dsimp only [Pt.U, Pt.locs, Pt.cells, Pt.slots] at X' l1 l2 l3 st hQ
  subst l1 l2 l3
  exact own_go st (K v T' L X' hQ)
theorem own_callV (X : Stand p l e R s m args below meth c T locs cells slots) (hx : p.tables.exec = Jvm.exec) (hZ : Z.Warmed39 s.vm) {own C : String} {index : Nat} {z : MethodName} {bytes : ByteArray} {mx : Nat} {rt : Option FieldType} {rm : Room} {W pc : Nat} {Ls : Array Slot} {a : Addr} {St argsL rest : List Value} {Q : Option Value → Heap → List Loc → Prop} {F : State → Outcome → Prop}
    (hown : s.vm.findClass own = some m.cls) (w1 : (Jvm.Cond.methodLink own index z).before a0 Z = true) (w2 : (Jvm.Cond.declares z).before a0 Z = true) (w3 : (Jvm.Cond.selects C z z).before a0 Z = true) (w4 : (Jvm.Cond.instanceMethod z).before a0 Z = true) (w5 : (Jvm.Cond.code z bytes mx rt).before a0 Z = true) (w6 : (Jvm.Cond.initialized z.cls).before a0 Z = true)
    (hy : z.cls ≠ "java/lang/invoke/MethodHandle" ∧ z.cls ≠ "java/lang/invoke/VarHandle") (E : Exa Z h a C) (M : own_Met l z [Jvm.Cond.code z bytes mx rt] rm Z h (.ref a :: argsL).toArray Q) (eT : T.heap = h) (hf : rm.frames + 1 ≤ R.frames) (hl : W + (mx + 11) + rm.locals ≤ R.locals) (hc : cells + rm.cells ≤ R.cells) (hs : slots + rm.slots ≤ R.slots)
    (hsz : Ls.size = c.maxLocals) (hlen : ∀ sig, parseMethodDescriptor z.desc = some sig → argsL.length = sig.parameters.length) (hst : St = argsL.reverse ++ .ref a :: rest) (hW : (rest.map fun v => v.category).sum ≤ W) (hd : decode c.code pc = .ok (.invokevirtual index, 3))
    (K : ∀ v T' L, Stand p l e R s m args below meth c T' (locs ++ L) (cells + rm.cells) (slots + rm.slots) → Q v T'.heap L → own_Go p.tables e below F (T'.setTop (mkF m (pc + 3) Ls (v.toList ++ rest)))) :
    own_Go p.tables e below F (T.setTop (mkF m pc Ls St)) := by
  obtain ⟨cq, kq, q1, q2, q3⟩ := isOf hZ eT E
  obtain ⟨v, _, ⟨T', L', k', n'⟩, -, X', ⟨L, hQ, l1, l2, l3⟩, st⟩ := X.virtualBack hx (y := z) (z := z) hown (mvT hZ w1) (mvT hZ w2) (notFace_of_selects (args := #[]) (mvT hZ w3)) (mvT hZ w3) (mvT hZ w4) hy (backOf (W := W) M hZ w5 w6 hf hl) q1 q3 (g := mkF m pc Ls St) rfl hsz (Steps.refl _) (argsL := argsL) (rest := rest) hlen hst (by show 2 * 0 + _ ≤ _; rw [Nat.mul_zero, Nat.zero_add]; exact hW) hd (fun _ _ => ⟨rfl, eT, hc, hs⟩)
  dsimp only [Pt.U, Pt.locs, Pt.cells, Pt.slots] at X' l1 l2 l3 st hQ
  subst l1 l2 l3
  exact own_gt st (K v T' L X' hQ)
theorem own_callI (X : Stand p l e R s m args below meth c T locs cells slots) (hx : p.tables.exec = Jvm.exec) (hZ : Z.Warmed39 s.vm) {own : String} {index : Nat} {y : MethodName} {bytes : ByteArray} {mx : Nat} {rm : Room} {W pc : Nat} {Ls : Array Slot} {a : Addr} {St argsL rest : List Value} {Q : Option Value → Heap → List Loc → Prop} {F : State → Outcome → Prop}
    (hown : s.vm.findClass own = some m.cls) (w1 : (Jvm.Cond.methodLink own index y).before a0 Z = true) (w2 : (Jvm.Cond.instanceMethod y).before a0 Z = true) (w3 : (Jvm.Cond.code y bytes mx none).before a0 Z = true) (w4 : (Jvm.Cond.initialized y.cls).before a0 Z = true) (hi : y.name = "<init>")
    (hy : y.cls ≠ "java/lang/invoke/MethodHandle" ∧ y.cls ≠ "java/lang/invoke/VarHandle") (M : own_Met l y [Jvm.Cond.code y bytes mx none] rm Z h (.ref a :: argsL).toArray Q) (eT : T.heap = h) (hf : rm.frames + 1 ≤ R.frames) (hl : W + (mx + 11) + rm.locals ≤ R.locals) (hc : cells + rm.cells ≤ R.cells) (hs : slots + rm.slots ≤ R.slots)
    (hsz : Ls.size = c.maxLocals) (hlen : ∀ sig, parseMethodDescriptor y.desc = some sig → argsL.length = sig.parameters.length) (hst : St = argsL.reverse ++ .ref a :: rest) (hW : (rest.map fun v => v.category).sum ≤ W) (hd : decode c.code pc = .ok (.invokespecial index, 3))
    (K : ∀ v T' L, Stand p l e R s m args below meth c T' (locs ++ L) (cells + rm.cells) (slots + rm.slots) → Q v T'.heap L → own_Go p.tables e below F (T'.setTop (mkF m (pc + 3) Ls (v.toList ++ rest)))) :
    own_Go p.tables e below F (T.setTop (mkF m pc Ls St)) := by
  obtain ⟨v, _, ⟨T', L', k', n'⟩, -, X', ⟨L, hQ, l1, l2, l3⟩, st⟩ := X.specialBack hx (y := y) hi hown (mvT hZ w1) (mvT hZ w2) (mvT hZ w3) hy (backOf (W := W) M hZ w3 w4 hf hl) (g := mkF m pc Ls St) rfl hsz (Steps.refl _) (a := a) (argsL := argsL) (rest := rest) hlen hst (by show 2 * 0 + _ ≤ _; rw [Nat.mul_zero, Nat.zero_add]; exact hW) hd (fun _ _ => ⟨rfl, eT, hc, hs⟩)
  dsimp only [Pt.U, Pt.locs, Pt.cells, Pt.slots] at X' l1 l2 l3 st hQ
  subst l1 l2 l3
  exact own_gt st (K v T' L X' hQ)
end OwnKit

/-! own kit 2: arrays by a function of the place -/
section OwnKit2
variable {p : Program} {l : Launch} {e : Env} {R : Room} {s : State} {m : MethodId} {args : Array Value} {below : List Frame} {meth : Method} {c : Code} {T : State} {locs : List Loc} {cells slots : Nat} {Z : State} {a0 : Array Value} {h h' : Heap} {a b : Addr} {k : ClassId} {ty : FieldType} {n i : Nat} {f f' : Nat → Value} {v : Value} {j : Int32} {pc : Nat} {Ls : Array Slot} {rest : List Value} {F : State → Outcome → Prop}
def own_Av (Z : State) (h : Heap) (a : Addr) (k : ClassId) (ty : FieldType) (n : Nat) (f : Nat → Value) : Prop := ∃ cl : Cell, Arr Z h a cl ty ∧ cl.cls = k ∧ cl.slots.size = n ∧ ∀ j, j < n → cl.slots[j]? = some (f j)
theorem own_Av.lt (V : own_Av Z h a k ty n f) : a < h.size := by obtain ⟨cl, A, -⟩ := V; exact A.lt
theorem own_Av.ext (E : Ext h h') (V : own_Av Z h a k ty n f) : own_Av Z h' a k ty n f := by obtain ⟨cl, A, r⟩ := V; exact ⟨cl, A.ext E, r⟩
theorem own_Av.other {sl : Nat} (W : Wr h h' b sl v) (V : own_Av Z h a k ty n f) (q : a ≠ b) : own_Av Z h' a k ty n f := by obtain ⟨cl, A, r⟩ := V; exact ⟨cl, A.other W q, r⟩
theorem own_Av.keep {ws : List Addr} (V : own_Av Z h a k ty n f) (K : Keep h h' ws) (q : a ∉ ws) : own_Av Z h' a k ty n f := by obtain ⟨cl, A, r⟩ := V; exact ⟨cl, ⟨K.2.1 a cl A.1 q, A.2⟩, r⟩
theorem own_Av.congr (V : own_Av Z h a k ty n f) (q : ∀ j, j < n → f j = f' j) : own_Av Z h a k ty n f' := by obtain ⟨cl, A, r1, r2, r3⟩ := V; exact ⟨cl, A, r1, r2, fun j hj => by rw [r3 j hj, q j hj]⟩
theorem own_Av.new {z : Int32} (A : Arr Z h a (newA k ty z) ty) (q : z.toNatClampNeg = n) : own_Av Z h a k ty n (fun _ => defaultValue ty) := ⟨_, A, rfl, (sz_new _ _ _).trans q, fun j hj => by simp [newA, q, hj]⟩
theorem own_Av.set (V : own_Av Z h a k ty n f) (W : Wr h h' a i v) (hi : i < n) : own_Av Z h' a k ty n (fun x => if x = i then v else f x) := by
  obtain ⟨cl, A, r1, r2, r3⟩ := V
  refine ⟨cl.setSlot i v, Arr.same W A, r1, (sz_set _ _ _).trans r2, fun x hx => ?_⟩
  by_cases q : x = i
  · subst q; show (cl.setSlot x v).slots[x]? = some (if x = x then v else f x); rw [if_pos rfl]; simp [Cell.setSlot, r2, hi]
  · show (cl.setSlot i v).slots[x]? = some (if x = i then v else f x); rw [if_neg q, ← r3 x hx]; exact Array.getElem?_setIfInBounds_ne (Ne.symm q)
theorem own_in (r : i < n) (hj : ¬ j < 0) (hi : j.toNatClampNeg = i) {cl : Cell} (S : cl.slots.size = n) : ¬ (j < 0 ∨ cl.slots.size ≤ j.toNatClampNeg) := fun q => q.elim hj fun q => by omega
theorem own_alen (X : Stand p l e R s m args below meth c T locs cells slots) (hx : p.tables.exec = Jvm.exec) (hZ : Z.Warmed39 s.vm) (eT : T.heap = h) (V : own_Av Z h a k ty n f) (z : Int32) (hz : n.toInt32 = z) (hd : decode c.code pc = .ok (.arraylength, 1))
    (q : own_Go p.tables e below F (T.setTop (mkF m (pc + 1) Ls (.int z :: rest)))) : own_Go p.tables e below F (T.setTop (mkF m pc Ls (.ref a :: rest))) := by
  obtain ⟨cl, A, r1, r2, r3⟩ := V
  subst hz r2
  exact own_go (fun t k => X.arraylength hx (by rw [eT]; exact A.1) (State.isArrayOf_alike hZ.alike A.2.1) (g := mkF m pc Ls (.ref a :: rest)) rfl rfl hd t k) q
theorem own_bald (X : Stand p l e R s m args below meth c T locs cells slots) (hx : p.tables.exec = Jvm.exec) (hZ : Z.Warmed39 s.vm) (eT : T.heap = h) (V : own_Av Z h a k .byte n f) (i : Nat) (hj : ¬ j < 0) (hi : j.toNatClampNeg = i) (r : i < n) {w : Value} (hw : f i = w) (hd : decode c.code pc = .ok (.baload, 1))
    (q : own_Go p.tables e below F (T.setTop (mkF m (pc + 1) Ls (w :: rest)))) : own_Go p.tables e below F (T.setTop (mkF m pc Ls (.int j :: .ref a :: rest))) := by
  obtain ⟨cl, A, r1, r2, r3⟩ := V
  subst hw
  exact own_go (fun t k => X.baloadBytes hx (by rw [eT]; exact A.1) (State.isArrayOf_alike hZ.alike A.2.1) A.2.2 (own_in r hj hi r2) (by rw [hi]; exact r3 i r) (g := mkF m pc Ls (.int j :: .ref a :: rest)) rfl rfl hd t k) q
theorem own_iald (X : Stand p l e R s m args below meth c T locs cells slots) (hx : p.tables.exec = Jvm.exec) (hZ : Z.Warmed39 s.vm) (eT : T.heap = h) (V : own_Av Z h a k .int n f) (i : Nat) (hj : ¬ j < 0) (hi : j.toNatClampNeg = i) (r : i < n) {w : Value} (hw : f i = w) (hd : decode c.code pc = .ok (.iaload, 1))
    (q : own_Go p.tables e below F (T.setTop (mkF m (pc + 1) Ls (w :: rest)))) : own_Go p.tables e below F (T.setTop (mkF m pc Ls (.int j :: .ref a :: rest))) := by
  obtain ⟨cl, A, r1, r2, r3⟩ := V
  subst hw
  exact own_go (fun t k => X.iaload hx (by rw [eT]; exact A.1) (State.isArrayOf_alike hZ.alike A.2.1) A.2.2 (own_in r hj hi r2) (by rw [hi]; exact r3 i r) (g := mkF m pc Ls (.int j :: .ref a :: rest)) rfl rfl hd t k) q
theorem own_lald (X : Stand p l e R s m args below meth c T locs cells slots) (hx : p.tables.exec = Jvm.exec) (hZ : Z.Warmed39 s.vm) (eT : T.heap = h) (V : own_Av Z h a k .long n f) (i : Nat) (hj : ¬ j < 0) (hi : j.toNatClampNeg = i) (r : i < n) {w : Value} (hw : f i = w) (hd : decode c.code pc = .ok (.laload, 1))
    (q : own_Go p.tables e below F (T.setTop (mkF m (pc + 1) Ls (w :: rest)))) : own_Go p.tables e below F (T.setTop (mkF m pc Ls (.int j :: .ref a :: rest))) := by
  obtain ⟨cl, A, r1, r2, r3⟩ := V
  subst hw
  exact own_go (fun t k => X.laload hx (by rw [eT]; exact A.1) (State.isArrayOf_alike hZ.alike A.2.1) A.2.2 (own_in r hj hi r2) (by rw [hi]; exact r3 i r) (g := mkF m pc Ls (.int j :: .ref a :: rest)) rfl rfl hd t k) q
theorem own_aald (X : Stand p l e R s m args below meth c T locs cells slots) (hx : p.tables.exec = Jvm.exec) (hZ : Z.Warmed39 s.vm) (eT : T.heap = h) (V : own_Av Z h a k ty n f) (hty : ty.isReference = true) (i : Nat) (hj : ¬ j < 0) (hi : j.toNatClampNeg = i) (r : i < n) {w : Value} (hw : f i = w) (hd : decode c.code pc = .ok (.aaload, 1))
    (q : own_Go p.tables e below F (T.setTop (mkF m (pc + 1) Ls (w :: rest)))) : own_Go p.tables e below F (T.setTop (mkF m pc Ls (.int j :: .ref a :: rest))) := by
  obtain ⟨cl, A, r1, r2, r3⟩ := V
  subst hw
  exact own_go (fun t k => X.aaload hx (by rw [eT]; exact A.1) (State.isArrayOf_alike hZ.alike A.2.1) hty A.2.2 (own_in r hj hi r2) (by rw [hi]; exact r3 i r) (g := mkF m pc Ls (.int j :: .ref a :: rest)) rfl rfl hd t k) q
theorem own_bast (X : Stand p l e R s m args below meth c T locs cells slots) (hx : p.tables.exec = Jvm.exec) (hZ : Z.Warmed39 s.vm) (eT : T.heap = h) (V : own_Av Z h a k .byte n f) (i : Nat) {x : Int32} (hj : ¬ j < 0) (hi : j.toNatClampNeg = i) (r : i < n) (hd : decode c.code pc = .ok (.bastore, 1))
    (q : ∀ T' h', Stand p l e R s m args below meth c T' (locs ++ [⟨a, i⟩]) cells slots → T'.heap = h' → Wr h h' a i (.int x.toInt8.toInt32) → own_Go p.tables e below F (T'.setTop (mkF m (pc + 1) Ls rest))) : own_Go p.tables e below F (T.setTop (mkF m pc Ls (.int x :: .int j :: .ref a :: rest))) := by
  obtain ⟨cl, A, r1, r2, r3⟩ := V
  obtain ⟨T', h', X', e', W, st⟩ := stB X hx hZ eT A (own_in r hj hi r2) (g := mkF m pc Ls (.int x :: .int j :: .ref a :: rest)) rfl rfl hd
  rw [hi] at X' W
  exact own_go st (q T' h' X' e' W)
theorem own_iast (X : Stand p l e R s m args below meth c T locs cells slots) (hx : p.tables.exec = Jvm.exec) (hZ : Z.Warmed39 s.vm) (eT : T.heap = h) (V : own_Av Z h a k .int n f) (i : Nat) {x : Int32} (hj : ¬ j < 0) (hi : j.toNatClampNeg = i) (r : i < n) (hd : decode c.code pc = .ok (.iastore, 1))
    (q : ∀ T' h', Stand p l e R s m args below meth c T' (locs ++ [⟨a, i⟩]) cells slots → T'.heap = h' → Wr h h' a i (.int x) → own_Go p.tables e below F (T'.setTop (mkF m (pc + 1) Ls rest))) : own_Go p.tables e below F (T.setTop (mkF m pc Ls (.int x :: .int j :: .ref a :: rest))) := by
  obtain ⟨cl, A, r1, r2, r3⟩ := V
  obtain ⟨T', h', X', e', W, st⟩ := stI X hx hZ eT A (own_in r hj hi r2) (g := mkF m pc Ls (.int x :: .int j :: .ref a :: rest)) rfl rfl hd
  rw [hi] at X' W
  exact own_go st (q T' h' X' e' W)
theorem own_last (X : Stand p l e R s m args below meth c T locs cells slots) (hx : p.tables.exec = Jvm.exec) (hZ : Z.Warmed39 s.vm) (eT : T.heap = h) (V : own_Av Z h a k .long n f) (i : Nat) {x : Int64} (hj : ¬ j < 0) (hi : j.toNatClampNeg = i) (r : i < n) (hd : decode c.code pc = .ok (.lastore, 1))
    (q : ∀ T' h', Stand p l e R s m args below meth c T' (locs ++ [⟨a, i⟩]) cells slots → T'.heap = h' → Wr h h' a i (.long x) → own_Go p.tables e below F (T'.setTop (mkF m (pc + 1) Ls rest))) : own_Go p.tables e below F (T.setTop (mkF m pc Ls (.long x :: .int j :: .ref a :: rest))) := by
  obtain ⟨cl, A, r1, r2, r3⟩ := V
  obtain ⟨T', h', X', e', W, st⟩ := stJ X hx hZ eT A (own_in r hj hi r2) (g := mkF m pc Ls (.long x :: .int j :: .ref a :: rest)) rfl rfl hd
  rw [hi] at X' W
  exact own_go st (q T' h' X' e' W)
theorem own_aast (X : Stand p l e R s m args below meth c T locs cells slots) (hx : p.tables.exec = Jvm.exec) (hZ : Z.Warmed39 s.vm) (eT : T.heap = h) (V : own_Av Z h a k ty n f) (hty : ty.isReference = true) (S : Sto Z h a v) (i : Nat) (hj : ¬ j < 0) (hi : j.toNatClampNeg = i) (r : i < n) (hd : decode c.code pc = .ok (.aastore, 1))
    (q : ∀ T' h', Stand p l e R s m args below meth c T' (locs ++ [⟨a, i⟩]) cells slots → T'.heap = h' → Wr h h' a i v → own_Go p.tables e below F (T'.setTop (mkF m (pc + 1) Ls rest))) : own_Go p.tables e below F (T.setTop (mkF m pc Ls (v :: .int j :: .ref a :: rest))) := by
  obtain ⟨cl, A, r1, r2, r3⟩ := V
  obtain ⟨T', h', X', e', W, st⟩ := stR X hx hZ eT A (own_in r hj hi r2) hty S (g := mkF m pc Ls (v :: .int j :: .ref a :: rest)) rfl rfl hd
  rw [hi] at X' W
  exact own_go st (q T' h' X' e' W)
end OwnKit2

def own_Rl (Z : State) (h : Heap) (a : Addr) (ve : Value) (k : Int32) : Prop := Exa Z h a "com/example/drawtree/drawtree/RectList" ∧ Fld Z h a "com/example/drawtree/drawtree/RectList" "edges" "[I" ve ∧ Fld Z h a "com/example/drawtree/drawtree/RectList" "size" "I" (.int k)
def own_set (g : Nat → Int32) (n : Nat) (l t r b : Int32) : Nat → Int32 := fun y => if y = 4 * n + 3 then b else if y = 4 * n + 2 then r else if y = 4 * n + 1 then t else if y = 4 * n then l else g y
def own_kk (k : Int32) : Nat := if k = 0 then 0 else if k = 1 then 1 else if k = 2 then 2 else 3
theorem own_set0 (g : Nat → Int32) (n : Nat) (l t r b : Int32) : own_set g n l t r b (4 * n) = l := by
  unfold own_set; rw [if_neg (by omega), if_neg (by omega), if_neg (by omega), if_pos rfl]
theorem own_set1 (g : Nat → Int32) (n : Nat) (l t r b : Int32) : own_set g n l t r b (4 * n + 1) = t := by
  unfold own_set; rw [if_neg (by omega), if_neg (by omega), if_pos rfl]
theorem own_set2 (g : Nat → Int32) (n : Nat) (l t r b : Int32) : own_set g n l t r b (4 * n + 2) = r := by
  unfold own_set; rw [if_neg (by omega), if_pos rfl]
theorem own_set3 (g : Nat → Int32) (n : Nat) (l t r b : Int32) : own_set g n l t r b (4 * n + 3) = b := by
  unfold own_set; rw [if_pos rfl]
theorem own_setn (g : Nat → Int32) (n m q : Nat) (l t r b : Int32) (hn : m ≠ n) (hq : q < 4) : own_set g n l t r b (4 * m + q) = g (4 * m + q) := by
  unfold own_set; rw [if_neg (by omega), if_neg (by omega), if_neg (by omega), if_neg (by omega)]
theorem own_kklt (k : Int32) : own_kk k < 4 := by
  unfold own_kk
  split
  · decide
  · split
    · decide
    · split <;> decide
theorem own_ix (z : Int32) (n : Nat) (q : z.toInt = n) : ¬ z < 0 ∧ z.toNatClampNeg = n := by
  have e : z.toNatClampNeg = z.toInt.toNat := rfl
  refine ⟨fun r => ?_, by rw [e]; omega⟩
  rw [Int32.lt_iff_toInt_lt] at r
  have l : (0 : Int32).toInt = 0 := by decide
  omega
theorem own_m4 (i : Int32) (n : Nat) (hi : i.toInt = n) (hn : n < 4) : (4 * i).toInt = ((4 * n : Nat) : Int) := by
  have a := c_imul 4 i
  have l : (4 : Int32).toInt = 4 := by decide
  rw [l, hi] at a
  have r := rng32 (4 * i)
  omega
theorem own_a4 (i d : Int32) (n j : Nat) (hi : i.toInt = n) (hn : n < 4) (hd : d.toInt = j) (hj : j < 4) : (4 * i + d).toInt = ((4 * n + j : Nat) : Int) := by
  have a := c_iadd (4 * i) d
  have b := own_m4 i n hi hn
  have r := rng32 (4 * i + d)
  omega
theorem own_up (k : Int32) (n : Nat) (hk : k.toInt = n) (hn : n < 4) : (k + 1).toInt = ((n + 1 : Nat) : Int) := by
  have a := c_iadd k 1
  have l : (1 : Int32).toInt = 1 := by decide
  rw [l] at a
  have r := rng32 (k + 1)
  omega
theorem own_ud (k : Int32) (n : Nat) (hk : k.toInt = n) (hn : n < 4) : (k + 1 - 1).toInt = (n : Int) := by
  have a := c_isub (k + 1) 1
  have l : (1 : Int32).toInt = 1 := by decide
  rw [l, own_up k n hk hn] at a
  have r := rng32 (k + 1 - 1)
  omega
theorem own_n16 (k : Int32) (n : Nat) (hk : k.toInt = n) (hn : n < 4) : ¬ 4 * k = 16 := by
  have a := own_m4 k n hk hn
  rw [← Int32.toInt_inj, a]
  have l : (16 : Int32).toInt = 16 := by decide
  rw [l]; omega
theorem own_mod3 (x : Int32) : (x &&& (2147483647 : Int32)) % (3 : Int32) = 0 ∨ (x &&& (2147483647 : Int32)) % (3 : Int32) = 1 ∨ (x &&& (2147483647 : Int32)) % (3 : Int32) = 2 := by
  have a1 := c_mask x 2147483647 31 (by decide) (by decide)
  have l1 : (((2 ^ 31 : Nat) : Nat) : Int) = 2147483648 := by decide
  rw [l1] at a1
  have a2 := (c_irem (x &&& 2147483647) 3 3 (by decide)).1 (by omega)
  have l0 : (0 : Int32).toInt = 0 := by decide
  have l2 : (1 : Int32).toInt = 1 := by decide
  have l3 : (2 : Int32).toInt = 2 := by decide
  rw [← Int32.toInt_inj, ← Int32.toInt_inj, ← Int32.toInt_inj, l0, l2, l3]
  omega
theorem own_and3 (x : Int32) : x &&& (3 : Int32) = 0 ∨ x &&& (3 : Int32) = 1 ∨ x &&& (3 : Int32) = 2 ∨ x &&& (3 : Int32) = 3 := by
  have a1 := c_mask x 3 2 (by decide) (by decide)
  have l1 : (((2 ^ 2 : Nat) : Nat) : Int) = 4 := by decide
  rw [l1] at a1
  have l0 : (0 : Int32).toInt = 0 := by decide
  have l2 : (1 : Int32).toInt = 1 := by decide
  have l3 : (2 : Int32).toInt = 2 := by decide
  have l4 : (3 : Int32).toInt = 3 := by decide
  rw [← Int32.toInt_inj, ← Int32.toInt_inj, ← Int32.toInt_inj, ← Int32.toInt_inj, l0, l2, l3, l4]
  omega
def own_g3 : Nat → Int32 := own_set (own_set (own_set (fun _ => 0) 0 1 2 3 4) 1 11 12 13 14) 2 21 22 23 24
theorem own_old (j k : Int32) (n : Nat) (hj : j.toInt = n) (h3 : j = 0 ∨ j = 1 ∨ j = 2) (h4 : k = 0 ∨ k = 1 ∨ k = 2 ∨ k = 3) : own_g3 (4 * n + own_kk k) = 10 * j + k + 1 := by
  have l0 : (0 : Int32).toInt = 0 := by decide
  have l2 : (1 : Int32).toInt = 1 := by decide
  have l3 : (2 : Int32).toInt = 2 := by decide
  rcases h3 with rfl | rfl | rfl
  · obtain rfl : n = 0 := by omega
    rcases h4 with rfl | rfl | rfl | rfl <;> decide
  · obtain rfl : n = 1 := by omega
    rcases h4 with rfl | rfl | rfl | rfl <;> decide
  · obtain rfl : n = 2 := by omega
    rcases h4 with rfl | rfl | rfl | rfl <;> decide
theorem own_d1_0 : decode prog_58_method_1_code 0 = .ok (.aload_n 0, 1) := by decide +kernel
theorem own_d1_1 : decode prog_58_method_1_code 1 = .ok (.invokespecial 1, 3) := by decide +kernel
theorem own_d1_4 : decode prog_58_method_1_code 4 = .ok (.aload_n 0, 1) := by decide +kernel
theorem own_d1_5 : decode prog_58_method_1_code 5 = .ok (.bipush 16, 2) := by decide +kernel
theorem own_d1_7 : decode prog_58_method_1_code 7 = .ok (.newarray .int, 2) := by decide +kernel
theorem own_d1_9 : decode prog_58_method_1_code 9 = .ok (.putfield 7, 3) := by decide +kernel
theorem own_d1_12 : decode prog_58_method_1_code 12 = .ok (.return_, 1) := by decide +kernel
theorem own_pn_1 : plainName "com/example/drawtree/drawtree/RectList" = true := by first | (simp [plainName, overriddenIn]; done) | decide +kernel
theorem own_d3_0 : decode prog_58_method_14_code 0 = .ok (.iconst 4, 1) := by decide +kernel
theorem own_d3_1 : decode prog_58_method_14_code 1 = .ok (.aload_n 0, 1) := by decide +kernel
theorem own_d3_2 : decode prog_58_method_14_code 2 = .ok (.getfield 17, 3) := by decide +kernel
theorem own_d3_5 : decode prog_58_method_14_code 5 = .ok (.imul, 1) := by decide +kernel
theorem own_d3_6 : decode prog_58_method_14_code 6 = .ok (.aload_n 0, 1) := by decide +kernel
theorem own_d3_7 : decode prog_58_method_14_code 7 = .ok (.getfield 7, 3) := by decide +kernel
theorem own_d3_10 : decode prog_58_method_14_code 10 = .ok (.arraylength, 1) := by decide +kernel
theorem own_d3_11 : decode prog_58_method_14_code 11 = .ok (.if_icmp .ne 21, 3) := by decide +kernel
theorem own_d3_14 : decode prog_58_method_14_code 14 = .ok (.aload_n 0, 1) := by decide +kernel
theorem own_d3_15 : decode prog_58_method_14_code 15 = .ok (.aload_n 0, 1) := by decide +kernel
theorem own_d3_16 : decode prog_58_method_14_code 16 = .ok (.getfield 7, 3) := by decide +kernel
theorem own_d3_19 : decode prog_58_method_14_code 19 = .ok (.iconst 2, 1) := by decide +kernel
theorem own_d3_20 : decode prog_58_method_14_code 20 = .ok (.aload_n 0, 1) := by decide +kernel
theorem own_d3_21 : decode prog_58_method_14_code 21 = .ok (.getfield 7, 3) := by decide +kernel
theorem own_d3_24 : decode prog_58_method_14_code 24 = .ok (.arraylength, 1) := by decide +kernel
theorem own_d3_25 : decode prog_58_method_14_code 25 = .ok (.imul, 1) := by decide +kernel
theorem own_d3_26 : decode prog_58_method_14_code 26 = .ok (.invokestatic 58, 3) := by decide +kernel
theorem own_d3_29 : decode prog_58_method_14_code 29 = .ok (.putfield 7, 3) := by decide +kernel
theorem own_d3_32 : decode prog_58_method_14_code 32 = .ok (.aload_n 0, 1) := by decide +kernel
theorem own_d3_33 : decode prog_58_method_14_code 33 = .ok (.dup, 1) := by decide +kernel
theorem own_d3_34 : decode prog_58_method_14_code 34 = .ok (.getfield 17, 3) := by decide +kernel
theorem own_d3_37 : decode prog_58_method_14_code 37 = .ok (.iconst 1, 1) := by decide +kernel
theorem own_d3_38 : decode prog_58_method_14_code 38 = .ok (.iadd, 1) := by decide +kernel
theorem own_d3_39 : decode prog_58_method_14_code 39 = .ok (.putfield 17, 3) := by decide +kernel
theorem own_d3_42 : decode prog_58_method_14_code 42 = .ok (.aload_n 0, 1) := by decide +kernel
theorem own_d3_43 : decode prog_58_method_14_code 43 = .ok (.aload_n 0, 1) := by decide +kernel
theorem own_d3_44 : decode prog_58_method_14_code 44 = .ok (.getfield 17, 3) := by decide +kernel
theorem own_d3_47 : decode prog_58_method_14_code 47 = .ok (.iconst 1, 1) := by decide +kernel
theorem own_d3_48 : decode prog_58_method_14_code 48 = .ok (.isub, 1) := by decide +kernel
theorem own_d3_49 : decode prog_58_method_14_code 49 = .ok (.iload_n 1, 1) := by decide +kernel
theorem own_d3_50 : decode prog_58_method_14_code 50 = .ok (.iload_n 2, 1) := by decide +kernel
theorem own_d3_51 : decode prog_58_method_14_code 51 = .ok (.iload_n 3, 1) := by decide +kernel
theorem own_d3_52 : decode prog_58_method_14_code 52 = .ok (.iload 4, 2) := by decide +kernel
theorem own_d3_54 : decode prog_58_method_14_code 54 = .ok (.invokevirtual 64, 3) := by decide +kernel
theorem own_d3_57 : decode prog_58_method_14_code 57 = .ok (.return_, 1) := by decide +kernel
theorem own_pn_3 : plainName "com/example/drawtree/drawtree/RectList" = true := by first | (simp [plainName, overriddenIn]; done) | decide +kernel
theorem own_d4_0 : decode prog_58_method_16_code 0 = .ok (.aload_n 0, 1) := by decide +kernel
theorem own_d4_1 : decode prog_58_method_16_code 1 = .ok (.getfield 7, 3) := by decide +kernel
theorem own_d4_4 : decode prog_58_method_16_code 4 = .ok (.iconst 4, 1) := by decide +kernel
theorem own_d4_5 : decode prog_58_method_16_code 5 = .ok (.iload_n 1, 1) := by decide +kernel
theorem own_d4_6 : decode prog_58_method_16_code 6 = .ok (.imul, 1) := by decide +kernel
theorem own_d4_7 : decode prog_58_method_16_code 7 = .ok (.iload_n 2, 1) := by decide +kernel
theorem own_d4_8 : decode prog_58_method_16_code 8 = .ok (.iastore, 1) := by decide +kernel
theorem own_d4_9 : decode prog_58_method_16_code 9 = .ok (.aload_n 0, 1) := by decide +kernel
theorem own_d4_10 : decode prog_58_method_16_code 10 = .ok (.getfield 7, 3) := by decide +kernel
theorem own_d4_13 : decode prog_58_method_16_code 13 = .ok (.iconst 4, 1) := by decide +kernel
theorem own_d4_14 : decode prog_58_method_16_code 14 = .ok (.iload_n 1, 1) := by decide +kernel
theorem own_d4_15 : decode prog_58_method_16_code 15 = .ok (.imul, 1) := by decide +kernel
theorem own_d4_16 : decode prog_58_method_16_code 16 = .ok (.iconst 1, 1) := by decide +kernel
theorem own_d4_17 : decode prog_58_method_16_code 17 = .ok (.iadd, 1) := by decide +kernel
theorem own_d4_18 : decode prog_58_method_16_code 18 = .ok (.iload_n 3, 1) := by decide +kernel
theorem own_d4_19 : decode prog_58_method_16_code 19 = .ok (.iastore, 1) := by decide +kernel
theorem own_d4_20 : decode prog_58_method_16_code 20 = .ok (.aload_n 0, 1) := by decide +kernel
theorem own_d4_21 : decode prog_58_method_16_code 21 = .ok (.getfield 7, 3) := by decide +kernel
theorem own_d4_24 : decode prog_58_method_16_code 24 = .ok (.iconst 4, 1) := by decide +kernel
theorem own_d4_25 : decode prog_58_method_16_code 25 = .ok (.iload_n 1, 1) := by decide +kernel
theorem own_d4_26 : decode prog_58_method_16_code 26 = .ok (.imul, 1) := by decide +kernel
theorem own_d4_27 : decode prog_58_method_16_code 27 = .ok (.iconst 2, 1) := by decide +kernel
theorem own_d4_28 : decode prog_58_method_16_code 28 = .ok (.iadd, 1) := by decide +kernel
theorem own_d4_29 : decode prog_58_method_16_code 29 = .ok (.iload 4, 2) := by decide +kernel
theorem own_d4_31 : decode prog_58_method_16_code 31 = .ok (.iastore, 1) := by decide +kernel
theorem own_d4_32 : decode prog_58_method_16_code 32 = .ok (.aload_n 0, 1) := by decide +kernel
theorem own_d4_33 : decode prog_58_method_16_code 33 = .ok (.getfield 7, 3) := by decide +kernel
theorem own_d4_36 : decode prog_58_method_16_code 36 = .ok (.iconst 4, 1) := by decide +kernel
theorem own_d4_37 : decode prog_58_method_16_code 37 = .ok (.iload_n 1, 1) := by decide +kernel
theorem own_d4_38 : decode prog_58_method_16_code 38 = .ok (.imul, 1) := by decide +kernel
theorem own_d4_39 : decode prog_58_method_16_code 39 = .ok (.iconst 3, 1) := by decide +kernel
theorem own_d4_40 : decode prog_58_method_16_code 40 = .ok (.iadd, 1) := by decide +kernel
theorem own_d4_41 : decode prog_58_method_16_code 41 = .ok (.iload 5, 2) := by decide +kernel
theorem own_d4_43 : decode prog_58_method_16_code 43 = .ok (.iastore, 1) := by decide +kernel
theorem own_d4_44 : decode prog_58_method_16_code 44 = .ok (.return_, 1) := by decide +kernel
theorem own_pn_4 : plainName "com/example/drawtree/drawtree/RectList" = true := by first | (simp [plainName, overriddenIn]; done) | decide +kernel
theorem own_d5_0 : decode prog_58_method_3_code 0 = .ok (.aload_n 0, 1) := by decide +kernel
theorem own_d5_1 : decode prog_58_method_3_code 1 = .ok (.getfield 17, 3) := by decide +kernel
theorem own_d5_4 : decode prog_58_method_3_code 4 = .ok (.ireturn, 1) := by decide +kernel
theorem own_pn_5 : plainName "com/example/drawtree/drawtree/RectList" = true := by first | (simp [plainName, overriddenIn]; done) | decide +kernel
theorem own_d6_0 : decode prog_58_method_6_code 0 = .ok (.aload_n 0, 1) := by decide +kernel
theorem own_d6_1 : decode prog_58_method_6_code 1 = .ok (.getfield 7, 3) := by decide +kernel
theorem own_d6_4 : decode prog_58_method_6_code 4 = .ok (.iconst 4, 1) := by decide +kernel
theorem own_d6_5 : decode prog_58_method_6_code 5 = .ok (.iload_n 1, 1) := by decide +kernel
theorem own_d6_6 : decode prog_58_method_6_code 6 = .ok (.imul, 1) := by decide +kernel
theorem own_d6_7 : decode prog_58_method_6_code 7 = .ok (.iaload, 1) := by decide +kernel
theorem own_d6_8 : decode prog_58_method_6_code 8 = .ok (.ireturn, 1) := by decide +kernel
theorem own_pn_6 : plainName "com/example/drawtree/drawtree/RectList" = true := by first | (simp [plainName, overriddenIn]; done) | decide +kernel
theorem own_d7_0 : decode prog_58_method_7_code 0 = .ok (.aload_n 0, 1) := by decide +kernel
theorem own_d7_1 : decode prog_58_method_7_code 1 = .ok (.getfield 7, 3) := by decide +kernel
theorem own_d7_4 : decode prog_58_method_7_code 4 = .ok (.iconst 4, 1) := by decide +kernel
theorem own_d7_5 : decode prog_58_method_7_code 5 = .ok (.iload_n 1, 1) := by decide +kernel
theorem own_d7_6 : decode prog_58_method_7_code 6 = .ok (.imul, 1) := by decide +kernel
theorem own_d7_7 : decode prog_58_method_7_code 7 = .ok (.iconst 1, 1) := by decide +kernel
theorem own_d7_8 : decode prog_58_method_7_code 8 = .ok (.iadd, 1) := by decide +kernel
theorem own_d7_9 : decode prog_58_method_7_code 9 = .ok (.iaload, 1) := by decide +kernel
theorem own_d7_10 : decode prog_58_method_7_code 10 = .ok (.ireturn, 1) := by decide +kernel
theorem own_pn_7 : plainName "com/example/drawtree/drawtree/RectList" = true := by first | (simp [plainName, overriddenIn]; done) | decide +kernel
theorem own_d8_0 : decode prog_58_method_8_code 0 = .ok (.aload_n 0, 1) := by decide +kernel
theorem own_d8_1 : decode prog_58_method_8_code 1 = .ok (.getfield 7, 3) := by decide +kernel
theorem own_d8_4 : decode prog_58_method_8_code 4 = .ok (.iconst 4, 1) := by decide +kernel
theorem own_d8_5 : decode prog_58_method_8_code 5 = .ok (.iload_n 1, 1) := by decide +kernel
theorem own_d8_6 : decode prog_58_method_8_code 6 = .ok (.imul, 1) := by decide +kernel
theorem own_d8_7 : decode prog_58_method_8_code 7 = .ok (.iconst 2, 1) := by decide +kernel
theorem own_d8_8 : decode prog_58_method_8_code 8 = .ok (.iadd, 1) := by decide +kernel
theorem own_d8_9 : decode prog_58_method_8_code 9 = .ok (.iaload, 1) := by decide +kernel
theorem own_d8_10 : decode prog_58_method_8_code 10 = .ok (.ireturn, 1) := by decide +kernel
theorem own_pn_8 : plainName "com/example/drawtree/drawtree/RectList" = true := by first | (simp [plainName, overriddenIn]; done) | decide +kernel
theorem own_d9_0 : decode prog_58_method_9_code 0 = .ok (.aload_n 0, 1) := by decide +kernel
theorem own_d9_1 : decode prog_58_method_9_code 1 = .ok (.getfield 7, 3) := by decide +kernel
theorem own_d9_4 : decode prog_58_method_9_code 4 = .ok (.iconst 4, 1) := by decide +kernel
theorem own_d9_5 : decode prog_58_method_9_code 5 = .ok (.iload_n 1, 1) := by decide +kernel
theorem own_d9_6 : decode prog_58_method_9_code 6 = .ok (.imul, 1) := by decide +kernel
theorem own_d9_7 : decode prog_58_method_9_code 7 = .ok (.iconst 3, 1) := by decide +kernel
theorem own_d9_8 : decode prog_58_method_9_code 8 = .ok (.iadd, 1) := by decide +kernel
theorem own_d9_9 : decode prog_58_method_9_code 9 = .ok (.iaload, 1) := by decide +kernel
theorem own_d9_10 : decode prog_58_method_9_code 10 = .ok (.ireturn, 1) := by decide +kernel
theorem own_pn_9 : plainName "com/example/drawtree/drawtree/RectList" = true := by first | (simp [plainName, overriddenIn]; done) | decide +kernel
theorem own_d10_0 : decode method_3_code 0 = .ok (.iload_n 2, 1) := by decide +kernel
theorem own_d10_1 : decode method_3_code 1 = .ok (.ifCond .ne 9, 3) := by decide +kernel
theorem own_d10_4 : decode method_3_code 4 = .ok (.aload_n 0, 1) := by decide +kernel
theorem own_d10_5 : decode method_3_code 5 = .ok (.iload_n 1, 1) := by decide +kernel
theorem own_d10_6 : decode method_3_code 6 = .ok (.invokevirtual 23, 3) := by decide +kernel
theorem own_d10_9 : decode method_3_code 9 = .ok (.ireturn, 1) := by decide +kernel
theorem own_d10_10 : decode method_3_code 10 = .ok (.iload_n 2, 1) := by decide +kernel
theorem own_d10_11 : decode method_3_code 11 = .ok (.iconst 1, 1) := by decide +kernel
theorem own_d10_12 : decode method_3_code 12 = .ok (.if_icmp .ne 9, 3) := by decide +kernel
theorem own_d10_15 : decode method_3_code 15 = .ok (.aload_n 0, 1) := by decide +kernel
theorem own_d10_16 : decode method_3_code 16 = .ok (.iload_n 1, 1) := by decide +kernel
theorem own_d10_17 : decode method_3_code 17 = .ok (.invokevirtual 27, 3) := by decide +kernel
theorem own_d10_20 : decode method_3_code 20 = .ok (.ireturn, 1) := by decide +kernel
theorem own_d10_21 : decode method_3_code 21 = .ok (.iload_n 2, 1) := by decide +kernel
theorem own_d10_22 : decode method_3_code 22 = .ok (.iconst 2, 1) := by decide +kernel
theorem own_d10_23 : decode method_3_code 23 = .ok (.if_icmp .ne 9, 3) := by decide +kernel
theorem own_d10_26 : decode method_3_code 26 = .ok (.aload_n 0, 1) := by decide +kernel
theorem own_d10_27 : decode method_3_code 27 = .ok (.iload_n 1, 1) := by decide +kernel
theorem own_d10_28 : decode method_3_code 28 = .ok (.invokevirtual 30, 3) := by decide +kernel
theorem own_d10_31 : decode method_3_code 31 = .ok (.ireturn, 1) := by decide +kernel
theorem own_d10_32 : decode method_3_code 32 = .ok (.aload_n 0, 1) := by decide +kernel
theorem own_d10_33 : decode method_3_code 33 = .ok (.iload_n 1, 1) := by decide +kernel
theorem own_d10_34 : decode method_3_code 34 = .ok (.invokevirtual 33, 3) := by decide +kernel
theorem own_d10_37 : decode method_3_code 37 = .ok (.ireturn, 1) := by decide +kernel
theorem own_pn_10 : plainName "com/example/drawtree/drawtree/RectListSetPinLaw" = true := by first | (simp [plainName, overriddenIn]; done) | decide +kernel
theorem own_pn_0 : plainName "com/example/drawtree/drawtree/RectListSetPinLaw" = true := by first | (simp [plainName, overriddenIn]; done) | decide +kernel
theorem own_pd___I : parseMethodDescriptor "()I" = some ⟨[], (some .int)⟩ := by decide +kernel
theorem own_pd___V : parseMethodDescriptor "()V" = some ⟨[], none⟩ := by decide +kernel
theorem own_pd__I_I : parseMethodDescriptor "(I)I" = some ⟨[.int], (some .int)⟩ := by decide +kernel
theorem own_pd__IIII_V : parseMethodDescriptor "(IIII)V" = some ⟨[.int, .int, .int, .int], none⟩ := by decide +kernel
theorem own_pd__IIIII_V : parseMethodDescriptor "(IIIII)V" = some ⟨[.int, .int, .int, .int, .int], none⟩ := by decide +kernel
theorem own_pd__Lcom_example_drawtree_drawtree_RectList_II_I : parseMethodDescriptor "(Lcom/example/drawtree/drawtree/RectList;II)I" = some ⟨[(.object "com/example/drawtree/drawtree/RectList"), .int, .int], (some .int)⟩ := by decide +kernel
theorem own_rm1_ef (m : MethodId) (a5 : Addr)  : entryFrame m #[(.ref a5)] 1 = mkF m 0 #[.val (.ref a5)] [] := by first | (simp [entryFrame, mkF, argsToLocals, Value.category, maxLocals]; done) | rfl
set_option maxRecDepth 65536 in
set_option maxHeartbeats 40000000 in
theorem own_rm1 (l : Launch) (Z : State) (a0 : Array Value) (hw : ∀ d ∈ tables_1, d.before a0 Z = true) (a5 : Addr) (h0 : Heap) (n0 : Nat) (Z0 : n0 ≤ h0.size) (B : own_Rl Z h0 a5 .null 0) (g9 : n0 ≤ a5) :
    own_Met l (⟨"com/example/drawtree/drawtree/RectList", "<init>", "()V"⟩ : MethodName) (Jvm.Cond.code (⟨"com/example/drawtree/drawtree/RectList", "<init>", "()V"⟩ : MethodName) prog_58_method_1_code 1 none :: []) ({ frames := 1, cells := 1, slots := 16, locals := 12 } : Room) Z h0 #[(.ref a5)] (fun v h L => ∃ ed kE, v = none ∧ Fr n0 L ∧ Keep h0 h [a5] ∧ h0.size ≤ ed ∧ own_Rl Z h a5 (.ref ed) 0 ∧ own_Av Z h ed kE .int 16 (fun y => Value.int ((fun _ => 0) y))) := by
  refine own_body (pn := own_pn_1) ?_
  intro p e s m below meth c s₁ hx hby hml hown hnm hret hlk hZ X0 e0
  have N0 := Fr.nil n0
  refine own_go (fun _ kont => castTop (own_rm1_ef m a5 ) kont) ?_
  show own_Go p.tables e below _ (s₁.setTop (mkF m 0 #[.val (.ref a5)] []))
  have K0 : Keep h0 h0 [a5] := Keep.refl _ _
  obtain ⟨E_101, F_102, G_103⟩ := B
  refine own_go (fun _ kont => XS.aloadN X0.here hx rfl (hb hby own_d1_0) rfl rfl kont) ?_
  show own_Go p.tables e below _ (s₁.setTop (mkF m 1 #[.val (.ref a5)] [(.ref a5)]))
  obtain ⟨T104, X104, e104, st104⟩ := initO X0 hx hZ hown (hw _ (List.mem_of_getElem? (i := 7) rfl)) (hw _ (List.mem_of_getElem? (i := 8) rfl)) (hw _ (List.mem_of_getElem? (i := 9) rfl)) e0 (g := (mkF m 1 #[.val (.ref a5)] [(.ref a5)])) rfl (by rw [hml]; rfl) rfl (hb hby own_d1_1) (by decide) (W := 0) (by show 2 * 0 + _ ≤ _; exact Nat.le_of_eq rfl) (by decide)
  refine own_go st104 ?_
  show own_Go p.tables e below _ (T104.setTop (mkF m 4 #[.val (.ref a5)] []))
  refine own_go (fun _ kont => XS.aloadN X104.here hx rfl (hb hby own_d1_4) rfl rfl kont) ?_
  show own_Go p.tables e below _ (T104.setTop (mkF m 5 #[.val (.ref a5)] [(.ref a5)]))
  refine own_go (fun _ kont => XS.bipush X104.here hx rfl (hb hby own_d1_5) kont) ?_
  show own_Go p.tables e below _ (T104.setTop (mkF m 7 #[.val (.ref a5)] [(.int (16 : Int32)), (.ref a5)]))
  obtain ⟨T105, h105, cA105, X105, e105, E105, A105, B105, st105⟩ := newPE X104 hx hZ (hw _ (List.mem_of_getElem? (i := 10) rfl)) e104 (g := (mkF m 7 #[.val (.ref a5)] [(.int (16 : Int32)), (.ref a5)])) rfl (hb hby own_d1_7) rfl (by decide) (cap := 16) (by decide) (by decide) (by decide) (by decide) rfl
  obtain ⟨ed, g105⟩ : ∃ z, z = h0.size := ⟨_, rfl⟩
  rw [← g105] at A105 B105 st105
  have ne106 : a5 ≠ ed := by rw [g105]; exact Nat.ne_of_lt E_101.lt
  have ge_ed : n0 ≤ ed := by rw [g105]; exact Z0
  have kb_ed : h0.size ≤ ed := by rw [g105]; exact K0.1
  have E_a5_107 : Exa Z h105 a5 "com/example/drawtree/drawtree/RectList" := Exa.ext E105 E_101
  have F_a5_edges_108 : Fld Z h105 a5 "com/example/drawtree/drawtree/RectList" "edges" "[I" (.null) := Fld.ext E105 F_102
  have F_a5_size_109 : Fld Z h105 a5 "com/example/drawtree/drawtree/RectList" "size" "I" (.int (0 : Int32)) := Fld.ext E105 G_103
  have Z110 : n0 ≤ h105.size := Nat.le_trans Z0 E105.1
  have K110 : Keep h0 h105 [a5] := Keep.ext K0 E105
  have E_ed_111 : Exa Z h105 ed "[I" := B105
  have V_ed_112 : own_Av Z h105 ed cA105 .int 16 (fun _ => defaultValue .int) := own_Av.new (ty := .int) A105 (by decide)
  refine own_go st105 ?_
  show own_Go p.tables e below _ (T105.setTop (mkF m 9 #[.val (.ref a5)] [(.ref ed), (.ref a5)]))
  obtain ⟨T113, h113, X113, e113, W113, st113⟩ := putF X105 hx hZ hown (host := "") (Or.inl (hw _ (List.mem_of_getElem? (i := 11) rfl))) Via.refl e105 F_a5_edges_108 E_a5_107 (Or.inl (hw _ (List.mem_of_getElem? (i := 12) rfl))) (hw _ (List.mem_of_getElem? (i := 2) rfl)) (ty := (.array .int)) (by decide) rfl rfl (g := (mkF m 9 #[.val (.ref a5)] [(.ref ed), (.ref a5)])) rfl rfl (hb hby own_d1_9)
  have E_a5_114 : Exa Z h113 a5 "com/example/drawtree/drawtree/RectList" := Exa.wr W113 E_a5_107
  have F_a5_edges_115 : Fld Z h113 a5 "com/example/drawtree/drawtree/RectList" "edges" "[I" (.ref ed) := Fld.same W113 F_a5_edges_108
  have F_a5_size_116 : Fld Z h113 a5 "com/example/drawtree/drawtree/RectList" "size" "I" (.int (0 : Int32)) := Fld.other W113 F_a5_size_109 (Or.inr (slot_ne (t := .int) (t' := (.array .int)) (Or.inl (hw _ (List.mem_of_getElem? (i := 19) rfl))) (Or.inl (hw _ (List.mem_of_getElem? (i := 12) rfl))) (by decide) (by decide) (by decide)))
  have E_ed_117 : Exa Z h113 ed "[I" := Exa.wr W113 E_ed_111
  have V_ed_118 : own_Av Z h113 ed cA105 .int 16 (fun _ => defaultValue .int) := own_Av.other W113 V_ed_112 (Ne.symm ne106)
  have N119 := Fr.snoc X113 N0 g9
  have Z119 : n0 ≤ h113.size := by rw [W113.size]; exact Z110
  have K119 : Keep h0 h113 [a5] := Keep.wr K110 W113 (Or.inl (by simp))
  refine own_go st113 ?_
  show own_Go p.tables e below _ (T113.setTop (mkF m 12 #[.val (.ref a5)] []))
  exact own_retV X113 hx hlk hret (hb hby own_d1_12) (by rw [e113]; exact ⟨ed, _, rfl, N119, K119, kb_ed, ⟨E_a5_114, F_a5_edges_115, F_a5_size_116⟩, V_ed_118⟩) (by decide) (by decide)
theorem own_rm4_ef (m : MethodId) (a5 : Addr) (i5 : Int32) (l5 : Int32) (t5 : Int32) (r5 : Int32) (b5 : Int32)  : entryFrame m #[(.ref a5), (.int i5), (.int l5), (.int t5), (.int r5), (.int b5)] 6 = mkF m 0 #[.val (.ref a5), .val (.int i5), .val (.int l5), .val (.int t5), .val (.int r5), .val (.int b5)] [] := by first | (simp [entryFrame, mkF, argsToLocals, Value.category, maxLocals]; done) | rfl
set_option maxRecDepth 65536 in
set_option maxHeartbeats 40000000 in
theorem own_rm4 (l : Launch) (Z : State) (a0 : Array Value) (hw : ∀ d ∈ tables_1, d.before a0 Z = true) (a5 : Addr) (i5 : Int32) (l5 : Int32) (t5 : Int32) (r5 : Int32) (b5 : Int32) (h0 : Heap) (n0 : Nat) (Z0 : n0 ≤ h0.size) (ed : Addr) (kE : ClassId) (k : Int32) (n : Nat) (g : Nat → Int32) (B : own_Rl Z h0 a5 (.ref ed) k) (V1 : own_Av Z h0 ed kE .int 16 (fun y => Value.int (g y))) (hi : i5.toInt = (n : Int)) (hn : n < 4) (g1 : n0 ≤ ed) (n1 : a5 ≠ ed) :
    own_Met l (⟨"com/example/drawtree/drawtree/RectList", "set", "(IIIII)V"⟩ : MethodName) (Jvm.Cond.code (⟨"com/example/drawtree/drawtree/RectList", "set", "(IIIII)V"⟩ : MethodName) prog_58_method_16_code 6 none :: []) ({ frames := 0, cells := 0, slots := 0, locals := 0 } : Room) Z h0 #[(.ref a5), (.int i5), (.int l5), (.int t5), (.int r5), (.int b5)] (fun v h L => v = none ∧ Fr n0 L ∧ Keep h0 h [ed] ∧ own_Av Z h ed kE .int 16 (fun y => Value.int ((own_set g n l5 t5 r5 b5) y))) := by
  refine own_body (pn := own_pn_4) ?_
  intro p e s m below meth c s₁ hx hby hml hown hnm hret hlk hZ X0 e0
  have N0 := Fr.nil n0
  refine own_go (fun _ kont => castTop (own_rm4_ef m a5 i5 l5 t5 r5 b5 ) kont) ?_
  show own_Go p.tables e below _ (s₁.setTop (mkF m 0 #[.val (.ref a5), .val (.int i5), .val (.int l5), .val (.int t5), .val (.int r5), .val (.int b5)] []))
  have K0 : Keep h0 h0 [ed] := Keep.refl _ _
  obtain ⟨E_120, F_121, G_122⟩ := B
  refine own_go (fun _ kont => XS.aloadN X0.here hx rfl (hb hby own_d4_0) rfl rfl kont) ?_
  show own_Go p.tables e below _ (s₁.setTop (mkF m 1 #[.val (.ref a5), .val (.int i5), .val (.int l5), .val (.int t5), .val (.int r5), .val (.int b5)] [(.ref a5)]))
  obtain ⟨T123, X123, e123, st123⟩ := getF X0 hx hZ hown (host := "") (Or.inl (hw _ (List.mem_of_getElem? (i := 11) rfl))) Via.refl e0 F_121 (g := (mkF m 1 #[.val (.ref a5), .val (.int i5), .val (.int l5), .val (.int t5), .val (.int r5), .val (.int b5)] [(.ref a5)])) rfl rfl (hb hby own_d4_1)
  refine own_go st123 ?_
  show own_Go p.tables e below _ (T123.setTop (mkF m 4 #[.val (.ref a5), .val (.int i5), .val (.int l5), .val (.int t5), .val (.int r5), .val (.int b5)] [(.ref ed)]))
  refine own_go (fun _ kont => XS.iconst X123.here hx rfl (hb hby own_d4_4) kont) ?_
  show own_Go p.tables e below _ (T123.setTop (mkF m 5 #[.val (.ref a5), .val (.int i5), .val (.int l5), .val (.int t5), .val (.int r5), .val (.int b5)] [(.int (4 : Int32)), (.ref ed)]))
  refine own_go (fun _ kont => XS.iloadN X123.here hx rfl (hb hby own_d4_5) rfl kont) ?_
  show own_Go p.tables e below _ (T123.setTop (mkF m 6 #[.val (.ref a5), .val (.int i5), .val (.int l5), .val (.int t5), .val (.int r5), .val (.int b5)] [(.int i5), (.int (4 : Int32)), (.ref ed)]))
  refine own_go (fun _ kont => XS.imul X123.here hx rfl (hb hby own_d4_6) rfl kont) ?_
  show own_Go p.tables e below _ (T123.setTop (mkF m 7 #[.val (.ref a5), .val (.int i5), .val (.int l5), .val (.int t5), .val (.int r5), .val (.int b5)] [(.int ((4 : Int32) * i5)), (.ref ed)]))
  refine own_go (fun _ kont => XS.iloadN X123.here hx rfl (hb hby own_d4_7) rfl kont) ?_
  show own_Go p.tables e below _ (T123.setTop (mkF m 8 #[.val (.ref a5), .val (.int i5), .val (.int l5), .val (.int t5), .val (.int r5), .val (.int b5)] [(.int l5), (.int ((4 : Int32) * i5)), (.ref ed)]))
  refine own_iast X123 hx hZ e123 V1 (4 * n) (own_ix (4 * i5) (4 * n) (own_m4 i5 n hi hn)).1 (own_ix (4 * i5) (4 * n) (own_m4 i5 n hi hn)).2 (by omega) (hb hby own_d4_8) ?_
  intro T124 h124 X124 e124 W124
  have E_a5_125 : Exa Z h124 a5 "com/example/drawtree/drawtree/RectList" := Exa.wr W124 E_120
  have F_a5_edges_126 : Fld Z h124 a5 "com/example/drawtree/drawtree/RectList" "edges" "[I" (.ref ed) := Fld.other W124 F_121 (Or.inl n1)
  have F_a5_size_127 : Fld Z h124 a5 "com/example/drawtree/drawtree/RectList" "size" "I" (.int k) := Fld.other W124 G_122 (Or.inl n1)
  have V_ed_128 : own_Av Z h124 ed kE .int 16 (fun x => if x = (4 * n) then .int l5 else (fun y => Value.int (g y)) x) := own_Av.set V1 W124 (by omega)
  have N129 := Fr.snoc X124 N0 g1
  have Z129 : n0 ≤ h124.size := by rw [W124.size]; exact Z0
  have K129 : Keep h0 h124 [ed] := Keep.wr K0 W124 (Or.inl (by simp))
  show own_Go p.tables e below _ (T124.setTop (mkF m 9 #[.val (.ref a5), .val (.int i5), .val (.int l5), .val (.int t5), .val (.int r5), .val (.int b5)] []))
  refine own_go (fun _ kont => XS.aloadN X124.here hx rfl (hb hby own_d4_9) rfl rfl kont) ?_
  show own_Go p.tables e below _ (T124.setTop (mkF m 10 #[.val (.ref a5), .val (.int i5), .val (.int l5), .val (.int t5), .val (.int r5), .val (.int b5)] [(.ref a5)]))
  obtain ⟨T130, X130, e130, st130⟩ := getF X124 hx hZ hown (host := "") (Or.inl (hw _ (List.mem_of_getElem? (i := 11) rfl))) Via.refl e124 F_a5_edges_126 (g := (mkF m 10 #[.val (.ref a5), .val (.int i5), .val (.int l5), .val (.int t5), .val (.int r5), .val (.int b5)] [(.ref a5)])) rfl rfl (hb hby own_d4_10)
  refine own_go st130 ?_
  show own_Go p.tables e below _ (T130.setTop (mkF m 13 #[.val (.ref a5), .val (.int i5), .val (.int l5), .val (.int t5), .val (.int r5), .val (.int b5)] [(.ref ed)]))
  refine own_go (fun _ kont => XS.iconst X130.here hx rfl (hb hby own_d4_13) kont) ?_
  show own_Go p.tables e below _ (T130.setTop (mkF m 14 #[.val (.ref a5), .val (.int i5), .val (.int l5), .val (.int t5), .val (.int r5), .val (.int b5)] [(.int (4 : Int32)), (.ref ed)]))
  refine own_go (fun _ kont => XS.iloadN X130.here hx rfl (hb hby own_d4_14) rfl kont) ?_
  show own_Go p.tables e below _ (T130.setTop (mkF m 15 #[.val (.ref a5), .val (.int i5), .val (.int l5), .val (.int t5), .val (.int r5), .val (.int b5)] [(.int i5), (.int (4 : Int32)), (.ref ed)]))
  refine own_go (fun _ kont => XS.imul X130.here hx rfl (hb hby own_d4_15) rfl kont) ?_
  show own_Go p.tables e below _ (T130.setTop (mkF m 16 #[.val (.ref a5), .val (.int i5), .val (.int l5), .val (.int t5), .val (.int r5), .val (.int b5)] [(.int ((4 : Int32) * i5)), (.ref ed)]))
  refine own_go (fun _ kont => XS.iconst X130.here hx rfl (hb hby own_d4_16) kont) ?_
  show own_Go p.tables e below _ (T130.setTop (mkF m 17 #[.val (.ref a5), .val (.int i5), .val (.int l5), .val (.int t5), .val (.int r5), .val (.int b5)] [(.int (1 : Int32)), (.int ((4 : Int32) * i5)), (.ref ed)]))
  refine own_go (fun _ kont => XS.iadd X130.here hx rfl (hb hby own_d4_17) rfl kont) ?_
  show own_Go p.tables e below _ (T130.setTop (mkF m 18 #[.val (.ref a5), .val (.int i5), .val (.int l5), .val (.int t5), .val (.int r5), .val (.int b5)] [(.int (((4 : Int32) * i5) + (1 : Int32))), (.ref ed)]))
  refine own_go (fun _ kont => XS.iloadN X130.here hx rfl (hb hby own_d4_18) rfl kont) ?_
  show own_Go p.tables e below _ (T130.setTop (mkF m 19 #[.val (.ref a5), .val (.int i5), .val (.int l5), .val (.int t5), .val (.int r5), .val (.int b5)] [(.int t5), (.int (((4 : Int32) * i5) + (1 : Int32))), (.ref ed)]))
  refine own_iast X130 hx hZ e130 V_ed_128 (4 * n + 1) (own_ix (4 * i5 + 1) (4 * n + 1) (own_a4 i5 1 n 1 hi hn (by decide) (by decide))).1 (own_ix (4 * i5 + 1) (4 * n + 1) (own_a4 i5 1 n 1 hi hn (by decide) (by decide))).2 (by omega) (hb hby own_d4_19) ?_
  intro T131 h131 X131 e131 W131
  have E_a5_132 : Exa Z h131 a5 "com/example/drawtree/drawtree/RectList" := Exa.wr W131 E_a5_125
  have F_a5_edges_133 : Fld Z h131 a5 "com/example/drawtree/drawtree/RectList" "edges" "[I" (.ref ed) := Fld.other W131 F_a5_edges_126 (Or.inl n1)
  have F_a5_size_134 : Fld Z h131 a5 "com/example/drawtree/drawtree/RectList" "size" "I" (.int k) := Fld.other W131 F_a5_size_127 (Or.inl n1)
  have V_ed_135 : own_Av Z h131 ed kE .int 16 (fun x => if x = (4 * n + 1) then .int t5 else (fun x => if x = (4 * n) then .int l5 else (fun y => Value.int (g y)) x) x) := own_Av.set V_ed_128 W131 (by omega)
  have N136 := Fr.snoc X131 N129 g1
  have Z136 : n0 ≤ h131.size := by rw [W131.size]; exact Z129
  have K136 : Keep h0 h131 [ed] := Keep.wr K129 W131 (Or.inl (by simp))
  show own_Go p.tables e below _ (T131.setTop (mkF m 20 #[.val (.ref a5), .val (.int i5), .val (.int l5), .val (.int t5), .val (.int r5), .val (.int b5)] []))
  refine own_go (fun _ kont => XS.aloadN X131.here hx rfl (hb hby own_d4_20) rfl rfl kont) ?_
  show own_Go p.tables e below _ (T131.setTop (mkF m 21 #[.val (.ref a5), .val (.int i5), .val (.int l5), .val (.int t5), .val (.int r5), .val (.int b5)] [(.ref a5)]))
  obtain ⟨T137, X137, e137, st137⟩ := getF X131 hx hZ hown (host := "") (Or.inl (hw _ (List.mem_of_getElem? (i := 11) rfl))) Via.refl e131 F_a5_edges_133 (g := (mkF m 21 #[.val (.ref a5), .val (.int i5), .val (.int l5), .val (.int t5), .val (.int r5), .val (.int b5)] [(.ref a5)])) rfl rfl (hb hby own_d4_21)
  refine own_go st137 ?_
  show own_Go p.tables e below _ (T137.setTop (mkF m 24 #[.val (.ref a5), .val (.int i5), .val (.int l5), .val (.int t5), .val (.int r5), .val (.int b5)] [(.ref ed)]))
  refine own_go (fun _ kont => XS.iconst X137.here hx rfl (hb hby own_d4_24) kont) ?_
  show own_Go p.tables e below _ (T137.setTop (mkF m 25 #[.val (.ref a5), .val (.int i5), .val (.int l5), .val (.int t5), .val (.int r5), .val (.int b5)] [(.int (4 : Int32)), (.ref ed)]))
  refine own_go (fun _ kont => XS.iloadN X137.here hx rfl (hb hby own_d4_25) rfl kont) ?_
  show own_Go p.tables e below _ (T137.setTop (mkF m 26 #[.val (.ref a5), .val (.int i5), .val (.int l5), .val (.int t5), .val (.int r5), .val (.int b5)] [(.int i5), (.int (4 : Int32)), (.ref ed)]))
  refine own_go (fun _ kont => XS.imul X137.here hx rfl (hb hby own_d4_26) rfl kont) ?_
  show own_Go p.tables e below _ (T137.setTop (mkF m 27 #[.val (.ref a5), .val (.int i5), .val (.int l5), .val (.int t5), .val (.int r5), .val (.int b5)] [(.int ((4 : Int32) * i5)), (.ref ed)]))
  refine own_go (fun _ kont => XS.iconst X137.here hx rfl (hb hby own_d4_27) kont) ?_
  show own_Go p.tables e below _ (T137.setTop (mkF m 28 #[.val (.ref a5), .val (.int i5), .val (.int l5), .val (.int t5), .val (.int r5), .val (.int b5)] [(.int (2 : Int32)), (.int ((4 : Int32) * i5)), (.ref ed)]))
  refine own_go (fun _ kont => XS.iadd X137.here hx rfl (hb hby own_d4_28) rfl kont) ?_
  show own_Go p.tables e below _ (T137.setTop (mkF m 29 #[.val (.ref a5), .val (.int i5), .val (.int l5), .val (.int t5), .val (.int r5), .val (.int b5)] [(.int (((4 : Int32) * i5) + (2 : Int32))), (.ref ed)]))
  refine own_go (fun _ kont => XS.iload X137.here hx rfl (hb hby own_d4_29) rfl kont) ?_
  show own_Go p.tables e below _ (T137.setTop (mkF m 31 #[.val (.ref a5), .val (.int i5), .val (.int l5), .val (.int t5), .val (.int r5), .val (.int b5)] [(.int r5), (.int (((4 : Int32) * i5) + (2 : Int32))), (.ref ed)]))
  refine own_iast X137 hx hZ e137 V_ed_135 (4 * n + 2) (own_ix (4 * i5 + 2) (4 * n + 2) (own_a4 i5 2 n 2 hi hn (by decide) (by decide))).1 (own_ix (4 * i5 + 2) (4 * n + 2) (own_a4 i5 2 n 2 hi hn (by decide) (by decide))).2 (by omega) (hb hby own_d4_31) ?_
  intro T138 h138 X138 e138 W138
  have E_a5_139 : Exa Z h138 a5 "com/example/drawtree/drawtree/RectList" := Exa.wr W138 E_a5_132
  have F_a5_edges_140 : Fld Z h138 a5 "com/example/drawtree/drawtree/RectList" "edges" "[I" (.ref ed) := Fld.other W138 F_a5_edges_133 (Or.inl n1)
  have F_a5_size_141 : Fld Z h138 a5 "com/example/drawtree/drawtree/RectList" "size" "I" (.int k) := Fld.other W138 F_a5_size_134 (Or.inl n1)
  have V_ed_142 : own_Av Z h138 ed kE .int 16 (fun x => if x = (4 * n + 2) then .int r5 else (fun x => if x = (4 * n + 1) then .int t5 else (fun x => if x = (4 * n) then .int l5 else (fun y => Value.int (g y)) x) x) x) := own_Av.set V_ed_135 W138 (by omega)
  have N143 := Fr.snoc X138 N136 g1
  have Z143 : n0 ≤ h138.size := by rw [W138.size]; exact Z136
  have K143 : Keep h0 h138 [ed] := Keep.wr K136 W138 (Or.inl (by simp))
  show own_Go p.tables e below _ (T138.setTop (mkF m 32 #[.val (.ref a5), .val (.int i5), .val (.int l5), .val (.int t5), .val (.int r5), .val (.int b5)] []))
  refine own_go (fun _ kont => XS.aloadN X138.here hx rfl (hb hby own_d4_32) rfl rfl kont) ?_
  show own_Go p.tables e below _ (T138.setTop (mkF m 33 #[.val (.ref a5), .val (.int i5), .val (.int l5), .val (.int t5), .val (.int r5), .val (.int b5)] [(.ref a5)]))
  obtain ⟨T144, X144, e144, st144⟩ := getF X138 hx hZ hown (host := "") (Or.inl (hw _ (List.mem_of_getElem? (i := 11) rfl))) Via.refl e138 F_a5_edges_140 (g := (mkF m 33 #[.val (.ref a5), .val (.int i5), .val (.int l5), .val (.int t5), .val (.int r5), .val (.int b5)] [(.ref a5)])) rfl rfl (hb hby own_d4_33)
  refine own_go st144 ?_
  show own_Go p.tables e below _ (T144.setTop (mkF m 36 #[.val (.ref a5), .val (.int i5), .val (.int l5), .val (.int t5), .val (.int r5), .val (.int b5)] [(.ref ed)]))
  refine own_go (fun _ kont => XS.iconst X144.here hx rfl (hb hby own_d4_36) kont) ?_
  show own_Go p.tables e below _ (T144.setTop (mkF m 37 #[.val (.ref a5), .val (.int i5), .val (.int l5), .val (.int t5), .val (.int r5), .val (.int b5)] [(.int (4 : Int32)), (.ref ed)]))
  refine own_go (fun _ kont => XS.iloadN X144.here hx rfl (hb hby own_d4_37) rfl kont) ?_
  show own_Go p.tables e below _ (T144.setTop (mkF m 38 #[.val (.ref a5), .val (.int i5), .val (.int l5), .val (.int t5), .val (.int r5), .val (.int b5)] [(.int i5), (.int (4 : Int32)), (.ref ed)]))
  refine own_go (fun _ kont => XS.imul X144.here hx rfl (hb hby own_d4_38) rfl kont) ?_
  show own_Go p.tables e below _ (T144.setTop (mkF m 39 #[.val (.ref a5), .val (.int i5), .val (.int l5), .val (.int t5), .val (.int r5), .val (.int b5)] [(.int ((4 : Int32) * i5)), (.ref ed)]))
  refine own_go (fun _ kont => XS.iconst X144.here hx rfl (hb hby own_d4_39) kont) ?_
  show own_Go p.tables e below _ (T144.setTop (mkF m 40 #[.val (.ref a5), .val (.int i5), .val (.int l5), .val (.int t5), .val (.int r5), .val (.int b5)] [(.int (3 : Int32)), (.int ((4 : Int32) * i5)), (.ref ed)]))
  refine own_go (fun _ kont => XS.iadd X144.here hx rfl (hb hby own_d4_40) rfl kont) ?_
  show own_Go p.tables e below _ (T144.setTop (mkF m 41 #[.val (.ref a5), .val (.int i5), .val (.int l5), .val (.int t5), .val (.int r5), .val (.int b5)] [(.int (((4 : Int32) * i5) + (3 : Int32))), (.ref ed)]))
  refine own_go (fun _ kont => XS.iload X144.here hx rfl (hb hby own_d4_41) rfl kont) ?_
  show own_Go p.tables e below _ (T144.setTop (mkF m 43 #[.val (.ref a5), .val (.int i5), .val (.int l5), .val (.int t5), .val (.int r5), .val (.int b5)] [(.int b5), (.int (((4 : Int32) * i5) + (3 : Int32))), (.ref ed)]))
  refine own_iast X144 hx hZ e144 V_ed_142 (4 * n + 3) (own_ix (4 * i5 + 3) (4 * n + 3) (own_a4 i5 3 n 3 hi hn (by decide) (by decide))).1 (own_ix (4 * i5 + 3) (4 * n + 3) (own_a4 i5 3 n 3 hi hn (by decide) (by decide))).2 (by omega) (hb hby own_d4_43) ?_
  intro T145 h145 X145 e145 W145
  have E_a5_146 : Exa Z h145 a5 "com/example/drawtree/drawtree/RectList" := Exa.wr W145 E_a5_139
  have F_a5_edges_147 : Fld Z h145 a5 "com/example/drawtree/drawtree/RectList" "edges" "[I" (.ref ed) := Fld.other W145 F_a5_edges_140 (Or.inl n1)
  have F_a5_size_148 : Fld Z h145 a5 "com/example/drawtree/drawtree/RectList" "size" "I" (.int k) := Fld.other W145 F_a5_size_141 (Or.inl n1)
  have V_ed_149 : own_Av Z h145 ed kE .int 16 (fun x => if x = (4 * n + 3) then .int b5 else (fun x => if x = (4 * n + 2) then .int r5 else (fun x => if x = (4 * n + 1) then .int t5 else (fun x => if x = (4 * n) then .int l5 else (fun y => Value.int (g y)) x) x) x) x) := own_Av.set V_ed_142 W145 (by omega)
  have N150 := Fr.snoc X145 N143 g1
  have Z150 : n0 ≤ h145.size := by rw [W145.size]; exact Z143
  have K150 : Keep h0 h145 [ed] := Keep.wr K143 W145 (Or.inl (by simp))
  show own_Go p.tables e below _ (T145.setTop (mkF m 44 #[.val (.ref a5), .val (.int i5), .val (.int l5), .val (.int t5), .val (.int r5), .val (.int b5)] []))
  have VV : own_Av Z h145 ed kE .int 16 (fun y => Value.int ((own_set g n l5 t5 r5 b5) y)) := own_Av.congr V_ed_149 (fun y hy => by by_cases q1 : y = 4 * n + 3 <;> by_cases q2 : y = 4 * n + 2 <;> by_cases q3 : y = 4 * n + 1 <;> by_cases q4 : y = 4 * n <;> simp [own_set, q1, q2, q3, q4])
  exact own_retV X145 hx hlk hret (hb hby own_d4_44) (by rw [e145]; exact ⟨rfl, N150, K150, VV⟩) (by decide) (by decide)
theorem own_rm3_ef (m : MethodId) (a5 : Addr) (l5 : Int32) (t5 : Int32) (r5 : Int32) (b5 : Int32)  : entryFrame m #[(.ref a5), (.int l5), (.int t5), (.int r5), (.int b5)] 5 = mkF m 0 #[.val (.ref a5), .val (.int l5), .val (.int t5), .val (.int r5), .val (.int b5)] [] := by first | (simp [entryFrame, mkF, argsToLocals, Value.category, maxLocals]; done) | rfl
set_option maxRecDepth 65536 in
set_option maxHeartbeats 40000000 in
theorem own_rm3 (l : Launch) (Z : State) (a0 : Array Value) (hw : ∀ d ∈ tables_1, d.before a0 Z = true) (a5 : Addr) (l5 : Int32) (t5 : Int32) (r5 : Int32) (b5 : Int32) (h0 : Heap) (n0 : Nat) (Z0 : n0 ≤ h0.size) (ed : Addr) (kE : ClassId) (k : Int32) (n : Nat) (g : Nat → Int32) (B : own_Rl Z h0 a5 (.ref ed) k) (V1 : own_Av Z h0 ed kE .int 16 (fun y => Value.int (g y))) (hi : k.toInt = (n : Int)) (hn : n < 4) (g1 : n0 ≤ ed) (n1 : a5 ≠ ed) (g2 : n0 ≤ a5) :
    own_Met l (⟨"com/example/drawtree/drawtree/RectList", "add", "(IIII)V"⟩ : MethodName) (Jvm.Cond.code (⟨"com/example/drawtree/drawtree/RectList", "add", "(IIII)V"⟩ : MethodName) prog_58_method_14_code 5 none :: []) ({ frames := 1, cells := 0, slots := 0, locals := 17 } : Room) Z h0 #[(.ref a5), (.int l5), (.int t5), (.int r5), (.int b5)] (fun v h L => v = none ∧ Fr n0 L ∧ Keep h0 h [a5, ed] ∧ own_Rl Z h a5 (.ref ed) (k + 1) ∧ own_Av Z h ed kE .int 16 (fun y => Value.int ((own_set g n l5 t5 r5 b5) y))) := by
  refine own_body (pn := own_pn_3) ?_
  intro p e s m below meth c s₁ hx hby hml hown hnm hret hlk hZ X0 e0
  have N0 := Fr.nil n0
  refine own_go (fun _ kont => castTop (own_rm3_ef m a5 l5 t5 r5 b5 ) kont) ?_
  show own_Go p.tables e below _ (s₁.setTop (mkF m 0 #[.val (.ref a5), .val (.int l5), .val (.int t5), .val (.int r5), .val (.int b5)] []))
  have K0 : Keep h0 h0 [a5, ed] := Keep.refl _ _
  obtain ⟨E_151, F_152, G_153⟩ := B
  refine own_go (fun _ kont => XS.iconst X0.here hx rfl (hb hby own_d3_0) kont) ?_
  show own_Go p.tables e below _ (s₁.setTop (mkF m 1 #[.val (.ref a5), .val (.int l5), .val (.int t5), .val (.int r5), .val (.int b5)] [(.int (4 : Int32))]))
  refine own_go (fun _ kont => XS.aloadN X0.here hx rfl (hb hby own_d3_1) rfl rfl kont) ?_
  show own_Go p.tables e below _ (s₁.setTop (mkF m 2 #[.val (.ref a5), .val (.int l5), .val (.int t5), .val (.int r5), .val (.int b5)] [(.ref a5), (.int (4 : Int32))]))
  obtain ⟨T154, X154, e154, st154⟩ := getF X0 hx hZ hown (host := "") (Or.inl (hw _ (List.mem_of_getElem? (i := 18) rfl))) Via.refl e0 G_153 (g := (mkF m 2 #[.val (.ref a5), .val (.int l5), .val (.int t5), .val (.int r5), .val (.int b5)] [(.ref a5), (.int (4 : Int32))])) rfl rfl (hb hby own_d3_2)
  refine own_go st154 ?_
  show own_Go p.tables e below _ (T154.setTop (mkF m 5 #[.val (.ref a5), .val (.int l5), .val (.int t5), .val (.int r5), .val (.int b5)] [(.int k), (.int (4 : Int32))]))
  refine own_go (fun _ kont => XS.imul X154.here hx rfl (hb hby own_d3_5) rfl kont) ?_
  show own_Go p.tables e below _ (T154.setTop (mkF m 6 #[.val (.ref a5), .val (.int l5), .val (.int t5), .val (.int r5), .val (.int b5)] [(.int ((4 : Int32) * k))]))
  refine own_go (fun _ kont => XS.aloadN X154.here hx rfl (hb hby own_d3_6) rfl rfl kont) ?_
  show own_Go p.tables e below _ (T154.setTop (mkF m 7 #[.val (.ref a5), .val (.int l5), .val (.int t5), .val (.int r5), .val (.int b5)] [(.ref a5), (.int ((4 : Int32) * k))]))
  obtain ⟨T155, X155, e155, st155⟩ := getF X154 hx hZ hown (host := "") (Or.inl (hw _ (List.mem_of_getElem? (i := 11) rfl))) Via.refl e154 F_152 (g := (mkF m 7 #[.val (.ref a5), .val (.int l5), .val (.int t5), .val (.int r5), .val (.int b5)] [(.ref a5), (.int ((4 : Int32) * k))])) rfl rfl (hb hby own_d3_7)
  refine own_go st155 ?_
  show own_Go p.tables e below _ (T155.setTop (mkF m 10 #[.val (.ref a5), .val (.int l5), .val (.int t5), .val (.int r5), .val (.int b5)] [(.ref ed), (.int ((4 : Int32) * k))]))
  refine own_alen X155 hx hZ e155 V1 (16 : Int32) (by decide) (hb hby own_d3_10) ?_
  show own_Go p.tables e below _ (T155.setTop (mkF m 11 #[.val (.ref a5), .val (.int l5), .val (.int t5), .val (.int r5), .val (.int b5)] [(.int (16 : Int32)), (.int ((4 : Int32) * k))]))
  refine own_go (fun _ kont => XS.icmpYes X155.here hx rfl (pc0 := 11) (pc' := 32) rfl (hb hby own_d3_11) rfl (XT.ii_ne_t (own_n16 k n hi hn)) (by decide) (by decide) kont) ?_
  show own_Go p.tables e below _ (T155.setTop (mkF m 32 #[.val (.ref a5), .val (.int l5), .val (.int t5), .val (.int r5), .val (.int b5)] []))
  refine own_go (fun _ kont => XS.aloadN X155.here hx rfl (hb hby own_d3_32) rfl rfl kont) ?_
  show own_Go p.tables e below _ (T155.setTop (mkF m 33 #[.val (.ref a5), .val (.int l5), .val (.int t5), .val (.int r5), .val (.int b5)] [(.ref a5)]))
  refine own_go (fun _ kont => XS.dup X155.here hx rfl (hb hby own_d3_33) rfl rfl kont) ?_
  show own_Go p.tables e below _ (T155.setTop (mkF m 34 #[.val (.ref a5), .val (.int l5), .val (.int t5), .val (.int r5), .val (.int b5)] [(.ref a5), (.ref a5)]))
  obtain ⟨T156, X156, e156, st156⟩ := getF X155 hx hZ hown (host := "") (Or.inl (hw _ (List.mem_of_getElem? (i := 18) rfl))) Via.refl e155 G_153 (g := (mkF m 34 #[.val (.ref a5), .val (.int l5), .val (.int t5), .val (.int r5), .val (.int b5)] [(.ref a5), (.ref a5)])) rfl rfl (hb hby own_d3_34)
  refine own_go st156 ?_
  show own_Go p.tables e below _ (T156.setTop (mkF m 37 #[.val (.ref a5), .val (.int l5), .val (.int t5), .val (.int r5), .val (.int b5)] [(.int k), (.ref a5)]))
  refine own_go (fun _ kont => XS.iconst X156.here hx rfl (hb hby own_d3_37) kont) ?_
  show own_Go p.tables e below _ (T156.setTop (mkF m 38 #[.val (.ref a5), .val (.int l5), .val (.int t5), .val (.int r5), .val (.int b5)] [(.int (1 : Int32)), (.int k), (.ref a5)]))
  refine own_go (fun _ kont => XS.iadd X156.here hx rfl (hb hby own_d3_38) rfl kont) ?_
  show own_Go p.tables e below _ (T156.setTop (mkF m 39 #[.val (.ref a5), .val (.int l5), .val (.int t5), .val (.int r5), .val (.int b5)] [(.int (k + (1 : Int32))), (.ref a5)]))
  obtain ⟨T157, h157, X157, e157, W157, st157⟩ := putF X156 hx hZ hown (host := "") (Or.inl (hw _ (List.mem_of_getElem? (i := 18) rfl))) Via.refl e156 G_153 E_151 (Or.inl (hw _ (List.mem_of_getElem? (i := 19) rfl))) (hw _ (List.mem_of_getElem? (i := 2) rfl)) (ty := .int) (by decide) rfl rfl (g := (mkF m 39 #[.val (.ref a5), .val (.int l5), .val (.int t5), .val (.int r5), .val (.int b5)] [(.int (k + (1 : Int32))), (.ref a5)])) rfl rfl (hb hby own_d3_39)
  have E_a5_158 : Exa Z h157 a5 "com/example/drawtree/drawtree/RectList" := Exa.wr W157 E_151
  have F_a5_edges_159 : Fld Z h157 a5 "com/example/drawtree/drawtree/RectList" "edges" "[I" (.ref ed) := Fld.other W157 F_152 (Or.inr (slot_ne (t := (.array .int)) (t' := .int) (Or.inl (hw _ (List.mem_of_getElem? (i := 12) rfl))) (Or.inl (hw _ (List.mem_of_getElem? (i := 19) rfl))) (by decide) (by decide) (by decide)))
  have F_a5_size_160 : Fld Z h157 a5 "com/example/drawtree/drawtree/RectList" "size" "I" (.int (k + (1 : Int32))) := Fld.same W157 G_153
  have V_ed_161 : own_Av Z h157 ed kE .int 16 (fun y => Value.int (g y)) := own_Av.other W157 V1 (Ne.symm n1)
  have N162 := Fr.snoc X157 N0 g2
  have Z162 : n0 ≤ h157.size := by rw [W157.size]; exact Z0
  have K162 : Keep h0 h157 [a5, ed] := Keep.wr K0 W157 (Or.inl (by simp))
  refine own_go st157 ?_
  show own_Go p.tables e below _ (T157.setTop (mkF m 42 #[.val (.ref a5), .val (.int l5), .val (.int t5), .val (.int r5), .val (.int b5)] []))
  refine own_go (fun _ kont => XS.aloadN X157.here hx rfl (hb hby own_d3_42) rfl rfl kont) ?_
  show own_Go p.tables e below _ (T157.setTop (mkF m 43 #[.val (.ref a5), .val (.int l5), .val (.int t5), .val (.int r5), .val (.int b5)] [(.ref a5)]))
  refine own_go (fun _ kont => XS.aloadN X157.here hx rfl (hb hby own_d3_43) rfl rfl kont) ?_
  show own_Go p.tables e below _ (T157.setTop (mkF m 44 #[.val (.ref a5), .val (.int l5), .val (.int t5), .val (.int r5), .val (.int b5)] [(.ref a5), (.ref a5)]))
  obtain ⟨T163, X163, e163, st163⟩ := getF X157 hx hZ hown (host := "") (Or.inl (hw _ (List.mem_of_getElem? (i := 18) rfl))) Via.refl e157 F_a5_size_160 (g := (mkF m 44 #[.val (.ref a5), .val (.int l5), .val (.int t5), .val (.int r5), .val (.int b5)] [(.ref a5), (.ref a5)])) rfl rfl (hb hby own_d3_44)
  refine own_go st163 ?_
  show own_Go p.tables e below _ (T163.setTop (mkF m 47 #[.val (.ref a5), .val (.int l5), .val (.int t5), .val (.int r5), .val (.int b5)] [(.int (k + (1 : Int32))), (.ref a5)]))
  refine own_go (fun _ kont => XS.iconst X163.here hx rfl (hb hby own_d3_47) kont) ?_
  show own_Go p.tables e below _ (T163.setTop (mkF m 48 #[.val (.ref a5), .val (.int l5), .val (.int t5), .val (.int r5), .val (.int b5)] [(.int (1 : Int32)), (.int (k + (1 : Int32))), (.ref a5)]))
  refine own_go (fun _ kont => XS.isub X163.here hx rfl (hb hby own_d3_48) rfl kont) ?_
  show own_Go p.tables e below _ (T163.setTop (mkF m 49 #[.val (.ref a5), .val (.int l5), .val (.int t5), .val (.int r5), .val (.int b5)] [(.int ((k + (1 : Int32)) - (1 : Int32))), (.ref a5)]))
  refine own_go (fun _ kont => XS.iloadN X163.here hx rfl (hb hby own_d3_49) rfl kont) ?_
  show own_Go p.tables e below _ (T163.setTop (mkF m 50 #[.val (.ref a5), .val (.int l5), .val (.int t5), .val (.int r5), .val (.int b5)] [(.int l5), (.int ((k + (1 : Int32)) - (1 : Int32))), (.ref a5)]))
  refine own_go (fun _ kont => XS.iloadN X163.here hx rfl (hb hby own_d3_50) rfl kont) ?_
  show own_Go p.tables e below _ (T163.setTop (mkF m 51 #[.val (.ref a5), .val (.int l5), .val (.int t5), .val (.int r5), .val (.int b5)] [(.int t5), (.int l5), (.int ((k + (1 : Int32)) - (1 : Int32))), (.ref a5)]))
  refine own_go (fun _ kont => XS.iloadN X163.here hx rfl (hb hby own_d3_51) rfl kont) ?_
  show own_Go p.tables e below _ (T163.setTop (mkF m 52 #[.val (.ref a5), .val (.int l5), .val (.int t5), .val (.int r5), .val (.int b5)] [(.int r5), (.int t5), (.int l5), (.int ((k + (1 : Int32)) - (1 : Int32))), (.ref a5)]))
  refine own_go (fun _ kont => XS.iload X163.here hx rfl (hb hby own_d3_52) rfl kont) ?_
  show own_Go p.tables e below _ (T163.setTop (mkF m 54 #[.val (.ref a5), .val (.int l5), .val (.int t5), .val (.int r5), .val (.int b5)] [(.int b5), (.int r5), (.int t5), (.int l5), (.int ((k + (1 : Int32)) - (1 : Int32))), (.ref a5)]))
  refine own_callV X163 hx hZ (z := (⟨"com/example/drawtree/drawtree/RectList", "set", "(IIIII)V"⟩ : MethodName)) (argsL := [(.int ((k + (1 : Int32)) - (1 : Int32))), (.int l5), (.int t5), (.int r5), (.int b5)]) (rest := []) (W := 0) hown (hw _ (List.mem_of_getElem? (i := 20) rfl)) (hw _ (List.mem_of_getElem? (i := 21) rfl)) (hw _ (List.mem_of_getElem? (i := 23) rfl)) (hw _ (List.mem_of_getElem? (i := 22) rfl)) (hw _ (List.mem_of_getElem? (i := 24) rfl)) (hw _ (List.mem_of_getElem? (i := 3) rfl)) (by decide) (E_a5_158) (own_rm4 l Z a0 hw a5 (k + 1 - 1) l5 t5 r5 b5 h157 n0 Z162 ed kE (k + 1) n g ⟨E_a5_158, F_a5_edges_159, F_a5_size_160⟩ V_ed_161 (own_ud k n hi hn) hn g1 n1) e163 (by decide) (by decide) (by decide) (by decide) (by rw [hml]; rfl) (lenOf own_pd__IIIII_V rfl) rfl (Nat.le_of_eq rfl) (hb hby own_d3_54) ?_
  rintro _ T164 L164 X164 ⟨rfl, N164, K164, V164⟩
  have NA164 := Fr.app N162 N164
  have E_a5_165 : Exa Z T164.heap a5 "com/example/drawtree/drawtree/RectList" := Exa.keep E_a5_158 K164
  have F_a5_edges_166 : Fld Z T164.heap a5 "com/example/drawtree/drawtree/RectList" "edges" "[I" (.ref ed) := Fld.keep F_a5_edges_159 K164 (ninS n1 nin0)
  have F_a5_size_167 : Fld Z T164.heap a5 "com/example/drawtree/drawtree/RectList" "size" "I" (.int (k + (1 : Int32))) := Fld.keep F_a5_size_160 K164 (ninS n1 nin0)
  have Z168 : n0 ≤ T164.heap.size := Nat.le_trans Z162 K164.1
  have K168_ : Keep h0 T164.heap [a5, ed] := Keep.trans K162 K164 (allS (Or.inl (by simp)) all0)
  show own_Go p.tables e below _ (T164.setTop (mkF m 57 #[.val (.ref a5), .val (.int l5), .val (.int t5), .val (.int r5), .val (.int b5)] []))
  exact own_retV X164 hx hlk hret (hb hby own_d3_57) (⟨rfl, NA164, K168_, ⟨E_a5_165, F_a5_edges_166, F_a5_size_167⟩, V164⟩) (by decide) (by decide)
theorem own_rm5_ef (m : MethodId) (a5 : Addr)  : entryFrame m #[(.ref a5)] 1 = mkF m 0 #[.val (.ref a5)] [] := by first | (simp [entryFrame, mkF, argsToLocals, Value.category, maxLocals]; done) | rfl
set_option maxRecDepth 65536 in
set_option maxHeartbeats 40000000 in
theorem own_rm5 (l : Launch) (Z : State) (a0 : Array Value) (hw : ∀ d ∈ tables_1, d.before a0 Z = true) (a5 : Addr) (h0 : Heap) (n0 : Nat) (Z0 : n0 ≤ h0.size) (ed : Addr) (k : Int32) (B : own_Rl Z h0 a5 (.ref ed) k) :
    own_Met l (⟨"com/example/drawtree/drawtree/RectList", "size", "()I"⟩ : MethodName) (Jvm.Cond.code (⟨"com/example/drawtree/drawtree/RectList", "size", "()I"⟩ : MethodName) prog_58_method_3_code 1 (some .int) :: []) ({ frames := 0, cells := 0, slots := 0, locals := 0 } : Room) Z h0 #[(.ref a5)] (fun v h L => v = some (.int k) ∧ Fr n0 L ∧ h = h0) := by
  refine own_body (pn := own_pn_5) ?_
  intro p e s m below meth c s₁ hx hby hml hown hnm hret hlk hZ X0 e0
  have N0 := Fr.nil n0
  refine own_go (fun _ kont => castTop (own_rm5_ef m a5 ) kont) ?_
  show own_Go p.tables e below _ (s₁.setTop (mkF m 0 #[.val (.ref a5)] []))
  obtain ⟨E_169, F_170, G_171⟩ := B
  refine own_go (fun _ kont => XS.aloadN X0.here hx rfl (hb hby own_d5_0) rfl rfl kont) ?_
  show own_Go p.tables e below _ (s₁.setTop (mkF m 1 #[.val (.ref a5)] [(.ref a5)]))
  obtain ⟨T172, X172, e172, st172⟩ := getF X0 hx hZ hown (host := "") (Or.inl (hw _ (List.mem_of_getElem? (i := 18) rfl))) Via.refl e0 G_171 (g := (mkF m 1 #[.val (.ref a5)] [(.ref a5)])) rfl rfl (hb hby own_d5_1)
  refine own_go st172 ?_
  show own_Go p.tables e below _ (T172.setTop (mkF m 4 #[.val (.ref a5)] [(.int k)]))
  exact own_retI X172 hx hlk hret (by simp) rfl (hb hby own_d5_4) (⟨rfl, N0, e172⟩) (by decide) (by decide)
theorem own_rm6_ef (m : MethodId) (a5 : Addr) (i5 : Int32)  : entryFrame m #[(.ref a5), (.int i5)] 2 = mkF m 0 #[.val (.ref a5), .val (.int i5)] [] := by first | (simp [entryFrame, mkF, argsToLocals, Value.category, maxLocals]; done) | rfl
set_option maxRecDepth 65536 in
set_option maxHeartbeats 40000000 in
theorem own_rm6 (l : Launch) (Z : State) (a0 : Array Value) (hw : ∀ d ∈ tables_1, d.before a0 Z = true) (a5 : Addr) (i5 : Int32) (h0 : Heap) (n0 : Nat) (Z0 : n0 ≤ h0.size) (ed : Addr) (kE : ClassId) (k : Int32) (n : Nat) (g : Nat → Int32) (B : own_Rl Z h0 a5 (.ref ed) k) (V1 : own_Av Z h0 ed kE .int 16 (fun y => Value.int (g y))) (hi : i5.toInt = (n : Int)) (hn : n < 4) :
    own_Met l (⟨"com/example/drawtree/drawtree/RectList", "left", "(I)I"⟩ : MethodName) (Jvm.Cond.code (⟨"com/example/drawtree/drawtree/RectList", "left", "(I)I"⟩ : MethodName) prog_58_method_6_code 2 (some .int) :: []) ({ frames := 0, cells := 0, slots := 0, locals := 0 } : Room) Z h0 #[(.ref a5), (.int i5)] (fun v h L => v = some (.int (g (4 * n))) ∧ Fr n0 L ∧ h = h0) := by
  refine own_body (pn := own_pn_6) ?_
  intro p e s m below meth c s₁ hx hby hml hown hnm hret hlk hZ X0 e0
  have N0 := Fr.nil n0
  refine own_go (fun _ kont => castTop (own_rm6_ef m a5 i5 ) kont) ?_
  show own_Go p.tables e below _ (s₁.setTop (mkF m 0 #[.val (.ref a5), .val (.int i5)] []))
  obtain ⟨E_173, F_174, G_175⟩ := B
  refine own_go (fun _ kont => XS.aloadN X0.here hx rfl (hb hby own_d6_0) rfl rfl kont) ?_
  show own_Go p.tables e below _ (s₁.setTop (mkF m 1 #[.val (.ref a5), .val (.int i5)] [(.ref a5)]))
  obtain ⟨T176, X176, e176, st176⟩ := getF X0 hx hZ hown (host := "") (Or.inl (hw _ (List.mem_of_getElem? (i := 11) rfl))) Via.refl e0 F_174 (g := (mkF m 1 #[.val (.ref a5), .val (.int i5)] [(.ref a5)])) rfl rfl (hb hby own_d6_1)
  refine own_go st176 ?_
  show own_Go p.tables e below _ (T176.setTop (mkF m 4 #[.val (.ref a5), .val (.int i5)] [(.ref ed)]))
  refine own_go (fun _ kont => XS.iconst X176.here hx rfl (hb hby own_d6_4) kont) ?_
  show own_Go p.tables e below _ (T176.setTop (mkF m 5 #[.val (.ref a5), .val (.int i5)] [(.int (4 : Int32)), (.ref ed)]))
  refine own_go (fun _ kont => XS.iloadN X176.here hx rfl (hb hby own_d6_5) rfl kont) ?_
  show own_Go p.tables e below _ (T176.setTop (mkF m 6 #[.val (.ref a5), .val (.int i5)] [(.int i5), (.int (4 : Int32)), (.ref ed)]))
  refine own_go (fun _ kont => XS.imul X176.here hx rfl (hb hby own_d6_6) rfl kont) ?_
  show own_Go p.tables e below _ (T176.setTop (mkF m 7 #[.val (.ref a5), .val (.int i5)] [(.int ((4 : Int32) * i5)), (.ref ed)]))
  refine own_iald X176 hx hZ e176 V1 (4 * n) (own_ix (4 * i5) (4 * n) (own_m4 i5 n hi hn)).1 (own_ix (4 * i5) (4 * n) (own_m4 i5 n hi hn)).2 (by omega) (w := .int (g (4 * n))) rfl (hb hby own_d6_7) ?_
  show own_Go p.tables e below _ (T176.setTop (mkF m 8 #[.val (.ref a5), .val (.int i5)] [(.int (g (4 * n)))]))
  exact own_retI X176 hx hlk hret (by simp) rfl (hb hby own_d6_8) (⟨rfl, N0, e176⟩) (by decide) (by decide)
theorem own_rm7_ef (m : MethodId) (a5 : Addr) (i5 : Int32)  : entryFrame m #[(.ref a5), (.int i5)] 2 = mkF m 0 #[.val (.ref a5), .val (.int i5)] [] := by first | (simp [entryFrame, mkF, argsToLocals, Value.category, maxLocals]; done) | rfl
set_option maxRecDepth 65536 in
set_option maxHeartbeats 40000000 in
theorem own_rm7 (l : Launch) (Z : State) (a0 : Array Value) (hw : ∀ d ∈ tables_1, d.before a0 Z = true) (a5 : Addr) (i5 : Int32) (h0 : Heap) (n0 : Nat) (Z0 : n0 ≤ h0.size) (ed : Addr) (kE : ClassId) (k : Int32) (n : Nat) (g : Nat → Int32) (B : own_Rl Z h0 a5 (.ref ed) k) (V1 : own_Av Z h0 ed kE .int 16 (fun y => Value.int (g y))) (hi : i5.toInt = (n : Int)) (hn : n < 4) :
    own_Met l (⟨"com/example/drawtree/drawtree/RectList", "top", "(I)I"⟩ : MethodName) (Jvm.Cond.code (⟨"com/example/drawtree/drawtree/RectList", "top", "(I)I"⟩ : MethodName) prog_58_method_7_code 2 (some .int) :: []) ({ frames := 0, cells := 0, slots := 0, locals := 0 } : Room) Z h0 #[(.ref a5), (.int i5)] (fun v h L => v = some (.int (g (4 * n + 1))) ∧ Fr n0 L ∧ h = h0) := by
  refine own_body (pn := own_pn_7) ?_
  intro p e s m below meth c s₁ hx hby hml hown hnm hret hlk hZ X0 e0
  have N0 := Fr.nil n0
  refine own_go (fun _ kont => castTop (own_rm7_ef m a5 i5 ) kont) ?_
  show own_Go p.tables e below _ (s₁.setTop (mkF m 0 #[.val (.ref a5), .val (.int i5)] []))
  obtain ⟨E_177, F_178, G_179⟩ := B
  refine own_go (fun _ kont => XS.aloadN X0.here hx rfl (hb hby own_d7_0) rfl rfl kont) ?_
  show own_Go p.tables e below _ (s₁.setTop (mkF m 1 #[.val (.ref a5), .val (.int i5)] [(.ref a5)]))
  obtain ⟨T180, X180, e180, st180⟩ := getF X0 hx hZ hown (host := "") (Or.inl (hw _ (List.mem_of_getElem? (i := 11) rfl))) Via.refl e0 F_178 (g := (mkF m 1 #[.val (.ref a5), .val (.int i5)] [(.ref a5)])) rfl rfl (hb hby own_d7_1)
  refine own_go st180 ?_
  show own_Go p.tables e below _ (T180.setTop (mkF m 4 #[.val (.ref a5), .val (.int i5)] [(.ref ed)]))
  refine own_go (fun _ kont => XS.iconst X180.here hx rfl (hb hby own_d7_4) kont) ?_
  show own_Go p.tables e below _ (T180.setTop (mkF m 5 #[.val (.ref a5), .val (.int i5)] [(.int (4 : Int32)), (.ref ed)]))
  refine own_go (fun _ kont => XS.iloadN X180.here hx rfl (hb hby own_d7_5) rfl kont) ?_
  show own_Go p.tables e below _ (T180.setTop (mkF m 6 #[.val (.ref a5), .val (.int i5)] [(.int i5), (.int (4 : Int32)), (.ref ed)]))
  refine own_go (fun _ kont => XS.imul X180.here hx rfl (hb hby own_d7_6) rfl kont) ?_
  show own_Go p.tables e below _ (T180.setTop (mkF m 7 #[.val (.ref a5), .val (.int i5)] [(.int ((4 : Int32) * i5)), (.ref ed)]))
  refine own_go (fun _ kont => XS.iconst X180.here hx rfl (hb hby own_d7_7) kont) ?_
  show own_Go p.tables e below _ (T180.setTop (mkF m 8 #[.val (.ref a5), .val (.int i5)] [(.int (1 : Int32)), (.int ((4 : Int32) * i5)), (.ref ed)]))
  refine own_go (fun _ kont => XS.iadd X180.here hx rfl (hb hby own_d7_8) rfl kont) ?_
  show own_Go p.tables e below _ (T180.setTop (mkF m 9 #[.val (.ref a5), .val (.int i5)] [(.int (((4 : Int32) * i5) + (1 : Int32))), (.ref ed)]))
  refine own_iald X180 hx hZ e180 V1 (4 * n + 1) (own_ix (4 * i5 + 1) (4 * n + 1) (own_a4 i5 1 n 1 hi hn (by decide) (by decide))).1 (own_ix (4 * i5 + 1) (4 * n + 1) (own_a4 i5 1 n 1 hi hn (by decide) (by decide))).2 (by omega) (w := .int (g (4 * n + 1))) rfl (hb hby own_d7_9) ?_
  show own_Go p.tables e below _ (T180.setTop (mkF m 10 #[.val (.ref a5), .val (.int i5)] [(.int (g (4 * n + 1)))]))
  exact own_retI X180 hx hlk hret (by simp) rfl (hb hby own_d7_10) (⟨rfl, N0, e180⟩) (by decide) (by decide)
theorem own_rm8_ef (m : MethodId) (a5 : Addr) (i5 : Int32)  : entryFrame m #[(.ref a5), (.int i5)] 2 = mkF m 0 #[.val (.ref a5), .val (.int i5)] [] := by first | (simp [entryFrame, mkF, argsToLocals, Value.category, maxLocals]; done) | rfl
set_option maxRecDepth 65536 in
set_option maxHeartbeats 40000000 in
theorem own_rm8 (l : Launch) (Z : State) (a0 : Array Value) (hw : ∀ d ∈ tables_1, d.before a0 Z = true) (a5 : Addr) (i5 : Int32) (h0 : Heap) (n0 : Nat) (Z0 : n0 ≤ h0.size) (ed : Addr) (kE : ClassId) (k : Int32) (n : Nat) (g : Nat → Int32) (B : own_Rl Z h0 a5 (.ref ed) k) (V1 : own_Av Z h0 ed kE .int 16 (fun y => Value.int (g y))) (hi : i5.toInt = (n : Int)) (hn : n < 4) :
    own_Met l (⟨"com/example/drawtree/drawtree/RectList", "right", "(I)I"⟩ : MethodName) (Jvm.Cond.code (⟨"com/example/drawtree/drawtree/RectList", "right", "(I)I"⟩ : MethodName) prog_58_method_8_code 2 (some .int) :: []) ({ frames := 0, cells := 0, slots := 0, locals := 0 } : Room) Z h0 #[(.ref a5), (.int i5)] (fun v h L => v = some (.int (g (4 * n + 2))) ∧ Fr n0 L ∧ h = h0) := by
  refine own_body (pn := own_pn_8) ?_
  intro p e s m below meth c s₁ hx hby hml hown hnm hret hlk hZ X0 e0
  have N0 := Fr.nil n0
  refine own_go (fun _ kont => castTop (own_rm8_ef m a5 i5 ) kont) ?_
  show own_Go p.tables e below _ (s₁.setTop (mkF m 0 #[.val (.ref a5), .val (.int i5)] []))
  obtain ⟨E_181, F_182, G_183⟩ := B
  refine own_go (fun _ kont => XS.aloadN X0.here hx rfl (hb hby own_d8_0) rfl rfl kont) ?_
  show own_Go p.tables e below _ (s₁.setTop (mkF m 1 #[.val (.ref a5), .val (.int i5)] [(.ref a5)]))
  obtain ⟨T184, X184, e184, st184⟩ := getF X0 hx hZ hown (host := "") (Or.inl (hw _ (List.mem_of_getElem? (i := 11) rfl))) Via.refl e0 F_182 (g := (mkF m 1 #[.val (.ref a5), .val (.int i5)] [(.ref a5)])) rfl rfl (hb hby own_d8_1)
  refine own_go st184 ?_
  show own_Go p.tables e below _ (T184.setTop (mkF m 4 #[.val (.ref a5), .val (.int i5)] [(.ref ed)]))
  refine own_go (fun _ kont => XS.iconst X184.here hx rfl (hb hby own_d8_4) kont) ?_
  show own_Go p.tables e below _ (T184.setTop (mkF m 5 #[.val (.ref a5), .val (.int i5)] [(.int (4 : Int32)), (.ref ed)]))
  refine own_go (fun _ kont => XS.iloadN X184.here hx rfl (hb hby own_d8_5) rfl kont) ?_
  show own_Go p.tables e below _ (T184.setTop (mkF m 6 #[.val (.ref a5), .val (.int i5)] [(.int i5), (.int (4 : Int32)), (.ref ed)]))
  refine own_go (fun _ kont => XS.imul X184.here hx rfl (hb hby own_d8_6) rfl kont) ?_
  show own_Go p.tables e below _ (T184.setTop (mkF m 7 #[.val (.ref a5), .val (.int i5)] [(.int ((4 : Int32) * i5)), (.ref ed)]))
  refine own_go (fun _ kont => XS.iconst X184.here hx rfl (hb hby own_d8_7) kont) ?_
  show own_Go p.tables e below _ (T184.setTop (mkF m 8 #[.val (.ref a5), .val (.int i5)] [(.int (2 : Int32)), (.int ((4 : Int32) * i5)), (.ref ed)]))
  refine own_go (fun _ kont => XS.iadd X184.here hx rfl (hb hby own_d8_8) rfl kont) ?_
  show own_Go p.tables e below _ (T184.setTop (mkF m 9 #[.val (.ref a5), .val (.int i5)] [(.int (((4 : Int32) * i5) + (2 : Int32))), (.ref ed)]))
  refine own_iald X184 hx hZ e184 V1 (4 * n + 2) (own_ix (4 * i5 + 2) (4 * n + 2) (own_a4 i5 2 n 2 hi hn (by decide) (by decide))).1 (own_ix (4 * i5 + 2) (4 * n + 2) (own_a4 i5 2 n 2 hi hn (by decide) (by decide))).2 (by omega) (w := .int (g (4 * n + 2))) rfl (hb hby own_d8_9) ?_
  show own_Go p.tables e below _ (T184.setTop (mkF m 10 #[.val (.ref a5), .val (.int i5)] [(.int (g (4 * n + 2)))]))
  exact own_retI X184 hx hlk hret (by simp) rfl (hb hby own_d8_10) (⟨rfl, N0, e184⟩) (by decide) (by decide)
theorem own_rm9_ef (m : MethodId) (a5 : Addr) (i5 : Int32)  : entryFrame m #[(.ref a5), (.int i5)] 2 = mkF m 0 #[.val (.ref a5), .val (.int i5)] [] := by first | (simp [entryFrame, mkF, argsToLocals, Value.category, maxLocals]; done) | rfl
set_option maxRecDepth 65536 in
set_option maxHeartbeats 40000000 in
theorem own_rm9 (l : Launch) (Z : State) (a0 : Array Value) (hw : ∀ d ∈ tables_1, d.before a0 Z = true) (a5 : Addr) (i5 : Int32) (h0 : Heap) (n0 : Nat) (Z0 : n0 ≤ h0.size) (ed : Addr) (kE : ClassId) (k : Int32) (n : Nat) (g : Nat → Int32) (B : own_Rl Z h0 a5 (.ref ed) k) (V1 : own_Av Z h0 ed kE .int 16 (fun y => Value.int (g y))) (hi : i5.toInt = (n : Int)) (hn : n < 4) :
    own_Met l (⟨"com/example/drawtree/drawtree/RectList", "bottom", "(I)I"⟩ : MethodName) (Jvm.Cond.code (⟨"com/example/drawtree/drawtree/RectList", "bottom", "(I)I"⟩ : MethodName) prog_58_method_9_code 2 (some .int) :: []) ({ frames := 0, cells := 0, slots := 0, locals := 0 } : Room) Z h0 #[(.ref a5), (.int i5)] (fun v h L => v = some (.int (g (4 * n + 3))) ∧ Fr n0 L ∧ h = h0) := by
  refine own_body (pn := own_pn_9) ?_
  intro p e s m below meth c s₁ hx hby hml hown hnm hret hlk hZ X0 e0
  have N0 := Fr.nil n0
  refine own_go (fun _ kont => castTop (own_rm9_ef m a5 i5 ) kont) ?_
  show own_Go p.tables e below _ (s₁.setTop (mkF m 0 #[.val (.ref a5), .val (.int i5)] []))
  obtain ⟨E_185, F_186, G_187⟩ := B
  refine own_go (fun _ kont => XS.aloadN X0.here hx rfl (hb hby own_d9_0) rfl rfl kont) ?_
  show own_Go p.tables e below _ (s₁.setTop (mkF m 1 #[.val (.ref a5), .val (.int i5)] [(.ref a5)]))
  obtain ⟨T188, X188, e188, st188⟩ := getF X0 hx hZ hown (host := "") (Or.inl (hw _ (List.mem_of_getElem? (i := 11) rfl))) Via.refl e0 F_186 (g := (mkF m 1 #[.val (.ref a5), .val (.int i5)] [(.ref a5)])) rfl rfl (hb hby own_d9_1)
  refine own_go st188 ?_
  show own_Go p.tables e below _ (T188.setTop (mkF m 4 #[.val (.ref a5), .val (.int i5)] [(.ref ed)]))
  refine own_go (fun _ kont => XS.iconst X188.here hx rfl (hb hby own_d9_4) kont) ?_
  show own_Go p.tables e below _ (T188.setTop (mkF m 5 #[.val (.ref a5), .val (.int i5)] [(.int (4 : Int32)), (.ref ed)]))
  refine own_go (fun _ kont => XS.iloadN X188.here hx rfl (hb hby own_d9_5) rfl kont) ?_
  show own_Go p.tables e below _ (T188.setTop (mkF m 6 #[.val (.ref a5), .val (.int i5)] [(.int i5), (.int (4 : Int32)), (.ref ed)]))
  refine own_go (fun _ kont => XS.imul X188.here hx rfl (hb hby own_d9_6) rfl kont) ?_
  show own_Go p.tables e below _ (T188.setTop (mkF m 7 #[.val (.ref a5), .val (.int i5)] [(.int ((4 : Int32) * i5)), (.ref ed)]))
  refine own_go (fun _ kont => XS.iconst X188.here hx rfl (hb hby own_d9_7) kont) ?_
  show own_Go p.tables e below _ (T188.setTop (mkF m 8 #[.val (.ref a5), .val (.int i5)] [(.int (3 : Int32)), (.int ((4 : Int32) * i5)), (.ref ed)]))
  refine own_go (fun _ kont => XS.iadd X188.here hx rfl (hb hby own_d9_8) rfl kont) ?_
  show own_Go p.tables e below _ (T188.setTop (mkF m 9 #[.val (.ref a5), .val (.int i5)] [(.int (((4 : Int32) * i5) + (3 : Int32))), (.ref ed)]))
  refine own_iald X188 hx hZ e188 V1 (4 * n + 3) (own_ix (4 * i5 + 3) (4 * n + 3) (own_a4 i5 3 n 3 hi hn (by decide) (by decide))).1 (own_ix (4 * i5 + 3) (4 * n + 3) (own_a4 i5 3 n 3 hi hn (by decide) (by decide))).2 (by omega) (w := .int (g (4 * n + 3))) rfl (hb hby own_d9_9) ?_
  show own_Go p.tables e below _ (T188.setTop (mkF m 10 #[.val (.ref a5), .val (.int i5)] [(.int (g (4 * n + 3)))]))
  exact own_retI X188 hx hlk hret (by simp) rfl (hb hby own_d9_10) (⟨rfl, N0, e188⟩) (by decide) (by decide)
theorem own_rm10_ef (m : MethodId) (a5 : Addr) (j5 : Int32) (k5 : Int32)  : entryFrame m #[(.ref a5), (.int j5), (.int k5)] 3 = mkF m 0 #[.val (.ref a5), .val (.int j5), .val (.int k5)] [] := by first | (simp [entryFrame, mkF, argsToLocals, Value.category, maxLocals]; done) | rfl
set_option maxRecDepth 65536 in
set_option maxHeartbeats 40000000 in
theorem own_rm10 (l : Launch) (Z : State) (a0 : Array Value) (hw : ∀ d ∈ tables_1, d.before a0 Z = true) (a5 : Addr) (j5 : Int32) (k5 : Int32) (h0 : Heap) (n0 : Nat) (Z0 : n0 ≤ h0.size) (ed : Addr) (kE : ClassId) (k : Int32) (n : Nat) (g : Nat → Int32) (B : own_Rl Z h0 a5 (.ref ed) k) (V1 : own_Av Z h0 ed kE .int 16 (fun y => Value.int (g y))) (hi : j5.toInt = (n : Int)) (hn : n < 4) :
    own_Met l (⟨"com/example/drawtree/drawtree/RectListSetPinLaw", "edge", "(Lcom/example/drawtree/drawtree/RectList;II)I"⟩ : MethodName) (Jvm.Cond.code (⟨"com/example/drawtree/drawtree/RectListSetPinLaw", "edge", "(Lcom/example/drawtree/drawtree/RectList;II)I"⟩ : MethodName) method_3_code 3 (some .int) :: []) ({ frames := 1, cells := 0, slots := 0, locals := 13 } : Room) Z h0 #[(.ref a5), (.int j5), (.int k5)] (fun v h L => v = some (.int (g (4 * n + own_kk k5))) ∧ Fr n0 L ∧ h = h0) := by
  refine own_body (pn := own_pn_10) ?_
  intro p e s m below meth c s₁ hx hby hml hown hnm hret hlk hZ X0 e0
  have N0 := Fr.nil n0
  refine own_go (fun _ kont => castTop (own_rm10_ef m a5 j5 k5 ) kont) ?_
  show own_Go p.tables e below _ (s₁.setTop (mkF m 0 #[.val (.ref a5), .val (.int j5), .val (.int k5)] []))
  have EB := B.1
  refine own_go (fun _ kont => XS.iloadN X0.here hx rfl (hb hby own_d10_0) rfl kont) ?_
  show own_Go p.tables e below _ (s₁.setTop (mkF m 1 #[.val (.ref a5), .val (.int j5), .val (.int k5)] [(.int k5)]))
  by_cases b0 : k5 = 0
  · skip
    refine own_go (fun _ kont => XS.ifNo X0.here hx rfl (hb hby own_d10_1) rfl (XT.i0_ne_f (b0)) kont) ?_
    show own_Go p.tables e below _ (s₁.setTop (mkF m 4 #[.val (.ref a5), .val (.int j5), .val (.int k5)] []))
    refine own_go (fun _ kont => XS.aloadN X0.here hx rfl (hb hby own_d10_4) rfl rfl kont) ?_
    show own_Go p.tables e below _ (s₁.setTop (mkF m 5 #[.val (.ref a5), .val (.int j5), .val (.int k5)] [(.ref a5)]))
    refine own_go (fun _ kont => XS.iloadN X0.here hx rfl (hb hby own_d10_5) rfl kont) ?_
    show own_Go p.tables e below _ (s₁.setTop (mkF m 6 #[.val (.ref a5), .val (.int j5), .val (.int k5)] [(.int j5), (.ref a5)]))
    refine own_callV X0 hx hZ (z := (⟨"com/example/drawtree/drawtree/RectList", "left", "(I)I"⟩ : MethodName)) (argsL := [(.int j5)]) (rest := []) (W := 0) hown (hw _ (List.mem_of_getElem? (i := 31) rfl)) (hw _ (List.mem_of_getElem? (i := 32) rfl)) (hw _ (List.mem_of_getElem? (i := 34) rfl)) (hw _ (List.mem_of_getElem? (i := 33) rfl)) (hw _ (List.mem_of_getElem? (i := 35) rfl)) (hw _ (List.mem_of_getElem? (i := 3) rfl)) (by decide) (EB) (own_rm6 l Z a0 hw a5 j5 h0 n0 Z0 ed kE k n g B V1 hi hn) e0 (by decide) (by decide) (by decide) (by decide) (by rw [hml]; rfl) (lenOf own_pd__I_I rfl) rfl (Nat.le_of_eq rfl) (hb hby own_d10_6) ?_
    rintro _ T189 L189 X189 ⟨rfl, N189, e189⟩
    have NA189 := Fr.app N0 N189
    show own_Go p.tables e below _ (T189.setTop (mkF m 9 #[.val (.ref a5), .val (.int j5), .val (.int k5)] [(.int (g (4 * n)))]))
    exact own_retI X189 hx hlk hret (by simp) rfl (hb hby own_d10_9) (⟨by simp [own_kk, b0], NA189, e189⟩) (by decide) (by decide)
  · skip
    refine own_go (fun _ kont => XS.ifYes X0.here hx rfl (pc0 := 1) (pc' := 10) rfl (hb hby own_d10_1) rfl (XT.i0_ne_t (b0)) (by decide) (by decide) kont) ?_
    show own_Go p.tables e below _ (s₁.setTop (mkF m 10 #[.val (.ref a5), .val (.int j5), .val (.int k5)] []))
    refine own_go (fun _ kont => XS.iloadN X0.here hx rfl (hb hby own_d10_10) rfl kont) ?_
    show own_Go p.tables e below _ (s₁.setTop (mkF m 11 #[.val (.ref a5), .val (.int j5), .val (.int k5)] [(.int k5)]))
    refine own_go (fun _ kont => XS.iconst X0.here hx rfl (hb hby own_d10_11) kont) ?_
    show own_Go p.tables e below _ (s₁.setTop (mkF m 12 #[.val (.ref a5), .val (.int j5), .val (.int k5)] [(.int (1 : Int32)), (.int k5)]))
    by_cases b1 : k5 = (1 : Int32)
    · skip
      refine own_go (fun _ kont => XS.icmpNo X0.here hx rfl (hb hby own_d10_12) rfl (XT.ii_ne_f (b1)) kont) ?_
      show own_Go p.tables e below _ (s₁.setTop (mkF m 15 #[.val (.ref a5), .val (.int j5), .val (.int k5)] []))
      refine own_go (fun _ kont => XS.aloadN X0.here hx rfl (hb hby own_d10_15) rfl rfl kont) ?_
      show own_Go p.tables e below _ (s₁.setTop (mkF m 16 #[.val (.ref a5), .val (.int j5), .val (.int k5)] [(.ref a5)]))
      refine own_go (fun _ kont => XS.iloadN X0.here hx rfl (hb hby own_d10_16) rfl kont) ?_
      show own_Go p.tables e below _ (s₁.setTop (mkF m 17 #[.val (.ref a5), .val (.int j5), .val (.int k5)] [(.int j5), (.ref a5)]))
      refine own_callV X0 hx hZ (z := (⟨"com/example/drawtree/drawtree/RectList", "top", "(I)I"⟩ : MethodName)) (argsL := [(.int j5)]) (rest := []) (W := 0) hown (hw _ (List.mem_of_getElem? (i := 36) rfl)) (hw _ (List.mem_of_getElem? (i := 37) rfl)) (hw _ (List.mem_of_getElem? (i := 39) rfl)) (hw _ (List.mem_of_getElem? (i := 38) rfl)) (hw _ (List.mem_of_getElem? (i := 40) rfl)) (hw _ (List.mem_of_getElem? (i := 3) rfl)) (by decide) (EB) (own_rm7 l Z a0 hw a5 j5 h0 n0 Z0 ed kE k n g B V1 hi hn) e0 (by decide) (by decide) (by decide) (by decide) (by rw [hml]; rfl) (lenOf own_pd__I_I rfl) rfl (Nat.le_of_eq rfl) (hb hby own_d10_17) ?_
      rintro _ T190 L190 X190 ⟨rfl, N190, e190⟩
      have NA190 := Fr.app N0 N190
      show own_Go p.tables e below _ (T190.setTop (mkF m 20 #[.val (.ref a5), .val (.int j5), .val (.int k5)] [(.int (g (4 * n + 1)))]))
      exact own_retI X190 hx hlk hret (by simp) rfl (hb hby own_d10_20) (⟨by simp [own_kk, b0, b1], NA190, e190⟩) (by decide) (by decide)
    · skip
      refine own_go (fun _ kont => XS.icmpYes X0.here hx rfl (pc0 := 12) (pc' := 21) rfl (hb hby own_d10_12) rfl (XT.ii_ne_t (b1)) (by decide) (by decide) kont) ?_
      show own_Go p.tables e below _ (s₁.setTop (mkF m 21 #[.val (.ref a5), .val (.int j5), .val (.int k5)] []))
      refine own_go (fun _ kont => XS.iloadN X0.here hx rfl (hb hby own_d10_21) rfl kont) ?_
      show own_Go p.tables e below _ (s₁.setTop (mkF m 22 #[.val (.ref a5), .val (.int j5), .val (.int k5)] [(.int k5)]))
      refine own_go (fun _ kont => XS.iconst X0.here hx rfl (hb hby own_d10_22) kont) ?_
      show own_Go p.tables e below _ (s₁.setTop (mkF m 23 #[.val (.ref a5), .val (.int j5), .val (.int k5)] [(.int (2 : Int32)), (.int k5)]))
      by_cases b2 : k5 = (2 : Int32)
      · skip
        refine own_go (fun _ kont => XS.icmpNo X0.here hx rfl (hb hby own_d10_23) rfl (XT.ii_ne_f (b2)) kont) ?_
        show own_Go p.tables e below _ (s₁.setTop (mkF m 26 #[.val (.ref a5), .val (.int j5), .val (.int k5)] []))
        refine own_go (fun _ kont => XS.aloadN X0.here hx rfl (hb hby own_d10_26) rfl rfl kont) ?_
        show own_Go p.tables e below _ (s₁.setTop (mkF m 27 #[.val (.ref a5), .val (.int j5), .val (.int k5)] [(.ref a5)]))
        refine own_go (fun _ kont => XS.iloadN X0.here hx rfl (hb hby own_d10_27) rfl kont) ?_
        show own_Go p.tables e below _ (s₁.setTop (mkF m 28 #[.val (.ref a5), .val (.int j5), .val (.int k5)] [(.int j5), (.ref a5)]))
        refine own_callV X0 hx hZ (z := (⟨"com/example/drawtree/drawtree/RectList", "right", "(I)I"⟩ : MethodName)) (argsL := [(.int j5)]) (rest := []) (W := 0) hown (hw _ (List.mem_of_getElem? (i := 41) rfl)) (hw _ (List.mem_of_getElem? (i := 42) rfl)) (hw _ (List.mem_of_getElem? (i := 44) rfl)) (hw _ (List.mem_of_getElem? (i := 43) rfl)) (hw _ (List.mem_of_getElem? (i := 45) rfl)) (hw _ (List.mem_of_getElem? (i := 3) rfl)) (by decide) (EB) (own_rm8 l Z a0 hw a5 j5 h0 n0 Z0 ed kE k n g B V1 hi hn) e0 (by decide) (by decide) (by decide) (by decide) (by rw [hml]; rfl) (lenOf own_pd__I_I rfl) rfl (Nat.le_of_eq rfl) (hb hby own_d10_28) ?_
        rintro _ T191 L191 X191 ⟨rfl, N191, e191⟩
        have NA191 := Fr.app N0 N191
        show own_Go p.tables e below _ (T191.setTop (mkF m 31 #[.val (.ref a5), .val (.int j5), .val (.int k5)] [(.int (g (4 * n + 2)))]))
        exact own_retI X191 hx hlk hret (by simp) rfl (hb hby own_d10_31) (⟨by simp [own_kk, b0, b1, b2], NA191, e191⟩) (by decide) (by decide)
      · skip
        refine own_go (fun _ kont => XS.icmpYes X0.here hx rfl (pc0 := 23) (pc' := 32) rfl (hb hby own_d10_23) rfl (XT.ii_ne_t (b2)) (by decide) (by decide) kont) ?_
        show own_Go p.tables e below _ (s₁.setTop (mkF m 32 #[.val (.ref a5), .val (.int j5), .val (.int k5)] []))
        refine own_go (fun _ kont => XS.aloadN X0.here hx rfl (hb hby own_d10_32) rfl rfl kont) ?_
        show own_Go p.tables e below _ (s₁.setTop (mkF m 33 #[.val (.ref a5), .val (.int j5), .val (.int k5)] [(.ref a5)]))
        refine own_go (fun _ kont => XS.iloadN X0.here hx rfl (hb hby own_d10_33) rfl kont) ?_
        show own_Go p.tables e below _ (s₁.setTop (mkF m 34 #[.val (.ref a5), .val (.int j5), .val (.int k5)] [(.int j5), (.ref a5)]))
        refine own_callV X0 hx hZ (z := (⟨"com/example/drawtree/drawtree/RectList", "bottom", "(I)I"⟩ : MethodName)) (argsL := [(.int j5)]) (rest := []) (W := 0) hown (hw _ (List.mem_of_getElem? (i := 46) rfl)) (hw _ (List.mem_of_getElem? (i := 47) rfl)) (hw _ (List.mem_of_getElem? (i := 49) rfl)) (hw _ (List.mem_of_getElem? (i := 48) rfl)) (hw _ (List.mem_of_getElem? (i := 50) rfl)) (hw _ (List.mem_of_getElem? (i := 3) rfl)) (by decide) (EB) (own_rm9 l Z a0 hw a5 j5 h0 n0 Z0 ed kE k n g B V1 hi hn) e0 (by decide) (by decide) (by decide) (by decide) (by rw [hml]; rfl) (lenOf own_pd__I_I rfl) rfl (Nat.le_of_eq rfl) (hb hby own_d10_34) ?_
        rintro _ T192 L192 X192 ⟨rfl, N192, e192⟩
        have NA192 := Fr.app N0 N192
        show own_Go p.tables e below _ (T192.setTop (mkF m 37 #[.val (.ref a5), .val (.int j5), .val (.int k5)] [(.int (g (4 * n + 3)))]))
        exact own_retI X192 hx hlk hret (by simp) rfl (hb hby own_d10_37) (⟨by simp [own_kk, b0, b1, b2], NA192, e192⟩) (by decide) (by decide)
theorem own_rm0_ef (m : MethodId) (p1 : Int32) (p2 : Int32) (p3 : Int32) (p4 : Int32) (p5 : Int32) (p6 : Int32)  : entryFrame m #[(.int p1), (.int p2), (.int p3), (.int p4), (.int p5), (.int p6)] maxLocals = mkF m 0 #[.val (.int p1), .val (.int p2), .val (.int p3), .val (.int p4), .val (.int p5), .val (.int p6), .unset, .unset, .unset, .unset, .unset, .unset] [] := by first | (simp [entryFrame, mkF, argsToLocals, Value.category, maxLocals]; done) | rfl
set_option maxRecDepth 65536 in
set_option maxHeartbeats 40000000 in
theorem own_rm0 (l : Launch) (Z : State) (a0 : Array Value) (hw : ∀ d ∈ tables_1, d.before a0 Z = true) (ws : List Jvm.Cond) (p1 : Int32) (p2 : Int32) (p3 : Int32) (p4 : Int32) (p5 : Int32) (p6 : Int32) (h0 : Heap) (n0 : Nat) (Z0 : n0 ≤ h0.size)  :
    own_Met l x (Jvm.Cond.code x code maxLocals ret :: ws) room_1 Z h0 #[(.int p1), (.int p2), (.int p3), (.int p4), (.int p5), (.int p6)] (fun v h L => v = some (.int 1) ∧ Fr n0 L) := by
  refine own_body (pn := own_pn_0) ?_
  intro p e s m below meth c s₁ hx hby hml hown hnm hret hlk hZ X0 e0
  have N0 := Fr.nil n0
  refine own_go (fun _ kont => castTop (own_rm0_ef m p1 p2 p3 p4 p5 p6 ) kont) ?_
  show own_Go p.tables e below _ (s₁.setTop (mkF m 0 #[.val (.int p1), .val (.int p2), .val (.int p3), .val (.int p4), .val (.int p5), .val (.int p6), .unset, .unset, .unset, .unset, .unset, .unset] []))
  refine own_go (fun _ kont => XS.iloadN X0.here hx rfl (hb hby at_0) rfl kont) ?_
  show own_Go p.tables e below _ (s₁.setTop (mkF m 1 #[.val (.int p1), .val (.int p2), .val (.int p3), .val (.int p4), .val (.int p5), .val (.int p6), .unset, .unset, .unset, .unset, .unset, .unset] [(.int p1)]))
  refine own_go (fun _ kont => X0.ldcI hx hown (mvT hZ (hw _ (List.mem_of_getElem? (i := 0) rfl))) rfl (hb hby at_1) kont) ?_
  show own_Go p.tables e below _ (s₁.setTop (mkF m 3 #[.val (.int p1), .val (.int p2), .val (.int p3), .val (.int p4), .val (.int p5), .val (.int p6), .unset, .unset, .unset, .unset, .unset, .unset] [(.int (2147483647 : Int32)), (.int p1)]))
  refine own_go (fun _ kont => XS.iand X0.here hx rfl (hb hby at_3) rfl kont) ?_
  show own_Go p.tables e below _ (s₁.setTop (mkF m 4 #[.val (.int p1), .val (.int p2), .val (.int p3), .val (.int p4), .val (.int p5), .val (.int p6), .unset, .unset, .unset, .unset, .unset, .unset] [(.int (p1 &&& (2147483647 : Int32)))]))
  refine own_go (fun _ kont => XS.iconst X0.here hx rfl (hb hby at_4) kont) ?_
  show own_Go p.tables e below _ (s₁.setTop (mkF m 5 #[.val (.int p1), .val (.int p2), .val (.int p3), .val (.int p4), .val (.int p5), .val (.int p6), .unset, .unset, .unset, .unset, .unset, .unset] [(.int (3 : Int32)), (.int (p1 &&& (2147483647 : Int32)))]))
  refine own_go (fun _ kont => iremM X0 hx rfl (hb hby at_5) rfl (by decide) kont) ?_
  show own_Go p.tables e below _ (s₁.setTop (mkF m 6 #[.val (.int p1), .val (.int p2), .val (.int p3), .val (.int p4), .val (.int p5), .val (.int p6), .unset, .unset, .unset, .unset, .unset, .unset] [(.int ((p1 &&& (2147483647 : Int32)) % (3 : Int32)))]))
  have i3 := own_mod3 p1
  obtain ⟨i, hi⟩ : ∃ z, z = (p1 &&& (2147483647 : Int32)) % (3 : Int32) := ⟨_, rfl⟩
  rw [← hi] at i3 ⊢
  show own_Go p.tables e below _ (s₁.setTop (mkF m 6 #[.val (.int p1), .val (.int p2), .val (.int p3), .val (.int p4), .val (.int p5), .val (.int p6), .unset, .unset, .unset, .unset, .unset, .unset] [(.int i)]))
  refine own_go (fun _ kont => XS.istore X0.here hx rfl (hb hby at_6) rfl (l' := #[.val (.int p1), .val (.int p2), .val (.int p3), .val (.int p4), .val (.int p5), .val (.int p6), .val (.int i), .unset, .unset, .unset, .unset, .unset]) rfl kont) ?_
  show own_Go p.tables e below _ (s₁.setTop (mkF m 8 #[.val (.int p1), .val (.int p2), .val (.int p3), .val (.int p4), .val (.int p5), .val (.int p6), .val (.int i), .unset, .unset, .unset, .unset, .unset] []))
  refine own_go (fun _ kont => XS.iload X0.here hx rfl (hb hby at_8) rfl kont) ?_
  show own_Go p.tables e below _ (s₁.setTop (mkF m 10 #[.val (.int p1), .val (.int p2), .val (.int p3), .val (.int p4), .val (.int p5), .val (.int p6), .val (.int i), .unset, .unset, .unset, .unset, .unset] [(.int p6)]))
  refine own_go (fun _ kont => X0.ldcI hx hown (mvT hZ (hw _ (List.mem_of_getElem? (i := 0) rfl))) rfl (hb hby at_10) kont) ?_
  show own_Go p.tables e below _ (s₁.setTop (mkF m 12 #[.val (.int p1), .val (.int p2), .val (.int p3), .val (.int p4), .val (.int p5), .val (.int p6), .val (.int i), .unset, .unset, .unset, .unset, .unset] [(.int (2147483647 : Int32)), (.int p6)]))
  refine own_go (fun _ kont => XS.iand X0.here hx rfl (hb hby at_12) rfl kont) ?_
  show own_Go p.tables e below _ (s₁.setTop (mkF m 13 #[.val (.int p1), .val (.int p2), .val (.int p3), .val (.int p4), .val (.int p5), .val (.int p6), .val (.int i), .unset, .unset, .unset, .unset, .unset] [(.int (p6 &&& (2147483647 : Int32)))]))
  refine own_go (fun _ kont => XS.iconst X0.here hx rfl (hb hby at_13) kont) ?_
  show own_Go p.tables e below _ (s₁.setTop (mkF m 14 #[.val (.int p1), .val (.int p2), .val (.int p3), .val (.int p4), .val (.int p5), .val (.int p6), .val (.int i), .unset, .unset, .unset, .unset, .unset] [(.int (3 : Int32)), (.int (p6 &&& (2147483647 : Int32)))]))
  refine own_go (fun _ kont => iremM X0 hx rfl (hb hby at_14) rfl (by decide) kont) ?_
  show own_Go p.tables e below _ (s₁.setTop (mkF m 15 #[.val (.int p1), .val (.int p2), .val (.int p3), .val (.int p4), .val (.int p5), .val (.int p6), .val (.int i), .unset, .unset, .unset, .unset, .unset] [(.int ((p6 &&& (2147483647 : Int32)) % (3 : Int32)))]))
  have j3 := own_mod3 p6
  obtain ⟨j, hj⟩ : ∃ z, z = (p6 &&& (2147483647 : Int32)) % (3 : Int32) := ⟨_, rfl⟩
  rw [← hj] at j3 ⊢
  show own_Go p.tables e below _ (s₁.setTop (mkF m 15 #[.val (.int p1), .val (.int p2), .val (.int p3), .val (.int p4), .val (.int p5), .val (.int p6), .val (.int i), .unset, .unset, .unset, .unset, .unset] [(.int j)]))
  refine own_go (fun _ kont => XS.istore X0.here hx rfl (hb hby at_15) rfl (l' := #[.val (.int p1), .val (.int p2), .val (.int p3), .val (.int p4), .val (.int p5), .val (.int p6), .val (.int i), .val (.int j), .unset, .unset, .unset, .unset]) rfl kont) ?_
  show own_Go p.tables e below _ (s₁.setTop (mkF m 17 #[.val (.int p1), .val (.int p2), .val (.int p3), .val (.int p4), .val (.int p5), .val (.int p6), .val (.int i), .val (.int j), .unset, .unset, .unset, .unset] []))
  refine own_go (fun _ kont => XS.iload X0.here hx rfl (hb hby at_17) rfl kont) ?_
  show own_Go p.tables e below _ (s₁.setTop (mkF m 19 #[.val (.int p1), .val (.int p2), .val (.int p3), .val (.int p4), .val (.int p5), .val (.int p6), .val (.int i), .val (.int j), .unset, .unset, .unset, .unset] [(.int p6)]))
  refine own_go (fun _ kont => XS.bipush X0.here hx rfl (hb hby at_19) kont) ?_
  show own_Go p.tables e below _ (s₁.setTop (mkF m 21 #[.val (.int p1), .val (.int p2), .val (.int p3), .val (.int p4), .val (.int p5), .val (.int p6), .val (.int i), .val (.int j), .unset, .unset, .unset, .unset] [(.int (28 : Int32)), (.int p6)]))
  refine own_go (fun _ kont => XS.iushr X0.here hx rfl (hb hby at_21) rfl kont) ?_
  show own_Go p.tables e below _ (s₁.setTop (mkF m 22 #[.val (.int p1), .val (.int p2), .val (.int p3), .val (.int p4), .val (.int p5), .val (.int p6), .val (.int i), .val (.int j), .unset, .unset, .unset, .unset] [(.int ((p6.toUInt32 >>> ((28 : Int32) &&& 31).toUInt32).toInt32))]))
  refine own_go (fun _ kont => XS.iconst X0.here hx rfl (hb hby at_22) kont) ?_
  show own_Go p.tables e below _ (s₁.setTop (mkF m 23 #[.val (.int p1), .val (.int p2), .val (.int p3), .val (.int p4), .val (.int p5), .val (.int p6), .val (.int i), .val (.int j), .unset, .unset, .unset, .unset] [(.int (3 : Int32)), (.int ((p6.toUInt32 >>> ((28 : Int32) &&& 31).toUInt32).toInt32))]))
  refine own_go (fun _ kont => XS.iand X0.here hx rfl (hb hby at_23) rfl kont) ?_
  show own_Go p.tables e below _ (s₁.setTop (mkF m 24 #[.val (.int p1), .val (.int p2), .val (.int p3), .val (.int p4), .val (.int p5), .val (.int p6), .val (.int i), .val (.int j), .unset, .unset, .unset, .unset] [(.int (((p6.toUInt32 >>> ((28 : Int32) &&& 31).toUInt32).toInt32) &&& (3 : Int32)))]))
  have k4 := own_and3 ((p6.toUInt32 >>> ((28 : Int32) &&& 31).toUInt32).toInt32)
  obtain ⟨k, hk⟩ : ∃ z, z = (((p6.toUInt32 >>> ((28 : Int32) &&& 31).toUInt32).toInt32) &&& (3 : Int32)) := ⟨_, rfl⟩
  rw [← hk] at k4 ⊢
  show own_Go p.tables e below _ (s₁.setTop (mkF m 24 #[.val (.int p1), .val (.int p2), .val (.int p3), .val (.int p4), .val (.int p5), .val (.int p6), .val (.int i), .val (.int j), .unset, .unset, .unset, .unset] [(.int k)]))
  obtain ⟨ni, hin, ni3⟩ : ∃ n : Nat, i.toInt = (n : Int) ∧ n < 4 := by rcases i3 with q | q | q <;> rw [q] <;> first | exact ⟨0, by decide, by decide⟩ | exact ⟨1, by decide, by decide⟩ | exact ⟨2, by decide, by decide⟩
  obtain ⟨nj, hjn, nj3⟩ : ∃ n : Nat, j.toInt = (n : Int) ∧ n < 4 := by rcases j3 with q | q | q <;> rw [q] <;> first | exact ⟨0, by decide, by decide⟩ | exact ⟨1, by decide, by decide⟩ | exact ⟨2, by decide, by decide⟩
  refine own_go (fun _ kont => XS.istore X0.here hx rfl (hb hby at_24) rfl (l' := #[.val (.int p1), .val (.int p2), .val (.int p3), .val (.int p4), .val (.int p5), .val (.int p6), .val (.int i), .val (.int j), .val (.int k), .unset, .unset, .unset]) rfl kont) ?_
  show own_Go p.tables e below _ (s₁.setTop (mkF m 26 #[.val (.int p1), .val (.int p2), .val (.int p3), .val (.int p4), .val (.int p5), .val (.int p6), .val (.int i), .val (.int j), .val (.int k), .unset, .unset, .unset] []))
  obtain ⟨T193, h193, X193, e193, E193, A193, D193, -, st193⟩ := newO X0 hx hZ hown (hw _ (List.mem_of_getElem? (i := 1) rfl)) (hw _ (List.mem_of_getElem? (i := 2) rfl)) (hw _ (List.mem_of_getElem? (i := 3) rfl)) e0 (g := (mkF m 26 #[.val (.int p1), .val (.int p2), .val (.int p3), .val (.int p4), .val (.int p5), .val (.int p6), .val (.int i), .val (.int j), .val (.int k), .unset, .unset, .unset] [])) rfl (hb hby at_26) (by decide) (by decide)
  obtain ⟨a1, g193⟩ : ∃ z, z = h0.size := ⟨_, rfl⟩
  rw [← g193] at A193 D193 st193
  have ge_a1 : n0 ≤ a1 := by rw [g193]; exact Z0
  have Z194 : n0 ≤ h193.size := Nat.le_trans Z0 E193.1
  have E_a1_195 : Exa Z h193 a1 "com/example/drawtree/drawtree/RectList" := A193
  have F_a1_edges_196 : Fld Z h193 a1 "com/example/drawtree/drawtree/RectList" "edges" "[I" (.null) := D193 (Or.inl (hw _ (List.mem_of_getElem? (i := 12) rfl))) (ty := (.array .int)) (by decide)
  have F_a1_size_197 : Fld Z h193 a1 "com/example/drawtree/drawtree/RectList" "size" "I" (.int (0 : Int32)) := D193 (Or.inl (hw _ (List.mem_of_getElem? (i := 19) rfl))) (ty := .int) (by decide)
  refine own_go st193 ?_
  show own_Go p.tables e below _ (T193.setTop (mkF m 29 #[.val (.int p1), .val (.int p2), .val (.int p3), .val (.int p4), .val (.int p5), .val (.int p6), .val (.int i), .val (.int j), .val (.int k), .unset, .unset, .unset] [(.ref a1)]))
  refine own_go (fun _ kont => XS.dup X193.here hx rfl (hb hby at_29) rfl rfl kont) ?_
  show own_Go p.tables e below _ (T193.setTop (mkF m 30 #[.val (.int p1), .val (.int p2), .val (.int p3), .val (.int p4), .val (.int p5), .val (.int p6), .val (.int i), .val (.int j), .val (.int k), .unset, .unset, .unset] [(.ref a1), (.ref a1)]))
  refine own_callI X193 hx hZ (y := (⟨"com/example/drawtree/drawtree/RectList", "<init>", "()V"⟩ : MethodName)) (argsL := []) (rest := [(.ref a1)]) (W := 1) hown (hw _ (List.mem_of_getElem? (i := 4) rfl)) (hw _ (List.mem_of_getElem? (i := 5) rfl)) (hw _ (List.mem_of_getElem? (i := 6) rfl)) (hw _ (List.mem_of_getElem? (i := 3) rfl)) rfl (by decide) (own_rm1 l Z a0 hw a1 h193 n0 Z194 ⟨E_a1_195, F_a1_edges_196, F_a1_size_197⟩ ge_a1) e193 (by decide) (by decide) (by decide) (by decide) (by rw [hml]; rfl) (lenOf own_pd___V rfl) rfl (Nat.le_of_eq rfl) (hb hby at_30) ?_
  rintro _ T198 L198 X198 ⟨ed, kE, rfl, N198, K198, gd, B198, V198⟩
  have NA198 := Fr.app N0 N198
  have E_a1_199 : Exa Z T198.heap a1 "com/example/drawtree/drawtree/RectList" := Exa.keep E_a1_195 K198
  have Z200 : n0 ≤ T198.heap.size := Nat.le_trans Z194 K198.1
  show own_Go p.tables e below _ (T198.setTop (mkF m 33 #[.val (.int p1), .val (.int p2), .val (.int p3), .val (.int p4), .val (.int p5), .val (.int p6), .val (.int i), .val (.int j), .val (.int k), .unset, .unset, .unset] [(.ref a1)]))
  have ne201 : a1 ≠ ed := Nat.ne_of_lt (Nat.lt_of_lt_of_le E_a1_195.lt gd)
  have ge_ed : n0 ≤ ed := Nat.le_trans Z194 gd
  obtain ⟨E_202, F_203, G_204⟩ := B198
  refine own_go (fun _ kont => XS.astore X198.here hx rfl (hb hby at_33) rfl rfl (l' := #[.val (.int p1), .val (.int p2), .val (.int p3), .val (.int p4), .val (.int p5), .val (.int p6), .val (.int i), .val (.int j), .val (.int k), .val (.ref a1), .unset, .unset]) rfl kont) ?_
  show own_Go p.tables e below _ (T198.setTop (mkF m 35 #[.val (.int p1), .val (.int p2), .val (.int p3), .val (.int p4), .val (.int p5), .val (.int p6), .val (.int i), .val (.int j), .val (.int k), .val (.ref a1), .unset, .unset] []))
  refine own_go (fun _ kont => XS.aload X198.here hx rfl (hb hby at_35) rfl rfl kont) ?_
  show own_Go p.tables e below _ (T198.setTop (mkF m 37 #[.val (.int p1), .val (.int p2), .val (.int p3), .val (.int p4), .val (.int p5), .val (.int p6), .val (.int i), .val (.int j), .val (.int k), .val (.ref a1), .unset, .unset] [(.ref a1)]))
  refine own_go (fun _ kont => XS.iconst X198.here hx rfl (hb hby at_37) kont) ?_
  show own_Go p.tables e below _ (T198.setTop (mkF m 38 #[.val (.int p1), .val (.int p2), .val (.int p3), .val (.int p4), .val (.int p5), .val (.int p6), .val (.int i), .val (.int j), .val (.int k), .val (.ref a1), .unset, .unset] [(.int (1 : Int32)), (.ref a1)]))
  refine own_go (fun _ kont => XS.iconst X198.here hx rfl (hb hby at_38) kont) ?_
  show own_Go p.tables e below _ (T198.setTop (mkF m 39 #[.val (.int p1), .val (.int p2), .val (.int p3), .val (.int p4), .val (.int p5), .val (.int p6), .val (.int i), .val (.int j), .val (.int k), .val (.ref a1), .unset, .unset] [(.int (2 : Int32)), (.int (1 : Int32)), (.ref a1)]))
  refine own_go (fun _ kont => XS.iconst X198.here hx rfl (hb hby at_39) kont) ?_
  show own_Go p.tables e below _ (T198.setTop (mkF m 40 #[.val (.int p1), .val (.int p2), .val (.int p3), .val (.int p4), .val (.int p5), .val (.int p6), .val (.int i), .val (.int j), .val (.int k), .val (.ref a1), .unset, .unset] [(.int (3 : Int32)), (.int (2 : Int32)), (.int (1 : Int32)), (.ref a1)]))
  refine own_go (fun _ kont => XS.iconst X198.here hx rfl (hb hby at_40) kont) ?_
  show own_Go p.tables e below _ (T198.setTop (mkF m 41 #[.val (.int p1), .val (.int p2), .val (.int p3), .val (.int p4), .val (.int p5), .val (.int p6), .val (.int i), .val (.int j), .val (.int k), .val (.ref a1), .unset, .unset] [(.int (4 : Int32)), (.int (3 : Int32)), (.int (2 : Int32)), (.int (1 : Int32)), (.ref a1)]))
  refine own_callV X198 hx hZ (z := (⟨"com/example/drawtree/drawtree/RectList", "add", "(IIII)V"⟩ : MethodName)) (argsL := [(.int (1 : Int32)), (.int (2 : Int32)), (.int (3 : Int32)), (.int (4 : Int32))]) (rest := []) (W := 0) hown (hw _ (List.mem_of_getElem? (i := 13) rfl)) (hw _ (List.mem_of_getElem? (i := 14) rfl)) (hw _ (List.mem_of_getElem? (i := 16) rfl)) (hw _ (List.mem_of_getElem? (i := 15) rfl)) (hw _ (List.mem_of_getElem? (i := 17) rfl)) (hw _ (List.mem_of_getElem? (i := 3) rfl)) (by decide) (E_202) (own_rm3 l Z a0 hw a1 1 2 3 4 T198.heap n0 Z200 ed kE (0 : Int32) 0 (fun _ => 0) ⟨E_202, F_203, G_204⟩ V198 (by decide) (by decide) ge_ed ne201 ge_a1) rfl (by decide) (by decide) (by decide) (by decide) (by rw [hml]; rfl) (lenOf own_pd__IIII_V rfl) rfl (Nat.le_of_eq rfl) (hb hby at_41) ?_
  rintro _ T205 L205 X205 ⟨rfl, N205, K205, B205, V205⟩
  have NA205 := Fr.app NA198 N205
  have E_a1_206 : Exa Z T205.heap a1 "com/example/drawtree/drawtree/RectList" := Exa.keep E_202 K205
  have Z207 : n0 ≤ T205.heap.size := Nat.le_trans Z200 K205.1
  show own_Go p.tables e below _ (T205.setTop (mkF m 44 #[.val (.int p1), .val (.int p2), .val (.int p3), .val (.int p4), .val (.int p5), .val (.int p6), .val (.int i), .val (.int j), .val (.int k), .val (.ref a1), .unset, .unset] []))
  obtain ⟨E_208, F_209, G_210⟩ := B205
  refine own_go (fun _ kont => XS.aload X205.here hx rfl (hb hby at_44) rfl rfl kont) ?_
  show own_Go p.tables e below _ (T205.setTop (mkF m 46 #[.val (.int p1), .val (.int p2), .val (.int p3), .val (.int p4), .val (.int p5), .val (.int p6), .val (.int i), .val (.int j), .val (.int k), .val (.ref a1), .unset, .unset] [(.ref a1)]))
  refine own_go (fun _ kont => XS.bipush X205.here hx rfl (hb hby at_46) kont) ?_
  show own_Go p.tables e below _ (T205.setTop (mkF m 48 #[.val (.int p1), .val (.int p2), .val (.int p3), .val (.int p4), .val (.int p5), .val (.int p6), .val (.int i), .val (.int j), .val (.int k), .val (.ref a1), .unset, .unset] [(.int (11 : Int32)), (.ref a1)]))
  refine own_go (fun _ kont => XS.bipush X205.here hx rfl (hb hby at_48) kont) ?_
  show own_Go p.tables e below _ (T205.setTop (mkF m 50 #[.val (.int p1), .val (.int p2), .val (.int p3), .val (.int p4), .val (.int p5), .val (.int p6), .val (.int i), .val (.int j), .val (.int k), .val (.ref a1), .unset, .unset] [(.int (12 : Int32)), (.int (11 : Int32)), (.ref a1)]))
  refine own_go (fun _ kont => XS.bipush X205.here hx rfl (hb hby at_50) kont) ?_
  show own_Go p.tables e below _ (T205.setTop (mkF m 52 #[.val (.int p1), .val (.int p2), .val (.int p3), .val (.int p4), .val (.int p5), .val (.int p6), .val (.int i), .val (.int j), .val (.int k), .val (.ref a1), .unset, .unset] [(.int (13 : Int32)), (.int (12 : Int32)), (.int (11 : Int32)), (.ref a1)]))
  refine own_go (fun _ kont => XS.bipush X205.here hx rfl (hb hby at_52) kont) ?_
  show own_Go p.tables e below _ (T205.setTop (mkF m 54 #[.val (.int p1), .val (.int p2), .val (.int p3), .val (.int p4), .val (.int p5), .val (.int p6), .val (.int i), .val (.int j), .val (.int k), .val (.ref a1), .unset, .unset] [(.int (14 : Int32)), (.int (13 : Int32)), (.int (12 : Int32)), (.int (11 : Int32)), (.ref a1)]))
  refine own_callV X205 hx hZ (z := (⟨"com/example/drawtree/drawtree/RectList", "add", "(IIII)V"⟩ : MethodName)) (argsL := [(.int (11 : Int32)), (.int (12 : Int32)), (.int (13 : Int32)), (.int (14 : Int32))]) (rest := []) (W := 0) hown (hw _ (List.mem_of_getElem? (i := 13) rfl)) (hw _ (List.mem_of_getElem? (i := 14) rfl)) (hw _ (List.mem_of_getElem? (i := 16) rfl)) (hw _ (List.mem_of_getElem? (i := 15) rfl)) (hw _ (List.mem_of_getElem? (i := 17) rfl)) (hw _ (List.mem_of_getElem? (i := 3) rfl)) (by decide) (E_208) (own_rm3 l Z a0 hw a1 11 12 13 14 T205.heap n0 Z207 ed kE ((0 : Int32) + 1) 1 (own_set (fun _ => 0) 0 1 2 3 4) ⟨E_208, F_209, G_210⟩ V205 (by decide) (by decide) ge_ed ne201 ge_a1) rfl (by decide) (by decide) (by decide) (by decide) (by rw [hml]; rfl) (lenOf own_pd__IIII_V rfl) rfl (Nat.le_of_eq rfl) (hb hby at_54) ?_
  rintro _ T211 L211 X211 ⟨rfl, N211, K211, B211, V211⟩
  have NA211 := Fr.app NA205 N211
  have E_a1_212 : Exa Z T211.heap a1 "com/example/drawtree/drawtree/RectList" := Exa.keep E_208 K211
  have Z213 : n0 ≤ T211.heap.size := Nat.le_trans Z207 K211.1
  show own_Go p.tables e below _ (T211.setTop (mkF m 57 #[.val (.int p1), .val (.int p2), .val (.int p3), .val (.int p4), .val (.int p5), .val (.int p6), .val (.int i), .val (.int j), .val (.int k), .val (.ref a1), .unset, .unset] []))
  obtain ⟨E_214, F_215, G_216⟩ := B211
  refine own_go (fun _ kont => XS.aload X211.here hx rfl (hb hby at_57) rfl rfl kont) ?_
  show own_Go p.tables e below _ (T211.setTop (mkF m 59 #[.val (.int p1), .val (.int p2), .val (.int p3), .val (.int p4), .val (.int p5), .val (.int p6), .val (.int i), .val (.int j), .val (.int k), .val (.ref a1), .unset, .unset] [(.ref a1)]))
  refine own_go (fun _ kont => XS.bipush X211.here hx rfl (hb hby at_59) kont) ?_
  show own_Go p.tables e below _ (T211.setTop (mkF m 61 #[.val (.int p1), .val (.int p2), .val (.int p3), .val (.int p4), .val (.int p5), .val (.int p6), .val (.int i), .val (.int j), .val (.int k), .val (.ref a1), .unset, .unset] [(.int (21 : Int32)), (.ref a1)]))
  refine own_go (fun _ kont => XS.bipush X211.here hx rfl (hb hby at_61) kont) ?_
  show own_Go p.tables e below _ (T211.setTop (mkF m 63 #[.val (.int p1), .val (.int p2), .val (.int p3), .val (.int p4), .val (.int p5), .val (.int p6), .val (.int i), .val (.int j), .val (.int k), .val (.ref a1), .unset, .unset] [(.int (22 : Int32)), (.int (21 : Int32)), (.ref a1)]))
  refine own_go (fun _ kont => XS.bipush X211.here hx rfl (hb hby at_63) kont) ?_
  show own_Go p.tables e below _ (T211.setTop (mkF m 65 #[.val (.int p1), .val (.int p2), .val (.int p3), .val (.int p4), .val (.int p5), .val (.int p6), .val (.int i), .val (.int j), .val (.int k), .val (.ref a1), .unset, .unset] [(.int (23 : Int32)), (.int (22 : Int32)), (.int (21 : Int32)), (.ref a1)]))
  refine own_go (fun _ kont => XS.bipush X211.here hx rfl (hb hby at_65) kont) ?_
  show own_Go p.tables e below _ (T211.setTop (mkF m 67 #[.val (.int p1), .val (.int p2), .val (.int p3), .val (.int p4), .val (.int p5), .val (.int p6), .val (.int i), .val (.int j), .val (.int k), .val (.ref a1), .unset, .unset] [(.int (24 : Int32)), (.int (23 : Int32)), (.int (22 : Int32)), (.int (21 : Int32)), (.ref a1)]))
  refine own_callV X211 hx hZ (z := (⟨"com/example/drawtree/drawtree/RectList", "add", "(IIII)V"⟩ : MethodName)) (argsL := [(.int (21 : Int32)), (.int (22 : Int32)), (.int (23 : Int32)), (.int (24 : Int32))]) (rest := []) (W := 0) hown (hw _ (List.mem_of_getElem? (i := 13) rfl)) (hw _ (List.mem_of_getElem? (i := 14) rfl)) (hw _ (List.mem_of_getElem? (i := 16) rfl)) (hw _ (List.mem_of_getElem? (i := 15) rfl)) (hw _ (List.mem_of_getElem? (i := 17) rfl)) (hw _ (List.mem_of_getElem? (i := 3) rfl)) (by decide) (E_214) (own_rm3 l Z a0 hw a1 21 22 23 24 T211.heap n0 Z213 ed kE (((0 : Int32) + 1) + 1) 2 (own_set (own_set (fun _ => 0) 0 1 2 3 4) 1 11 12 13 14) ⟨E_214, F_215, G_216⟩ V211 (by decide) (by decide) ge_ed ne201 ge_a1) rfl (by decide) (by decide) (by decide) (by decide) (by rw [hml]; rfl) (lenOf own_pd__IIII_V rfl) rfl (Nat.le_of_eq rfl) (hb hby at_67) ?_
  rintro _ T217 L217 X217 ⟨rfl, N217, K217, B217, V217⟩
  have NA217 := Fr.app NA211 N217
  have E_a1_218 : Exa Z T217.heap a1 "com/example/drawtree/drawtree/RectList" := Exa.keep E_214 K217
  have Z219 : n0 ≤ T217.heap.size := Nat.le_trans Z213 K217.1
  show own_Go p.tables e below _ (T217.setTop (mkF m 70 #[.val (.int p1), .val (.int p2), .val (.int p3), .val (.int p4), .val (.int p5), .val (.int p6), .val (.int i), .val (.int j), .val (.int k), .val (.ref a1), .unset, .unset] []))
  obtain ⟨E_220, F_221, G_222⟩ := B217
  refine own_go (fun _ kont => XS.aload X217.here hx rfl (hb hby at_70) rfl rfl kont) ?_
  show own_Go p.tables e below _ (T217.setTop (mkF m 72 #[.val (.int p1), .val (.int p2), .val (.int p3), .val (.int p4), .val (.int p5), .val (.int p6), .val (.int i), .val (.int j), .val (.int k), .val (.ref a1), .unset, .unset] [(.ref a1)]))
  refine own_go (fun _ kont => XS.iload X217.here hx rfl (hb hby at_72) rfl kont) ?_
  show own_Go p.tables e below _ (T217.setTop (mkF m 74 #[.val (.int p1), .val (.int p2), .val (.int p3), .val (.int p4), .val (.int p5), .val (.int p6), .val (.int i), .val (.int j), .val (.int k), .val (.ref a1), .unset, .unset] [(.int i), (.ref a1)]))
  refine own_go (fun _ kont => XS.iloadN X217.here hx rfl (hb hby at_74) rfl kont) ?_
  show own_Go p.tables e below _ (T217.setTop (mkF m 75 #[.val (.int p1), .val (.int p2), .val (.int p3), .val (.int p4), .val (.int p5), .val (.int p6), .val (.int i), .val (.int j), .val (.int k), .val (.ref a1), .unset, .unset] [(.int p2), (.int i), (.ref a1)]))
  refine own_go (fun _ kont => XS.iloadN X217.here hx rfl (hb hby at_75) rfl kont) ?_
  show own_Go p.tables e below _ (T217.setTop (mkF m 76 #[.val (.int p1), .val (.int p2), .val (.int p3), .val (.int p4), .val (.int p5), .val (.int p6), .val (.int i), .val (.int j), .val (.int k), .val (.ref a1), .unset, .unset] [(.int p3), (.int p2), (.int i), (.ref a1)]))
  refine own_go (fun _ kont => XS.iloadN X217.here hx rfl (hb hby at_76) rfl kont) ?_
  show own_Go p.tables e below _ (T217.setTop (mkF m 77 #[.val (.int p1), .val (.int p2), .val (.int p3), .val (.int p4), .val (.int p5), .val (.int p6), .val (.int i), .val (.int j), .val (.int k), .val (.ref a1), .unset, .unset] [(.int p4), (.int p3), (.int p2), (.int i), (.ref a1)]))
  refine own_go (fun _ kont => XS.iload X217.here hx rfl (hb hby at_77) rfl kont) ?_
  show own_Go p.tables e below _ (T217.setTop (mkF m 79 #[.val (.int p1), .val (.int p2), .val (.int p3), .val (.int p4), .val (.int p5), .val (.int p6), .val (.int i), .val (.int j), .val (.int k), .val (.ref a1), .unset, .unset] [(.int p5), (.int p4), (.int p3), (.int p2), (.int i), (.ref a1)]))
  have V3 : own_Av Z T217.heap ed kE .int 16 (fun y => Value.int (own_g3 y)) := V217
  refine own_callV X217 hx hZ (z := (⟨"com/example/drawtree/drawtree/RectList", "set", "(IIIII)V"⟩ : MethodName)) (argsL := [(.int i), (.int p2), (.int p3), (.int p4), (.int p5)]) (rest := []) (W := 0) hown (hw _ (List.mem_of_getElem? (i := 25) rfl)) (hw _ (List.mem_of_getElem? (i := 21) rfl)) (hw _ (List.mem_of_getElem? (i := 23) rfl)) (hw _ (List.mem_of_getElem? (i := 22) rfl)) (hw _ (List.mem_of_getElem? (i := 24) rfl)) (hw _ (List.mem_of_getElem? (i := 3) rfl)) (by decide) (E_220) (own_rm4 l Z a0 hw a1 i p2 p3 p4 p5 T217.heap n0 Z219 ed kE ((((0 : Int32) + 1) + 1) + 1) ni own_g3 ⟨E_220, F_221, G_222⟩ V3 hin ni3 ge_ed ne201) rfl (by decide) (by decide) (by decide) (by decide) (by rw [hml]; rfl) (lenOf own_pd__IIIII_V rfl) rfl (Nat.le_of_eq rfl) (hb hby at_79) ?_
  rintro _ T223 L223 X223 ⟨rfl, N223, K223, V223⟩
  have NA223 := Fr.app NA217 N223
  have E_a1_224 : Exa Z T223.heap a1 "com/example/drawtree/drawtree/RectList" := Exa.keep E_220 K223
  have F_a1_edges_225 : Fld Z T223.heap a1 "com/example/drawtree/drawtree/RectList" "edges" "[I" (.ref ed) := Fld.keep F_221 K223 (ninS ne201 nin0)
  have F_a1_size_226 : Fld Z T223.heap a1 "com/example/drawtree/drawtree/RectList" "size" "I" (.int ((((0 : Int32) + 1) + 1) + 1)) := Fld.keep G_222 K223 (ninS ne201 nin0)
  have Z227 : n0 ≤ T223.heap.size := Nat.le_trans Z219 K223.1
  show own_Go p.tables e below _ (T223.setTop (mkF m 82 #[.val (.int p1), .val (.int p2), .val (.int p3), .val (.int p4), .val (.int p5), .val (.int p6), .val (.int i), .val (.int j), .val (.int k), .val (.ref a1), .unset, .unset] []))
  refine own_go (fun _ kont => XS.aload X223.here hx rfl (hb hby at_82) rfl rfl kont) ?_
  show own_Go p.tables e below _ (T223.setTop (mkF m 84 #[.val (.int p1), .val (.int p2), .val (.int p3), .val (.int p4), .val (.int p5), .val (.int p6), .val (.int i), .val (.int j), .val (.int k), .val (.ref a1), .unset, .unset] [(.ref a1)]))
  refine own_callV X223 hx hZ (z := (⟨"com/example/drawtree/drawtree/RectList", "size", "()I"⟩ : MethodName)) (argsL := []) (rest := []) (W := 0) hown (hw _ (List.mem_of_getElem? (i := 26) rfl)) (hw _ (List.mem_of_getElem? (i := 27) rfl)) (hw _ (List.mem_of_getElem? (i := 29) rfl)) (hw _ (List.mem_of_getElem? (i := 28) rfl)) (hw _ (List.mem_of_getElem? (i := 30) rfl)) (hw _ (List.mem_of_getElem? (i := 3) rfl)) (by decide) (E_a1_224) (own_rm5 l Z a0 hw a1 T223.heap n0 Z227 ed ((((0 : Int32) + 1) + 1) + 1) ⟨E_a1_224, F_a1_edges_225, F_a1_size_226⟩) rfl (by decide) (by decide) (by decide) (by decide) (by rw [hml]; rfl) (lenOf own_pd___I rfl) rfl (Nat.le_of_eq rfl) (hb hby at_84) ?_
  rintro _ T228 L228 X228 ⟨rfl, N228, e228⟩
  have NA228 := Fr.app NA223 N228
  show own_Go p.tables e below _ (T228.setTop (mkF m 87 #[.val (.int p1), .val (.int p2), .val (.int p3), .val (.int p4), .val (.int p5), .val (.int p6), .val (.int i), .val (.int j), .val (.int k), .val (.ref a1), .unset, .unset] [(.int ((((0 : Int32) + 1) + 1) + 1))]))
  refine own_go (fun _ kont => XS.iconst X228.here hx rfl (hb hby at_87) kont) ?_
  show own_Go p.tables e below _ (T228.setTop (mkF m 88 #[.val (.int p1), .val (.int p2), .val (.int p3), .val (.int p4), .val (.int p5), .val (.int p6), .val (.int i), .val (.int j), .val (.int k), .val (.ref a1), .unset, .unset] [(.int (3 : Int32)), (.int ((((0 : Int32) + 1) + 1) + 1))]))
  refine own_go (fun _ kont => XS.icmpNo X228.here hx rfl (hb hby at_88) rfl (XT.ii_ne_f (by decide)) kont) ?_
  show own_Go p.tables e below _ (T228.setTop (mkF m 91 #[.val (.int p1), .val (.int p2), .val (.int p3), .val (.int p4), .val (.int p5), .val (.int p6), .val (.int i), .val (.int j), .val (.int k), .val (.ref a1), .unset, .unset] []))
  refine own_go (fun _ kont => XS.aload X228.here hx rfl (hb hby at_91) rfl rfl kont) ?_
  show own_Go p.tables e below _ (T228.setTop (mkF m 93 #[.val (.int p1), .val (.int p2), .val (.int p3), .val (.int p4), .val (.int p5), .val (.int p6), .val (.int i), .val (.int j), .val (.int k), .val (.ref a1), .unset, .unset] [(.ref a1)]))
  refine own_go (fun _ kont => XS.iload X228.here hx rfl (hb hby at_93) rfl kont) ?_
  show own_Go p.tables e below _ (T228.setTop (mkF m 95 #[.val (.int p1), .val (.int p2), .val (.int p3), .val (.int p4), .val (.int p5), .val (.int p6), .val (.int i), .val (.int j), .val (.int k), .val (.ref a1), .unset, .unset] [(.int i), (.ref a1)]))
  refine own_callV X228 hx hZ (z := (⟨"com/example/drawtree/drawtree/RectList", "left", "(I)I"⟩ : MethodName)) (argsL := [(.int i)]) (rest := []) (W := 0) hown (hw _ (List.mem_of_getElem? (i := 31) rfl)) (hw _ (List.mem_of_getElem? (i := 32) rfl)) (hw _ (List.mem_of_getElem? (i := 34) rfl)) (hw _ (List.mem_of_getElem? (i := 33) rfl)) (hw _ (List.mem_of_getElem? (i := 35) rfl)) (hw _ (List.mem_of_getElem? (i := 3) rfl)) (by decide) (E_a1_224) (own_rm6 l Z a0 hw a1 i T223.heap n0 Z227 ed kE ((((0 : Int32) + 1) + 1) + 1) ni (own_set own_g3 ni p2 p3 p4 p5) ⟨E_a1_224, F_a1_edges_225, F_a1_size_226⟩ V223 hin ni3) e228 (by decide) (by decide) (by decide) (by decide) (by rw [hml]; rfl) (lenOf own_pd__I_I rfl) rfl (Nat.le_of_eq rfl) (hb hby at_95) ?_
  rintro _ T229 L229 X229 ⟨rfl, N229, e229⟩
  have NA229 := Fr.app NA228 N229
  show own_Go p.tables e below _ (T229.setTop (mkF m 98 #[.val (.int p1), .val (.int p2), .val (.int p3), .val (.int p4), .val (.int p5), .val (.int p6), .val (.int i), .val (.int j), .val (.int k), .val (.ref a1), .unset, .unset] [(.int ((own_set own_g3 ni p2 p3 p4 p5) (4 * ni)))]))
  refine own_go (fun _ kont => XS.iloadN X229.here hx rfl (hb hby at_98) rfl kont) ?_
  show own_Go p.tables e below _ (T229.setTop (mkF m 99 #[.val (.int p1), .val (.int p2), .val (.int p3), .val (.int p4), .val (.int p5), .val (.int p6), .val (.int i), .val (.int j), .val (.int k), .val (.ref a1), .unset, .unset] [(.int p2), (.int ((own_set own_g3 ni p2 p3 p4 p5) (4 * ni)))]))
  refine own_go (fun _ kont => XS.icmpNo X229.here hx rfl (hb hby at_99) rfl (XT.ii_ne_f (own_set0 _ _ _ _ _ _)) kont) ?_
  show own_Go p.tables e below _ (T229.setTop (mkF m 102 #[.val (.int p1), .val (.int p2), .val (.int p3), .val (.int p4), .val (.int p5), .val (.int p6), .val (.int i), .val (.int j), .val (.int k), .val (.ref a1), .unset, .unset] []))
  refine own_go (fun _ kont => XS.aload X229.here hx rfl (hb hby at_102) rfl rfl kont) ?_
  show own_Go p.tables e below _ (T229.setTop (mkF m 104 #[.val (.int p1), .val (.int p2), .val (.int p3), .val (.int p4), .val (.int p5), .val (.int p6), .val (.int i), .val (.int j), .val (.int k), .val (.ref a1), .unset, .unset] [(.ref a1)]))
  refine own_go (fun _ kont => XS.iload X229.here hx rfl (hb hby at_104) rfl kont) ?_
  show own_Go p.tables e below _ (T229.setTop (mkF m 106 #[.val (.int p1), .val (.int p2), .val (.int p3), .val (.int p4), .val (.int p5), .val (.int p6), .val (.int i), .val (.int j), .val (.int k), .val (.ref a1), .unset, .unset] [(.int i), (.ref a1)]))
  refine own_callV X229 hx hZ (z := (⟨"com/example/drawtree/drawtree/RectList", "top", "(I)I"⟩ : MethodName)) (argsL := [(.int i)]) (rest := []) (W := 0) hown (hw _ (List.mem_of_getElem? (i := 36) rfl)) (hw _ (List.mem_of_getElem? (i := 37) rfl)) (hw _ (List.mem_of_getElem? (i := 39) rfl)) (hw _ (List.mem_of_getElem? (i := 38) rfl)) (hw _ (List.mem_of_getElem? (i := 40) rfl)) (hw _ (List.mem_of_getElem? (i := 3) rfl)) (by decide) (E_a1_224) (own_rm7 l Z a0 hw a1 i T223.heap n0 Z227 ed kE ((((0 : Int32) + 1) + 1) + 1) ni (own_set own_g3 ni p2 p3 p4 p5) ⟨E_a1_224, F_a1_edges_225, F_a1_size_226⟩ V223 hin ni3) e229 (by decide) (by decide) (by decide) (by decide) (by rw [hml]; rfl) (lenOf own_pd__I_I rfl) rfl (Nat.le_of_eq rfl) (hb hby at_106) ?_
  rintro _ T230 L230 X230 ⟨rfl, N230, e230⟩
  have NA230 := Fr.app NA229 N230
  show own_Go p.tables e below _ (T230.setTop (mkF m 109 #[.val (.int p1), .val (.int p2), .val (.int p3), .val (.int p4), .val (.int p5), .val (.int p6), .val (.int i), .val (.int j), .val (.int k), .val (.ref a1), .unset, .unset] [(.int ((own_set own_g3 ni p2 p3 p4 p5) (4 * ni + 1)))]))
  refine own_go (fun _ kont => XS.iloadN X230.here hx rfl (hb hby at_109) rfl kont) ?_
  show own_Go p.tables e below _ (T230.setTop (mkF m 110 #[.val (.int p1), .val (.int p2), .val (.int p3), .val (.int p4), .val (.int p5), .val (.int p6), .val (.int i), .val (.int j), .val (.int k), .val (.ref a1), .unset, .unset] [(.int p3), (.int ((own_set own_g3 ni p2 p3 p4 p5) (4 * ni + 1)))]))
  refine own_go (fun _ kont => XS.icmpNo X230.here hx rfl (hb hby at_110) rfl (XT.ii_ne_f (own_set1 _ _ _ _ _ _)) kont) ?_
  show own_Go p.tables e below _ (T230.setTop (mkF m 113 #[.val (.int p1), .val (.int p2), .val (.int p3), .val (.int p4), .val (.int p5), .val (.int p6), .val (.int i), .val (.int j), .val (.int k), .val (.ref a1), .unset, .unset] []))
  refine own_go (fun _ kont => XS.aload X230.here hx rfl (hb hby at_113) rfl rfl kont) ?_
  show own_Go p.tables e below _ (T230.setTop (mkF m 115 #[.val (.int p1), .val (.int p2), .val (.int p3), .val (.int p4), .val (.int p5), .val (.int p6), .val (.int i), .val (.int j), .val (.int k), .val (.ref a1), .unset, .unset] [(.ref a1)]))
  refine own_go (fun _ kont => XS.iload X230.here hx rfl (hb hby at_115) rfl kont) ?_
  show own_Go p.tables e below _ (T230.setTop (mkF m 117 #[.val (.int p1), .val (.int p2), .val (.int p3), .val (.int p4), .val (.int p5), .val (.int p6), .val (.int i), .val (.int j), .val (.int k), .val (.ref a1), .unset, .unset] [(.int i), (.ref a1)]))
  refine own_callV X230 hx hZ (z := (⟨"com/example/drawtree/drawtree/RectList", "right", "(I)I"⟩ : MethodName)) (argsL := [(.int i)]) (rest := []) (W := 0) hown (hw _ (List.mem_of_getElem? (i := 41) rfl)) (hw _ (List.mem_of_getElem? (i := 42) rfl)) (hw _ (List.mem_of_getElem? (i := 44) rfl)) (hw _ (List.mem_of_getElem? (i := 43) rfl)) (hw _ (List.mem_of_getElem? (i := 45) rfl)) (hw _ (List.mem_of_getElem? (i := 3) rfl)) (by decide) (E_a1_224) (own_rm8 l Z a0 hw a1 i T223.heap n0 Z227 ed kE ((((0 : Int32) + 1) + 1) + 1) ni (own_set own_g3 ni p2 p3 p4 p5) ⟨E_a1_224, F_a1_edges_225, F_a1_size_226⟩ V223 hin ni3) e230 (by decide) (by decide) (by decide) (by decide) (by rw [hml]; rfl) (lenOf own_pd__I_I rfl) rfl (Nat.le_of_eq rfl) (hb hby at_117) ?_
  rintro _ T231 L231 X231 ⟨rfl, N231, e231⟩
  have NA231 := Fr.app NA230 N231
  show own_Go p.tables e below _ (T231.setTop (mkF m 120 #[.val (.int p1), .val (.int p2), .val (.int p3), .val (.int p4), .val (.int p5), .val (.int p6), .val (.int i), .val (.int j), .val (.int k), .val (.ref a1), .unset, .unset] [(.int ((own_set own_g3 ni p2 p3 p4 p5) (4 * ni + 2)))]))
  refine own_go (fun _ kont => XS.iloadN X231.here hx rfl (hb hby at_120) rfl kont) ?_
  show own_Go p.tables e below _ (T231.setTop (mkF m 121 #[.val (.int p1), .val (.int p2), .val (.int p3), .val (.int p4), .val (.int p5), .val (.int p6), .val (.int i), .val (.int j), .val (.int k), .val (.ref a1), .unset, .unset] [(.int p4), (.int ((own_set own_g3 ni p2 p3 p4 p5) (4 * ni + 2)))]))
  refine own_go (fun _ kont => XS.icmpNo X231.here hx rfl (hb hby at_121) rfl (XT.ii_ne_f (own_set2 _ _ _ _ _ _)) kont) ?_
  show own_Go p.tables e below _ (T231.setTop (mkF m 124 #[.val (.int p1), .val (.int p2), .val (.int p3), .val (.int p4), .val (.int p5), .val (.int p6), .val (.int i), .val (.int j), .val (.int k), .val (.ref a1), .unset, .unset] []))
  refine own_go (fun _ kont => XS.aload X231.here hx rfl (hb hby at_124) rfl rfl kont) ?_
  show own_Go p.tables e below _ (T231.setTop (mkF m 126 #[.val (.int p1), .val (.int p2), .val (.int p3), .val (.int p4), .val (.int p5), .val (.int p6), .val (.int i), .val (.int j), .val (.int k), .val (.ref a1), .unset, .unset] [(.ref a1)]))
  refine own_go (fun _ kont => XS.iload X231.here hx rfl (hb hby at_126) rfl kont) ?_
  show own_Go p.tables e below _ (T231.setTop (mkF m 128 #[.val (.int p1), .val (.int p2), .val (.int p3), .val (.int p4), .val (.int p5), .val (.int p6), .val (.int i), .val (.int j), .val (.int k), .val (.ref a1), .unset, .unset] [(.int i), (.ref a1)]))
  refine own_callV X231 hx hZ (z := (⟨"com/example/drawtree/drawtree/RectList", "bottom", "(I)I"⟩ : MethodName)) (argsL := [(.int i)]) (rest := []) (W := 0) hown (hw _ (List.mem_of_getElem? (i := 46) rfl)) (hw _ (List.mem_of_getElem? (i := 47) rfl)) (hw _ (List.mem_of_getElem? (i := 49) rfl)) (hw _ (List.mem_of_getElem? (i := 48) rfl)) (hw _ (List.mem_of_getElem? (i := 50) rfl)) (hw _ (List.mem_of_getElem? (i := 3) rfl)) (by decide) (E_a1_224) (own_rm9 l Z a0 hw a1 i T223.heap n0 Z227 ed kE ((((0 : Int32) + 1) + 1) + 1) ni (own_set own_g3 ni p2 p3 p4 p5) ⟨E_a1_224, F_a1_edges_225, F_a1_size_226⟩ V223 hin ni3) e231 (by decide) (by decide) (by decide) (by decide) (by rw [hml]; rfl) (lenOf own_pd__I_I rfl) rfl (Nat.le_of_eq rfl) (hb hby at_128) ?_
  rintro _ T232 L232 X232 ⟨rfl, N232, e232⟩
  have NA232 := Fr.app NA231 N232
  show own_Go p.tables e below _ (T232.setTop (mkF m 131 #[.val (.int p1), .val (.int p2), .val (.int p3), .val (.int p4), .val (.int p5), .val (.int p6), .val (.int i), .val (.int j), .val (.int k), .val (.ref a1), .unset, .unset] [(.int ((own_set own_g3 ni p2 p3 p4 p5) (4 * ni + 3)))]))
  refine own_go (fun _ kont => XS.iload X232.here hx rfl (hb hby at_131) rfl kont) ?_
  show own_Go p.tables e below _ (T232.setTop (mkF m 133 #[.val (.int p1), .val (.int p2), .val (.int p3), .val (.int p4), .val (.int p5), .val (.int p6), .val (.int i), .val (.int j), .val (.int k), .val (.ref a1), .unset, .unset] [(.int p5), (.int ((own_set own_g3 ni p2 p3 p4 p5) (4 * ni + 3)))]))
  refine own_go (fun _ kont => XS.icmpNo X232.here hx rfl (hb hby at_133) rfl (XT.ii_ne_f (own_set3 _ _ _ _ _ _)) kont) ?_
  show own_Go p.tables e below _ (T232.setTop (mkF m 136 #[.val (.int p1), .val (.int p2), .val (.int p3), .val (.int p4), .val (.int p5), .val (.int p6), .val (.int i), .val (.int j), .val (.int k), .val (.ref a1), .unset, .unset] []))
  refine own_go (fun _ kont => XS.iconst X232.here hx rfl (hb hby at_136) kont) ?_
  show own_Go p.tables e below _ (T232.setTop (mkF m 137 #[.val (.int p1), .val (.int p2), .val (.int p3), .val (.int p4), .val (.int p5), .val (.int p6), .val (.int i), .val (.int j), .val (.int k), .val (.ref a1), .unset, .unset] [(.int (1 : Int32))]))
  refine own_go (fun _ kont => XS.goto X232.here hx rfl (pc0 := 137) (pc' := 141) rfl (hb hby at_137) (by decide) (by decide) kont) ?_
  show own_Go p.tables e below _ (T232.setTop (mkF m 141 #[.val (.int p1), .val (.int p2), .val (.int p3), .val (.int p4), .val (.int p5), .val (.int p6), .val (.int i), .val (.int j), .val (.int k), .val (.ref a1), .unset, .unset] [(.int (1 : Int32))]))
  refine own_go (fun _ kont => XS.istore X232.here hx rfl (hb hby at_141) rfl (l' := #[.val (.int p1), .val (.int p2), .val (.int p3), .val (.int p4), .val (.int p5), .val (.int p6), .val (.int i), .val (.int j), .val (.int k), .val (.ref a1), .val (.int (1 : Int32)), .unset]) rfl kont) ?_
  show own_Go p.tables e below _ (T232.setTop (mkF m 143 #[.val (.int p1), .val (.int p2), .val (.int p3), .val (.int p4), .val (.int p5), .val (.int p6), .val (.int i), .val (.int j), .val (.int k), .val (.ref a1), .val (.int (1 : Int32)), .unset] []))
  have c204 : ∀ (z : Int32) (T233 : State) (Lc233 : List Loc), (hz : (own_set own_g3 ni p2 p3 p4 p5) (4 * nj + own_kk k) = z) → Stand p l e room_1 s m #[(.int p1), (.int p2), (.int p3), (.int p4), (.int p5), (.int p6)] below meth c T233 Lc233 (2) (18) → Fr n0 Lc233 → T233.heap = T223.heap → own_Go p.tables e below (own_Fin s below (fun v h L => v = some (.int 1) ∧ Fr n0 L) room_1.cells room_1.slots) (T233.setTop (mkF m 204 #[.val (.int p1), .val (.int p2), .val (.int p3), .val (.int p4), .val (.int p5), .val (.int p6), .val (.int i), .val (.int j), .val (.int k), .val (.ref a1), .val (.int (1 : Int32)), .val (.int z)] [])) := by
    intro z T233 Lc233 hz X233 N233 e233
    refine own_go (fun _ kont => XS.iload X233.here hx rfl (hb hby at_204) rfl kont) ?_
    show own_Go p.tables e below _ (T233.setTop (mkF m 206 #[.val (.int p1), .val (.int p2), .val (.int p3), .val (.int p4), .val (.int p5), .val (.int p6), .val (.int i), .val (.int j), .val (.int k), .val (.ref a1), .val (.int (1 : Int32)), .val (.int z)] [(.int (1 : Int32))]))
    refine own_go (fun _ kont => XS.ifNo X233.here hx rfl (hb hby at_206) rfl (XT.i0_eq_f (by decide)) kont) ?_
    show own_Go p.tables e below _ (T233.setTop (mkF m 209 #[.val (.int p1), .val (.int p2), .val (.int p3), .val (.int p4), .val (.int p5), .val (.int p6), .val (.int i), .val (.int j), .val (.int k), .val (.ref a1), .val (.int (1 : Int32)), .val (.int z)] []))
    refine own_go (fun _ kont => XS.aload X233.here hx rfl (hb hby at_209) rfl rfl kont) ?_
    show own_Go p.tables e below _ (T233.setTop (mkF m 211 #[.val (.int p1), .val (.int p2), .val (.int p3), .val (.int p4), .val (.int p5), .val (.int p6), .val (.int i), .val (.int j), .val (.int k), .val (.ref a1), .val (.int (1 : Int32)), .val (.int z)] [(.ref a1)]))
    refine own_go (fun _ kont => XS.iload X233.here hx rfl (hb hby at_211) rfl kont) ?_
    show own_Go p.tables e below _ (T233.setTop (mkF m 213 #[.val (.int p1), .val (.int p2), .val (.int p3), .val (.int p4), .val (.int p5), .val (.int p6), .val (.int i), .val (.int j), .val (.int k), .val (.ref a1), .val (.int (1 : Int32)), .val (.int z)] [(.int j), (.ref a1)]))
    refine own_go (fun _ kont => XS.iload X233.here hx rfl (hb hby at_213) rfl kont) ?_
    show own_Go p.tables e below _ (T233.setTop (mkF m 215 #[.val (.int p1), .val (.int p2), .val (.int p3), .val (.int p4), .val (.int p5), .val (.int p6), .val (.int i), .val (.int j), .val (.int k), .val (.ref a1), .val (.int (1 : Int32)), .val (.int z)] [(.int k), (.int j), (.ref a1)]))
    refine own_callS X233 hx hZ (y := (⟨"com/example/drawtree/drawtree/RectListSetPinLaw", "edge", "(Lcom/example/drawtree/drawtree/RectList;II)I"⟩ : MethodName)) (argsL := [(.ref a1), (.int j), (.int k)]) (rest := []) (W := 0) hown (hw _ (List.mem_of_getElem? (i := 51) rfl)) (hw _ (List.mem_of_getElem? (i := 52) rfl)) (hw _ (List.mem_of_getElem? (i := 53) rfl)) (hw _ (List.mem_of_getElem? (i := 54) rfl)) (by decide) (own_rm10 l Z a0 hw a1 j k T223.heap n0 Z227 ed kE ((((0 : Int32) + 1) + 1) + 1) nj (own_set own_g3 ni p2 p3 p4 p5) ⟨E_a1_224, F_a1_edges_225, F_a1_size_226⟩ V223 hjn nj3) e233 (by decide) (by decide) (by decide) (by decide) (by rw [hml]; rfl) (lenOf own_pd__Lcom_example_drawtree_drawtree_RectList_II_I rfl) rfl (Nat.le_of_eq rfl) (hb hby at_215) ?_
    rintro _ T234 L234 X234 ⟨rfl, N234, e234⟩
    have NA234 := Fr.app N233 N234
    show own_Go p.tables e below _ (T234.setTop (mkF m 218 #[.val (.int p1), .val (.int p2), .val (.int p3), .val (.int p4), .val (.int p5), .val (.int p6), .val (.int i), .val (.int j), .val (.int k), .val (.ref a1), .val (.int (1 : Int32)), .val (.int z)] [(.int ((own_set own_g3 ni p2 p3 p4 p5) (4 * nj + own_kk k)))]))
    refine own_go (fun _ kont => XS.iload X234.here hx rfl (hb hby at_218) rfl kont) ?_
    show own_Go p.tables e below _ (T234.setTop (mkF m 220 #[.val (.int p1), .val (.int p2), .val (.int p3), .val (.int p4), .val (.int p5), .val (.int p6), .val (.int i), .val (.int j), .val (.int k), .val (.ref a1), .val (.int (1 : Int32)), .val (.int z)] [(.int z), (.int ((own_set own_g3 ni p2 p3 p4 p5) (4 * nj + own_kk k)))]))
    refine own_go (fun _ kont => XS.icmpNo X234.here hx rfl (hb hby at_220) rfl (XT.ii_ne_f (hz)) kont) ?_
    show own_Go p.tables e below _ (T234.setTop (mkF m 223 #[.val (.int p1), .val (.int p2), .val (.int p3), .val (.int p4), .val (.int p5), .val (.int p6), .val (.int i), .val (.int j), .val (.int k), .val (.ref a1), .val (.int (1 : Int32)), .val (.int z)] []))
    refine own_go (fun _ kont => XS.iconst X234.here hx rfl (hb hby at_223) kont) ?_
    show own_Go p.tables e below _ (T234.setTop (mkF m 224 #[.val (.int p1), .val (.int p2), .val (.int p3), .val (.int p4), .val (.int p5), .val (.int p6), .val (.int i), .val (.int j), .val (.int k), .val (.ref a1), .val (.int (1 : Int32)), .val (.int z)] [(.int (1 : Int32))]))
    refine own_go (fun _ kont => XS.goto X234.here hx rfl (pc0 := 224) (pc' := 228) rfl (hb hby at_224) (by decide) (by decide) kont) ?_
    show own_Go p.tables e below _ (T234.setTop (mkF m 228 #[.val (.int p1), .val (.int p2), .val (.int p3), .val (.int p4), .val (.int p5), .val (.int p6), .val (.int i), .val (.int j), .val (.int k), .val (.ref a1), .val (.int (1 : Int32)), .val (.int z)] [(.int (1 : Int32))]))
    exact own_retI X234 hx hlk hret (by simp) rfl (hb hby at_228) (⟨rfl, NA234⟩) (by decide) (by decide)
  refine own_go (fun _ kont => XS.iload X232.here hx rfl (hb hby at_143) rfl kont) ?_
  show own_Go p.tables e below _ (T232.setTop (mkF m 145 #[.val (.int p1), .val (.int p2), .val (.int p3), .val (.int p4), .val (.int p5), .val (.int p6), .val (.int i), .val (.int j), .val (.int k), .val (.ref a1), .val (.int (1 : Int32)), .unset] [(.int j)]))
  refine own_go (fun _ kont => XS.iload X232.here hx rfl (hb hby at_145) rfl kont) ?_
  show own_Go p.tables e below _ (T232.setTop (mkF m 147 #[.val (.int p1), .val (.int p2), .val (.int p3), .val (.int p4), .val (.int p5), .val (.int p6), .val (.int i), .val (.int j), .val (.int k), .val (.ref a1), .val (.int (1 : Int32)), .unset] [(.int i), (.int j)]))
  by_cases b : j = i
  · skip
    refine own_go (fun _ kont => XS.icmpNo X232.here hx rfl (hb hby at_147) rfl (XT.ii_ne_f (b)) kont) ?_
    show own_Go p.tables e below _ (T232.setTop (mkF m 150 #[.val (.int p1), .val (.int p2), .val (.int p3), .val (.int p4), .val (.int p5), .val (.int p6), .val (.int i), .val (.int j), .val (.int k), .val (.ref a1), .val (.int (1 : Int32)), .unset] []))
    obtain rfl : nj = ni := by rw [b] at hjn; omega
    refine own_go (fun _ kont => XS.iload X232.here hx rfl (hb hby at_150) rfl kont) ?_
    show own_Go p.tables e below _ (T232.setTop (mkF m 152 #[.val (.int p1), .val (.int p2), .val (.int p3), .val (.int p4), .val (.int p5), .val (.int p6), .val (.int i), .val (.int j), .val (.int k), .val (.ref a1), .val (.int (1 : Int32)), .unset] [(.int k)]))
    by_cases d0 : k = 0
    · skip
      refine own_go (fun _ kont => XS.ifNo X232.here hx rfl (hb hby at_152) rfl (XT.i0_ne_f (d0)) kont) ?_
      show own_Go p.tables e below _ (T232.setTop (mkF m 155 #[.val (.int p1), .val (.int p2), .val (.int p3), .val (.int p4), .val (.int p5), .val (.int p6), .val (.int i), .val (.int j), .val (.int k), .val (.ref a1), .val (.int (1 : Int32)), .unset] []))
      refine own_go (fun _ kont => XS.iloadN X232.here hx rfl (hb hby at_155) rfl kont) ?_
      show own_Go p.tables e below _ (T232.setTop (mkF m 156 #[.val (.int p1), .val (.int p2), .val (.int p3), .val (.int p4), .val (.int p5), .val (.int p6), .val (.int i), .val (.int j), .val (.int k), .val (.ref a1), .val (.int (1 : Int32)), .unset] [(.int p2)]))
      refine own_go (fun _ kont => XS.istore X232.here hx rfl (hb hby at_156) rfl (l' := #[.val (.int p1), .val (.int p2), .val (.int p3), .val (.int p4), .val (.int p5), .val (.int p6), .val (.int i), .val (.int j), .val (.int k), .val (.ref a1), .val (.int (1 : Int32)), .val (.int p2)]) rfl kont) ?_
      show own_Go p.tables e below _ (T232.setTop (mkF m 158 #[.val (.int p1), .val (.int p2), .val (.int p3), .val (.int p4), .val (.int p5), .val (.int p6), .val (.int i), .val (.int j), .val (.int k), .val (.ref a1), .val (.int (1 : Int32)), .val (.int p2)] []))
      refine own_go (fun _ kont => XS.goto X232.here hx rfl (pc0 := 158) (pc' := 204) rfl (hb hby at_158) (by decide) (by decide) kont) ?_
      show own_Go p.tables e below _ (T232.setTop (mkF m 204 #[.val (.int p1), .val (.int p2), .val (.int p3), .val (.int p4), .val (.int p5), .val (.int p6), .val (.int i), .val (.int j), .val (.int k), .val (.ref a1), .val (.int (1 : Int32)), .val (.int p2)] []))
      exact c204 _ _ _ (by rw [show own_kk k = 0 by simp [own_kk, d0]]; exact own_set0 _ _ _ _ _ _) X232 NA232 e232
    · skip
      refine own_go (fun _ kont => XS.ifYes X232.here hx rfl (pc0 := 152) (pc' := 161) rfl (hb hby at_152) rfl (XT.i0_ne_t (d0)) (by decide) (by decide) kont) ?_
      show own_Go p.tables e below _ (T232.setTop (mkF m 161 #[.val (.int p1), .val (.int p2), .val (.int p3), .val (.int p4), .val (.int p5), .val (.int p6), .val (.int i), .val (.int j), .val (.int k), .val (.ref a1), .val (.int (1 : Int32)), .unset] []))
      refine own_go (fun _ kont => XS.iload X232.here hx rfl (hb hby at_161) rfl kont) ?_
      show own_Go p.tables e below _ (T232.setTop (mkF m 163 #[.val (.int p1), .val (.int p2), .val (.int p3), .val (.int p4), .val (.int p5), .val (.int p6), .val (.int i), .val (.int j), .val (.int k), .val (.ref a1), .val (.int (1 : Int32)), .unset] [(.int k)]))
      refine own_go (fun _ kont => XS.iconst X232.here hx rfl (hb hby at_163) kont) ?_
      show own_Go p.tables e below _ (T232.setTop (mkF m 164 #[.val (.int p1), .val (.int p2), .val (.int p3), .val (.int p4), .val (.int p5), .val (.int p6), .val (.int i), .val (.int j), .val (.int k), .val (.ref a1), .val (.int (1 : Int32)), .unset] [(.int (1 : Int32)), (.int k)]))
      by_cases d1 : k = (1 : Int32)
      · skip
        refine own_go (fun _ kont => XS.icmpNo X232.here hx rfl (hb hby at_164) rfl (XT.ii_ne_f (d1)) kont) ?_
        show own_Go p.tables e below _ (T232.setTop (mkF m 167 #[.val (.int p1), .val (.int p2), .val (.int p3), .val (.int p4), .val (.int p5), .val (.int p6), .val (.int i), .val (.int j), .val (.int k), .val (.ref a1), .val (.int (1 : Int32)), .unset] []))
        refine own_go (fun _ kont => XS.iloadN X232.here hx rfl (hb hby at_167) rfl kont) ?_
        show own_Go p.tables e below _ (T232.setTop (mkF m 168 #[.val (.int p1), .val (.int p2), .val (.int p3), .val (.int p4), .val (.int p5), .val (.int p6), .val (.int i), .val (.int j), .val (.int k), .val (.ref a1), .val (.int (1 : Int32)), .unset] [(.int p3)]))
        refine own_go (fun _ kont => XS.istore X232.here hx rfl (hb hby at_168) rfl (l' := #[.val (.int p1), .val (.int p2), .val (.int p3), .val (.int p4), .val (.int p5), .val (.int p6), .val (.int i), .val (.int j), .val (.int k), .val (.ref a1), .val (.int (1 : Int32)), .val (.int p3)]) rfl kont) ?_
        show own_Go p.tables e below _ (T232.setTop (mkF m 170 #[.val (.int p1), .val (.int p2), .val (.int p3), .val (.int p4), .val (.int p5), .val (.int p6), .val (.int i), .val (.int j), .val (.int k), .val (.ref a1), .val (.int (1 : Int32)), .val (.int p3)] []))
        refine own_go (fun _ kont => XS.goto X232.here hx rfl (pc0 := 170) (pc' := 204) rfl (hb hby at_170) (by decide) (by decide) kont) ?_
        show own_Go p.tables e below _ (T232.setTop (mkF m 204 #[.val (.int p1), .val (.int p2), .val (.int p3), .val (.int p4), .val (.int p5), .val (.int p6), .val (.int i), .val (.int j), .val (.int k), .val (.ref a1), .val (.int (1 : Int32)), .val (.int p3)] []))
        exact c204 _ _ _ (by rw [show own_kk k = 1 by simp [own_kk, d0, d1]]; exact own_set1 _ _ _ _ _ _) X232 NA232 e232
      · skip
        refine own_go (fun _ kont => XS.icmpYes X232.here hx rfl (pc0 := 164) (pc' := 173) rfl (hb hby at_164) rfl (XT.ii_ne_t (d1)) (by decide) (by decide) kont) ?_
        show own_Go p.tables e below _ (T232.setTop (mkF m 173 #[.val (.int p1), .val (.int p2), .val (.int p3), .val (.int p4), .val (.int p5), .val (.int p6), .val (.int i), .val (.int j), .val (.int k), .val (.ref a1), .val (.int (1 : Int32)), .unset] []))
        refine own_go (fun _ kont => XS.iload X232.here hx rfl (hb hby at_173) rfl kont) ?_
        show own_Go p.tables e below _ (T232.setTop (mkF m 175 #[.val (.int p1), .val (.int p2), .val (.int p3), .val (.int p4), .val (.int p5), .val (.int p6), .val (.int i), .val (.int j), .val (.int k), .val (.ref a1), .val (.int (1 : Int32)), .unset] [(.int k)]))
        refine own_go (fun _ kont => XS.iconst X232.here hx rfl (hb hby at_175) kont) ?_
        show own_Go p.tables e below _ (T232.setTop (mkF m 176 #[.val (.int p1), .val (.int p2), .val (.int p3), .val (.int p4), .val (.int p5), .val (.int p6), .val (.int i), .val (.int j), .val (.int k), .val (.ref a1), .val (.int (1 : Int32)), .unset] [(.int (2 : Int32)), (.int k)]))
        by_cases d2 : k = (2 : Int32)
        · skip
          refine own_go (fun _ kont => XS.icmpNo X232.here hx rfl (hb hby at_176) rfl (XT.ii_ne_f (d2)) kont) ?_
          show own_Go p.tables e below _ (T232.setTop (mkF m 179 #[.val (.int p1), .val (.int p2), .val (.int p3), .val (.int p4), .val (.int p5), .val (.int p6), .val (.int i), .val (.int j), .val (.int k), .val (.ref a1), .val (.int (1 : Int32)), .unset] []))
          refine own_go (fun _ kont => XS.iloadN X232.here hx rfl (hb hby at_179) rfl kont) ?_
          show own_Go p.tables e below _ (T232.setTop (mkF m 180 #[.val (.int p1), .val (.int p2), .val (.int p3), .val (.int p4), .val (.int p5), .val (.int p6), .val (.int i), .val (.int j), .val (.int k), .val (.ref a1), .val (.int (1 : Int32)), .unset] [(.int p4)]))
          refine own_go (fun _ kont => XS.istore X232.here hx rfl (hb hby at_180) rfl (l' := #[.val (.int p1), .val (.int p2), .val (.int p3), .val (.int p4), .val (.int p5), .val (.int p6), .val (.int i), .val (.int j), .val (.int k), .val (.ref a1), .val (.int (1 : Int32)), .val (.int p4)]) rfl kont) ?_
          show own_Go p.tables e below _ (T232.setTop (mkF m 182 #[.val (.int p1), .val (.int p2), .val (.int p3), .val (.int p4), .val (.int p5), .val (.int p6), .val (.int i), .val (.int j), .val (.int k), .val (.ref a1), .val (.int (1 : Int32)), .val (.int p4)] []))
          refine own_go (fun _ kont => XS.goto X232.here hx rfl (pc0 := 182) (pc' := 204) rfl (hb hby at_182) (by decide) (by decide) kont) ?_
          show own_Go p.tables e below _ (T232.setTop (mkF m 204 #[.val (.int p1), .val (.int p2), .val (.int p3), .val (.int p4), .val (.int p5), .val (.int p6), .val (.int i), .val (.int j), .val (.int k), .val (.ref a1), .val (.int (1 : Int32)), .val (.int p4)] []))
          exact c204 _ _ _ (by rw [show own_kk k = 2 by simp [own_kk, d0, d1, d2]]; exact own_set2 _ _ _ _ _ _) X232 NA232 e232
        · skip
          refine own_go (fun _ kont => XS.icmpYes X232.here hx rfl (pc0 := 176) (pc' := 185) rfl (hb hby at_176) rfl (XT.ii_ne_t (d2)) (by decide) (by decide) kont) ?_
          show own_Go p.tables e below _ (T232.setTop (mkF m 185 #[.val (.int p1), .val (.int p2), .val (.int p3), .val (.int p4), .val (.int p5), .val (.int p6), .val (.int i), .val (.int j), .val (.int k), .val (.ref a1), .val (.int (1 : Int32)), .unset] []))
          refine own_go (fun _ kont => XS.iload X232.here hx rfl (hb hby at_185) rfl kont) ?_
          show own_Go p.tables e below _ (T232.setTop (mkF m 187 #[.val (.int p1), .val (.int p2), .val (.int p3), .val (.int p4), .val (.int p5), .val (.int p6), .val (.int i), .val (.int j), .val (.int k), .val (.ref a1), .val (.int (1 : Int32)), .unset] [(.int p5)]))
          refine own_go (fun _ kont => XS.istore X232.here hx rfl (hb hby at_187) rfl (l' := #[.val (.int p1), .val (.int p2), .val (.int p3), .val (.int p4), .val (.int p5), .val (.int p6), .val (.int i), .val (.int j), .val (.int k), .val (.ref a1), .val (.int (1 : Int32)), .val (.int p5)]) rfl kont) ?_
          show own_Go p.tables e below _ (T232.setTop (mkF m 189 #[.val (.int p1), .val (.int p2), .val (.int p3), .val (.int p4), .val (.int p5), .val (.int p6), .val (.int i), .val (.int j), .val (.int k), .val (.ref a1), .val (.int (1 : Int32)), .val (.int p5)] []))
          refine own_go (fun _ kont => XS.goto X232.here hx rfl (pc0 := 189) (pc' := 204) rfl (hb hby at_189) (by decide) (by decide) kont) ?_
          show own_Go p.tables e below _ (T232.setTop (mkF m 204 #[.val (.int p1), .val (.int p2), .val (.int p3), .val (.int p4), .val (.int p5), .val (.int p6), .val (.int i), .val (.int j), .val (.int k), .val (.ref a1), .val (.int (1 : Int32)), .val (.int p5)] []))
          exact c204 _ _ _ (by rw [show own_kk k = 3 by simp [own_kk, d0, d1, d2]]; exact own_set3 _ _ _ _ _ _) X232 NA232 e232
  · skip
    refine own_go (fun _ kont => XS.icmpYes X232.here hx rfl (pc0 := 147) (pc' := 192) rfl (hb hby at_147) rfl (XT.ii_ne_t (b)) (by decide) (by decide) kont) ?_
    show own_Go p.tables e below _ (T232.setTop (mkF m 192 #[.val (.int p1), .val (.int p2), .val (.int p3), .val (.int p4), .val (.int p5), .val (.int p6), .val (.int i), .val (.int j), .val (.int k), .val (.ref a1), .val (.int (1 : Int32)), .unset] []))
    refine own_go (fun _ kont => XS.bipush X232.here hx rfl (hb hby at_192) kont) ?_
    show own_Go p.tables e below _ (T232.setTop (mkF m 194 #[.val (.int p1), .val (.int p2), .val (.int p3), .val (.int p4), .val (.int p5), .val (.int p6), .val (.int i), .val (.int j), .val (.int k), .val (.ref a1), .val (.int (1 : Int32)), .unset] [(.int (10 : Int32))]))
    refine own_go (fun _ kont => XS.iload X232.here hx rfl (hb hby at_194) rfl kont) ?_
    show own_Go p.tables e below _ (T232.setTop (mkF m 196 #[.val (.int p1), .val (.int p2), .val (.int p3), .val (.int p4), .val (.int p5), .val (.int p6), .val (.int i), .val (.int j), .val (.int k), .val (.ref a1), .val (.int (1 : Int32)), .unset] [(.int j), (.int (10 : Int32))]))
    refine own_go (fun _ kont => XS.imul X232.here hx rfl (hb hby at_196) rfl kont) ?_
    show own_Go p.tables e below _ (T232.setTop (mkF m 197 #[.val (.int p1), .val (.int p2), .val (.int p3), .val (.int p4), .val (.int p5), .val (.int p6), .val (.int i), .val (.int j), .val (.int k), .val (.ref a1), .val (.int (1 : Int32)), .unset] [(.int ((10 : Int32) * j))]))
    refine own_go (fun _ kont => XS.iload X232.here hx rfl (hb hby at_197) rfl kont) ?_
    show own_Go p.tables e below _ (T232.setTop (mkF m 199 #[.val (.int p1), .val (.int p2), .val (.int p3), .val (.int p4), .val (.int p5), .val (.int p6), .val (.int i), .val (.int j), .val (.int k), .val (.ref a1), .val (.int (1 : Int32)), .unset] [(.int k), (.int ((10 : Int32) * j))]))
    refine own_go (fun _ kont => XS.iadd X232.here hx rfl (hb hby at_199) rfl kont) ?_
    show own_Go p.tables e below _ (T232.setTop (mkF m 200 #[.val (.int p1), .val (.int p2), .val (.int p3), .val (.int p4), .val (.int p5), .val (.int p6), .val (.int i), .val (.int j), .val (.int k), .val (.ref a1), .val (.int (1 : Int32)), .unset] [(.int (((10 : Int32) * j) + k))]))
    refine own_go (fun _ kont => XS.iconst X232.here hx rfl (hb hby at_200) kont) ?_
    show own_Go p.tables e below _ (T232.setTop (mkF m 201 #[.val (.int p1), .val (.int p2), .val (.int p3), .val (.int p4), .val (.int p5), .val (.int p6), .val (.int i), .val (.int j), .val (.int k), .val (.ref a1), .val (.int (1 : Int32)), .unset] [(.int (1 : Int32)), (.int (((10 : Int32) * j) + k))]))
    refine own_go (fun _ kont => XS.iadd X232.here hx rfl (hb hby at_201) rfl kont) ?_
    show own_Go p.tables e below _ (T232.setTop (mkF m 202 #[.val (.int p1), .val (.int p2), .val (.int p3), .val (.int p4), .val (.int p5), .val (.int p6), .val (.int i), .val (.int j), .val (.int k), .val (.ref a1), .val (.int (1 : Int32)), .unset] [(.int ((((10 : Int32) * j) + k) + (1 : Int32)))]))
    refine own_go (fun _ kont => XS.istore X232.here hx rfl (hb hby at_202) rfl (l' := #[.val (.int p1), .val (.int p2), .val (.int p3), .val (.int p4), .val (.int p5), .val (.int p6), .val (.int i), .val (.int j), .val (.int k), .val (.ref a1), .val (.int (1 : Int32)), .val (.int ((((10 : Int32) * j) + k) + (1 : Int32)))]) rfl kont) ?_
    show own_Go p.tables e below _ (T232.setTop (mkF m 204 #[.val (.int p1), .val (.int p2), .val (.int p3), .val (.int p4), .val (.int p5), .val (.int p6), .val (.int i), .val (.int j), .val (.int k), .val (.ref a1), .val (.int (1 : Int32)), .val (.int ((((10 : Int32) * j) + k) + (1 : Int32)))] []))
    exact c204 _ _ _ ((own_setn _ _ _ _ _ _ _ _ (fun q => b (Int32.toInt_inj.mp (by rw [hjn, hin, q]))) (own_kklt k)).trans (own_old j k nj hjn j3 k4)) X232 NA232 e232
set_option maxRecDepth 65536 in
set_option maxHeartbeats 40000000 in
theorem own_comes {Post : Tables → Env → Array Value → State → Outcome → State → Prop} (hpost : ∀ tb e args s v u, (limb_1_1.after args s (.returned v) u = true ∧ limb_1_2.after args s (.returned v) u = true) → FrameEnd s (.returned v) u (Jvm.fieldLocs frame_1_writes args s ++ Jvm.arrayLocs frame_1_arrays args s ++ Jvm.staticLocs frame_1_statics s) 16 128 → Post tb e args s (.returned v) u) :
    ArmFor flags0 classFile x code maxLocals ret World_1 tables_1 room_1 Calls_1 rest_1 Pre_1 Post := by
  intro l hfl _ _ p e ha hc hk s m args below hf hA hF happ hP
  obtain ⟨hcalls, hrest, hpre⟩ := hP
  obtain ⟨-, -, -, hnamed, -, -, -, hat⟩ := (Spec.applies_iff hf).mp happ
  obtain ⟨hg, hn⟩ := and_e (Cond.before_iff.mp (show (Jvm.Cond.and given_1 narrow_1).before args s = true from hpre))
  obtain ⟨g0, g1⟩ := and_e hg
  obtain ⟨i0, g2⟩ := and_e g1
  obtain ⟨i1, g3⟩ := and_e g2
  obtain ⟨i2, g4⟩ := and_e g3
  obtain ⟨i3, g5⟩ := and_e g4
  obtain ⟨i4, g6⟩ := and_e g5
  have i5 := g6
  obtain ⟨w0, w1, w2, w3, w4, w5, rfl⟩ : ∃ w0 w1 w2 w3 w4 w5 : Value, args = #[w0, w1, w2, w3, w4, w5] := by
    have hs : args.size = 6 := by simpa [Cond.value, given_1] using g0
    obtain ⟨L⟩ := args
    match L, hs with
    | [w0, w1, w2, w3, w4, w5], _ => exact ⟨w0, w1, w2, w3, w4, w5, rfl⟩
  have hw := fun d (hd : d ∈ tables_1) => atoms_spec (ws := Jvm.Cond.code x code maxLocals ret :: tables_1) hat d (List.mem_cons_of_mem _ hd)
  have hfit : Fit s := fun {y c} hc i hi => by
    obtain ⟨ha, rfl⟩ := Array.getElem?_eq_some_iff.mp hc
    have q := List.all_eq_true.mp ((Array.all_eq_true_iff_forall_mem.mp hF) _ (Array.getElem_mem ha)) i (List.mem_range.mpr hi)
    simpa [Array.getElem?_eq_getElem hi] using q
  obtain ⟨z0, ez0⟩ := is_v i0
  obtain rfl : w0 = (.int z0) := Option.some.inj ez0
  obtain ⟨z1, ez1⟩ := is_v i1
  obtain rfl : w1 = (.int z1) := Option.some.inj ez1
  obtain ⟨z2, ez2⟩ := is_v i2
  obtain rfl : w2 = (.int z2) := Option.some.inj ez2
  obtain ⟨z3, ez3⟩ := is_v i3
  obtain rfl : w3 = (.int z3) := Option.some.inj ez3
  obtain ⟨z4, ez4⟩ := is_v i4
  obtain rfl : w4 = (.int z4) := Option.some.inj ez4
  obtain ⟨z5, ez5⟩ := is_v i5
  obtain rfl : w5 = (.int z5) := Option.some.inj ez5
  obtain ⟨n, o, h1, h2, h3, _, L, rfl, ⟨rfl, N⟩, hq⟩ := own_rm0 l s _ hw tables_1 z0 z1 z2 z3 z4 z5 s.heap s.heap.size (Nat.le_refl _) p e ha hc hk s m _ below hf ((Spec.applies_iff_loose hf).mp happ).1 ⟨rfl, State.Warmed39.refl s, rfl⟩ trivial
  refine ⟨n, _, h1, h2, h3, hpost _ _ _ _ _ _ ⟨Cond.after_iff.mpr rfl, Cond.after_iff.mpr (eq_i res_at (Term.int_eval (1)) rfl)⟩ ⟨hq.1, hq.2.1, (hq.2.2.sift fun y hy => Or.inr (N y hy)).mono (by decide) (by decide)⟩⟩
theorem main_1_1 : Claimed_1_1 := own_comes fun _ _ _ _ _ _ h hF => ⟨h.1, hF⟩
theorem main_1_2 : Claimed_1_2 := own_comes fun _ _ _ _ _ _ h hF => ⟨h.2, hF⟩
end Jvm.Pilot.@@N@@
namespace Jvm.Pilot.@@N@@
open Jvm Jvm.ClassFile Sem Op Lib Jvm.Free Jvm.Stand Jvm.Pilot.@@N@@.Jvm.D
/-! MADE BY PROGRAM (witnessworld.py) out of the Statement's table words and the real class files: 9 classes; the members and pool entries that the words name. The judged class is class 1, her method 1. -/
namespace start1
open Jvm.ClassFile
def u (s : String) : CpInfo := .utf8 (stringToUtf16 s)
/-- a pool by its gaps: so many unusable entries, then the entry; so many at the end -/
def gap : Nat → List CpInfo → List CpInfo
  | 0, r => r
  | n + 1, r => .unusable :: gap n r
def poolList (es : List (Nat × CpInfo)) (last : Nat) : List CpInfo := es.foldr (fun e r => gap e.1 (e.2 :: r)) (gap last [])
def pool (es : List (Nat × CpInfo)) (last : Nat) : Array CpInfo := ⟨poolList es last⟩
def fileOf (pool : Array CpInfo) (this : Nat) (attrs : Array Attribute := #[]) (ms : Array MethodInfo := #[]) (fl : Nat := 33) (sup : Nat := 0) (ifs : Array Nat := #[]) (fds : Array FieldInfo := #[]) : ClassFile where
  minorVersion := 0
  majorVersion := 65
  constantPool := pool
  accessFlags := fl
  thisClass := this
  superClass := sup
  interfaces := ifs
  fields := fds
  methods := ms
  attributes := attrs
def plain (name : String) (sup : Option ClassId) : Class where
  name := name
  kind := .ordinary
  loader := none
  accessFlags := 33
  super := sup
  interfaces := #[]
  cf := none
  fields := #[]
  methods := #[]
  instanceTypes := #[]
  staticTypes := #[]
  resolved := #[]
  callSites := []
  init := .initialized
  statics := none
  mirror := none

def pool0 : Array CpInfo := pool [(5, u "<init>"), (0, u "()V"), (1, .class_ 10), (1, u "java/lang/Object")] 113

def k0c0 : Code := { maxStack := 0, maxLocals := 1, code := object_method_1_code, exceptionTable := #[], attributes := #[] }
def k0m0 : Method := { name := "<init>", desc := "()V", sig := { parameters := [], returnType := none }, accessFlags := 1, code := some k0c0 }
/-- java/lang/Object -/
def k0 : Class := { plain "java/lang/Object" none with
  accessFlags := 33
  interfaces := #[]
  cf := some (fileOf pool0 8 #[] #[{ accessFlags := 1, nameIndex := 5, descriptorIndex := 6, attributes := #[] }] 33 0 #[] #[])
  fields := #[]
  methods := #[k0m0]
  instanceTypes := #[]
  staticTypes := #[]
  resolved := Array.replicate 124 none
  statics := none }

def pool1 : Array CpInfo := pool [(2, .class_ 4), (0, .nameAndType 5 6), (0, u "java/lang/Object"), (0, u "<init>"), (0, u "()V"), (0, .integer 2147483647), (0, .class_ 9), (0, u "com/example/drawtree/drawtree/RectList"), (0, .methodref 8 3), (0, .methodref 8 12), (0, .nameAndType 13 14), (0, u "add"), (0, u "(IIII)V"), (0, .methodref 8 16), (0, .nameAndType 17 18), (0, u "set"), (0, u "(IIIII)V"), (0, .methodref 8 20), (0, .nameAndType 21 22), (0, u "size"), (0, u "()I"), (0, .methodref 8 24), (0, .nameAndType 25 26), (0, u "left"), (0, u "(I)I"), (0, .methodref 8 28), (0, .nameAndType 29 26), (0, u "top"), (0, .methodref 8 31), (0, .nameAndType 32 26), (0, u "right"), (0, .methodref 8 34), (0, .nameAndType 35 26), (0, u "bottom"), (0, .methodref 37 38), (0, .class_ 39), (0, .nameAndType 40 41), (0, u "com/example/drawtree/drawtree/RectListSetPinLaw"), (0, u "edge"), (0, u "(Lcom/example/drawtree/drawtree/RectList;II)I"), (2, u "law"), (0, u "(IIIIII)Z")] 3

def k1m0 : Method := { name := "<init>", desc := "()V", sig := { parameters := [], returnType := none }, accessFlags := 1, code := none }
def k1c1 : Code := { maxStack := 6, maxLocals := 12, code := code, exceptionTable := #[], attributes := #[] }
def k1m1 : Method := { name := "law", desc := "(IIIIII)Z", sig := { parameters := [.int, .int, .int, .int, .int, .int], returnType := some .boolean }, accessFlags := 9, code := some k1c1 }
def k1c2 : Code := { maxStack := 2, maxLocals := 3, code := method_3_code, exceptionTable := #[], attributes := #[] }
def k1m2 : Method := { name := "edge", desc := "(Lcom/example/drawtree/drawtree/RectList;II)I", sig := { parameters := [(.object "com/example/drawtree/drawtree/RectList"), .int, .int], returnType := some .int }, accessFlags := 10, code := some k1c2 }
/-- com/example/drawtree/drawtree/RectListSetPinLaw -/
def k1 : Class := { plain "com/example/drawtree/drawtree/RectListSetPinLaw" (some 0) with
  accessFlags := 49
  interfaces := #[]
  cf := some (fileOf pool1 37 #[] #[{ accessFlags := 1, nameIndex := 5, descriptorIndex := 6, attributes := #[] }, { accessFlags := 9, nameIndex := 44, descriptorIndex := 45, attributes := #[] }, { accessFlags := 10, nameIndex := 40, descriptorIndex := 41, attributes := #[] }] 49 2 #[] #[])
  fields := #[]
  methods := #[k1m0, k1m1, k1m2]
  instanceTypes := #[]
  staticTypes := #[]
  resolved := Array.replicate 49 none
  statics := none }

def pool2 : Array CpInfo := pool [(1, .methodref 2 3), (0, .class_ 4), (0, .nameAndType 5 6), (0, u "java/lang/Object"), (0, u "<init>"), (0, u "()V"), (0, .fieldref 8 9), (0, .class_ 10), (0, .nameAndType 11 12), (0, u "com/example/drawtree/drawtree/RectList"), (0, u "edges"), (0, u "[I"), (2, u "add"), (0, u "(IIII)V"), (0, .fieldref 8 18), (0, .nameAndType 19 20), (0, u "size"), (0, u "I"), (2, u "left"), (0, u "(I)I"), (2, u "right"), (2, u "top"), (2, u "bottom"), (17, u "()I"), (12, .methodref 8 65), (0, .nameAndType 66 67), (0, u "set"), (0, u "(IIIII)V")] 48

def k2c0 : Code := { maxStack := 2, maxLocals := 1, code := prog_58_method_1_code, exceptionTable := #[], attributes := #[] }
def k2m0 : Method := { name := "<init>", desc := "()V", sig := { parameters := [], returnType := none }, accessFlags := 0, code := some k2c0 }
def k2c1 : Code := { maxStack := 1, maxLocals := 1, code := prog_58_method_3_code, exceptionTable := #[], attributes := #[] }
def k2m1 : Method := { name := "size", desc := "()I", sig := { parameters := [], returnType := some .int }, accessFlags := 0, code := some k2c1 }
def k2c2 : Code := { maxStack := 3, maxLocals := 2, code := prog_58_method_6_code, exceptionTable := #[], attributes := #[] }
def k2m2 : Method := { name := "left", desc := "(I)I", sig := { parameters := [.int], returnType := some .int }, accessFlags := 0, code := some k2c2 }
def k2c3 : Code := { maxStack := 3, maxLocals := 2, code := prog_58_method_7_code, exceptionTable := #[], attributes := #[] }
def k2m3 : Method := { name := "top", desc := "(I)I", sig := { parameters := [.int], returnType := some .int }, accessFlags := 0, code := some k2c3 }
def k2c4 : Code := { maxStack := 3, maxLocals := 2, code := prog_58_method_8_code, exceptionTable := #[], attributes := #[] }
def k2m4 : Method := { name := "right", desc := "(I)I", sig := { parameters := [.int], returnType := some .int }, accessFlags := 0, code := some k2c4 }
def k2c5 : Code := { maxStack := 3, maxLocals := 2, code := prog_58_method_9_code, exceptionTable := #[], attributes := #[] }
def k2m5 : Method := { name := "bottom", desc := "(I)I", sig := { parameters := [.int], returnType := some .int }, accessFlags := 0, code := some k2c5 }
def k2c6 : Code := { maxStack := 6, maxLocals := 5, code := prog_58_method_14_code, exceptionTable := #[], attributes := #[] }
def k2m6 : Method := { name := "add", desc := "(IIII)V", sig := { parameters := [.int, .int, .int, .int], returnType := none }, accessFlags := 0, code := some k2c6 }
def k2c7 : Code := { maxStack := 3, maxLocals := 6, code := prog_58_method_16_code, exceptionTable := #[], attributes := #[] }
def k2m7 : Method := { name := "set", desc := "(IIIII)V", sig := { parameters := [.int, .int, .int, .int, .int], returnType := none }, accessFlags := 0, code := some k2c7 }
/-- com/example/drawtree/drawtree/RectList -/
def k2 : Class := { plain "com/example/drawtree/drawtree/RectList" (some 0) with
  accessFlags := 48
  interfaces := #[]
  cf := some (fileOf pool2 8 #[] #[{ accessFlags := 0, nameIndex := 5, descriptorIndex := 6, attributes := #[] }, { accessFlags := 0, nameIndex := 19, descriptorIndex := 51, attributes := #[] }, { accessFlags := 0, nameIndex := 23, descriptorIndex := 24, attributes := #[] }, { accessFlags := 0, nameIndex := 30, descriptorIndex := 24, attributes := #[] }, { accessFlags := 0, nameIndex := 27, descriptorIndex := 24, attributes := #[] }, { accessFlags := 0, nameIndex := 33, descriptorIndex := 24, attributes := #[] }, { accessFlags := 0, nameIndex := 15, descriptorIndex := 16, attributes := #[] }, { accessFlags := 0, nameIndex := 66, descriptorIndex := 67, attributes := #[] }] 48 2 #[] #[{ accessFlags := 2, nameIndex := 11, descriptorIndex := 12, attributes := #[] }, { accessFlags := 2, nameIndex := 19, descriptorIndex := 20, attributes := #[] }])
  fields := #[{ name := "edges", type := (.array .int), accessFlags := 2, slot := 0, constantValue := 0 }, { name := "size", type := .int, accessFlags := 2, slot := 1, constantValue := 0 }]
  methods := #[k2m0, k2m1, k2m2, k2m3, k2m4, k2m5, k2m6, k2m7]
  instanceTypes := #[(.array .int), .int]
  staticTypes := #[]
  resolved := Array.replicate 116 none
  statics := none }

def pool3 : Array CpInfo := pool [(1, u "java/lang/Cloneable"), (0, .class_ 1), (0, u "java/lang/Object"), (0, .class_ 3)] 3

/-- java/lang/Cloneable -/
def k3 : Class := { plain "java/lang/Cloneable" (some 0) with
  accessFlags := 1537
  interfaces := #[]
  cf := some (fileOf pool3 2 #[] #[] 1537 4 #[] #[])
  fields := #[]
  methods := #[]
  instanceTypes := #[]
  staticTypes := #[]
  resolved := Array.replicate 8 none
  statics := none }

def pool4 : Array CpInfo := pool [(1, u "java/io/Serializable"), (0, .class_ 1), (0, u "java/lang/Object"), (0, .class_ 3)] 3

/-- java/io/Serializable -/
def k4 : Class := { plain "java/io/Serializable" (some 0) with
  accessFlags := 1537
  interfaces := #[]
  cf := some (fileOf pool4 2 #[] #[] 1537 4 #[] #[])
  fields := #[]
  methods := #[]
  instanceTypes := #[]
  staticTypes := #[]
  resolved := Array.replicate 8 none
  statics := none }

/-- the primitive byte -/
def k5 : Class := { plain "byte" none with kind := .primitive 'B', accessFlags := 0x411 }
/-- [B -/
def k6 : Class := { plain "[B" (some 0) with kind := .array 5 .byte, interfaces := #[3, 4], accessFlags := 1041 }

/-- the primitive int -/
def k7 : Class := { plain "int" none with kind := .primitive 'I', accessFlags := 0x411 }
/-- [I -/
def k8 : Class := { plain "[I" (some 0) with kind := .array 7 .int, interfaces := #[3, 4], accessFlags := 1041 }

def heap : Heap := #[]
def classes : Array Class := #[k0, k1, k2, k3, k4, k5, k6, k7, k8]
def interned : List (Array UInt16 × Addr) := []
def slotsUsed : Nat := 0
def theMethod : MethodId := ⟨1, 1⟩
def args0 : Array Value := #[.int 5, .int 300, .int 7, .int 8, .int 9, .int 10]
def aboutOver (below : List Frame) : State where
  vm := { classes := classes, interned := interned.toArray }
  heap := heap
  slotsUsed := slotsUsed
  threads := #[{ frames := .invoking theMethod args0 :: below }]
def below0 : List Frame := [.native { method := ⟨0, 0⟩, args := #[] }]
def about1 : State := aboutOver below0
def p0 : Program := .bare "" "" ""
def e0 : Env := launch0.env 0 0 0
theorem w_frames : about1.frames = Frame.invoking theMethod args0 :: below0 := rfl
set_option maxRecDepth 65536 in
theorem w_args : argsFit about1.vm theMethod args0 = true := by decide +kernel
set_option maxRecDepth 65536 in
theorem w_heap : heapFits about1 = true := by decide +kernel
set_option maxRecDepth 65536 in
theorem w_runnable : about1.curStatus? = some .runnable := by decide +kernel
set_option maxRecDepth 65536 in
theorem w_alone : about1.alone = true := by decide +kernel
set_option maxRecDepth 65536 in
theorem w_named : about1.methodNamed? x = some theMethod := by decide +kernel
set_option maxRecDepth 65536 in
theorem w_hears : about1.hears theMethod below0 = true := by decide +kernel
set_option maxRecDepth 65536 in
theorem w_ripe : about1.ripe theMethod args0 below0 = true := by decide +kernel
theorem w_running : about1.status = .running := rfl
set_option maxRecDepth 65536 in
theorem w_room : about1.hasRoom e0.platform room_1 = true :=
  launch0.hasRoom_least _ room_1 (by decide +kernel) (by decide +kernel) (by decide +kernel) (by decide +kernel) (by decide +kernel) (by decide +kernel)
theorem allAtoms_all (ts : List Jvm.Cond) (a : Array Jvm.Value) (st : Jvm.State) : (allAtoms ts).before a st = ts.all (fun c => c.before a st) := by
  induction ts with
  | nil => rfl
  | cons c t ih =>
    show (Jvm.Cond.and c (allAtoms t)).before a st = _
    rw [Jvm.Cond.before_and, ih, List.all_cons]
def words1 : List Jvm.Cond := Jvm.Cond.code x code maxLocals ret :: tables_1
/-- a 'code' word, met by the world's own term for the bytes: nothing is compared byte by byte -/
theorem code_word {y : MethodName} {bytes : ByteArray} {mx : Nat} {rt : Option FieldType} {a : Array Value} {s : State} {m : MethodId} {meth : Method} {c : Code} (h1 : s.methodNamed? y = some m) (h2 : s.vm.method? m = some meth) (h3 : meth.code = some c) (h4 : c.code = bytes)
    (h5 : (c.maxLocals == mx && c.exceptionTable.isEmpty && decide (c.maxStack ≤ mostOperands) && decide (meth.sig.returnType = rt) && !meth.locks && decide (parseMethodDescriptor y.desc = some meth.sig)) = true) : (Jvm.Cond.code y bytes mx rt).before a s = true := by
  simp only [Bool.and_eq_true, beq_iff_eq, Bool.not_eq_true', decide_eq_true_eq] at h5
  obtain ⟨⟨⟨⟨⟨g1, g2⟩, g3⟩, g4⟩, g5⟩, g6⟩ := h5
  simp [Cond.before, Cond.holds, Cond.value, h1, h2, h3, h4, g1, g2, g3, g4, g5, g6]
def isCode : Jvm.Cond → Bool
  | .code _ _ _ _ => true
  | _ => false
theorem all_split {L : List Jvm.Cond} {P : Jvm.Cond → Bool} (h1 : L.all (fun c => isCode c || P c) = true) (h2 : ∀ c ∈ L.filter isCode, P c = true) : L.all P = true := by
  refine List.all_eq_true.mpr fun c hc => ?_
  have h := List.all_eq_true.mp h1 c hc
  rcases Bool.eq_false_or_eq_true (isCode c) with hi | hi
  · exact h2 c (List.mem_filter.mpr ⟨hc, hi⟩)
  · simpa [hi] using h
set_option maxRecDepth 65536 in
theorem w_c0 : (Jvm.Cond.code x code maxLocals ret).before args0 about1 = true := code_word (m := ⟨1, 1⟩) (meth := k1m1) (c := k1c1) (by decide +kernel) rfl rfl rfl (by decide +kernel)
set_option maxRecDepth 65536 in
theorem w_c1 : (Jvm.Cond.code ({ cls := "com/example/drawtree/drawtree/RectList", name := "<init>", desc := "()V" } : Jvm.MethodName) prog_58_method_1_code (1 : Nat) (Option.none : Option Jvm.ClassFile.FieldType)).before args0 about1 = true := code_word (m := ⟨2, 0⟩) (meth := k2m0) (c := k2c0) (by decide +kernel) rfl rfl rfl (by decide +kernel)
set_option maxRecDepth 65536 in
theorem w_c2 : (Jvm.Cond.code ({ cls := "java/lang/Object", name := "<init>", desc := "()V" } : Jvm.MethodName) object_method_1_code (1 : Nat) (Option.none : Option Jvm.ClassFile.FieldType)).before args0 about1 = true := code_word (m := ⟨0, 0⟩) (meth := k0m0) (c := k0c0) (by decide +kernel) rfl rfl rfl (by decide +kernel)
set_option maxRecDepth 65536 in
theorem w_c3 : (Jvm.Cond.code ({ cls := "com/example/drawtree/drawtree/RectList", name := "add", desc := "(IIII)V" } : Jvm.MethodName) prog_58_method_14_code (5 : Nat) (Option.none : Option Jvm.ClassFile.FieldType)).before args0 about1 = true := code_word (m := ⟨2, 6⟩) (meth := k2m6) (c := k2c6) (by decide +kernel) rfl rfl rfl (by decide +kernel)
set_option maxRecDepth 65536 in
theorem w_c4 : (Jvm.Cond.code ({ cls := "com/example/drawtree/drawtree/RectList", name := "set", desc := "(IIIII)V" } : Jvm.MethodName) prog_58_method_16_code (6 : Nat) (Option.none : Option Jvm.ClassFile.FieldType)).before args0 about1 = true := code_word (m := ⟨2, 7⟩) (meth := k2m7) (c := k2c7) (by decide +kernel) rfl rfl rfl (by decide +kernel)
set_option maxRecDepth 65536 in
theorem w_c5 : (Jvm.Cond.code ({ cls := "com/example/drawtree/drawtree/RectList", name := "size", desc := "()I" } : Jvm.MethodName) prog_58_method_3_code (1 : Nat) (Option.some Jvm.ClassFile.FieldType.int)).before args0 about1 = true := code_word (m := ⟨2, 1⟩) (meth := k2m1) (c := k2c1) (by decide +kernel) rfl rfl rfl (by decide +kernel)
set_option maxRecDepth 65536 in
theorem w_c6 : (Jvm.Cond.code ({ cls := "com/example/drawtree/drawtree/RectList", name := "left", desc := "(I)I" } : Jvm.MethodName) prog_58_method_6_code (2 : Nat) (Option.some Jvm.ClassFile.FieldType.int)).before args0 about1 = true := code_word (m := ⟨2, 2⟩) (meth := k2m2) (c := k2c2) (by decide +kernel) rfl rfl rfl (by decide +kernel)
set_option maxRecDepth 65536 in
theorem w_c7 : (Jvm.Cond.code ({ cls := "com/example/drawtree/drawtree/RectList", name := "top", desc := "(I)I" } : Jvm.MethodName) prog_58_method_7_code (2 : Nat) (Option.some Jvm.ClassFile.FieldType.int)).before args0 about1 = true := code_word (m := ⟨2, 3⟩) (meth := k2m3) (c := k2c3) (by decide +kernel) rfl rfl rfl (by decide +kernel)
set_option maxRecDepth 65536 in
theorem w_c8 : (Jvm.Cond.code ({ cls := "com/example/drawtree/drawtree/RectList", name := "right", desc := "(I)I" } : Jvm.MethodName) prog_58_method_8_code (2 : Nat) (Option.some Jvm.ClassFile.FieldType.int)).before args0 about1 = true := code_word (m := ⟨2, 4⟩) (meth := k2m4) (c := k2c4) (by decide +kernel) rfl rfl rfl (by decide +kernel)
set_option maxRecDepth 65536 in
theorem w_c9 : (Jvm.Cond.code ({ cls := "com/example/drawtree/drawtree/RectList", name := "bottom", desc := "(I)I" } : Jvm.MethodName) prog_58_method_9_code (2 : Nat) (Option.some Jvm.ClassFile.FieldType.int)).before args0 about1 = true := code_word (m := ⟨2, 5⟩) (meth := k2m5) (c := k2c5) (by decide +kernel) rfl rfl rfl (by decide +kernel)
set_option maxRecDepth 65536 in
theorem w_c10 : (Jvm.Cond.code ({ cls := "com/example/drawtree/drawtree/RectListSetPinLaw", name := "edge", desc := "(Lcom/example/drawtree/drawtree/RectList;II)I" } : Jvm.MethodName) method_3_code (3 : Nat) (Option.some Jvm.ClassFile.FieldType.int)).before args0 about1 = true := code_word (m := ⟨1, 2⟩) (meth := k1m2) (c := k1c2) (by decide +kernel) rfl rfl rfl (by decide +kernel)
def codes1 : List Jvm.Cond := [Jvm.Cond.code x code maxLocals ret, Jvm.Cond.code ({ cls := "com/example/drawtree/drawtree/RectList", name := "<init>", desc := "()V" } : Jvm.MethodName) prog_58_method_1_code (1 : Nat) (Option.none : Option Jvm.ClassFile.FieldType), Jvm.Cond.code ({ cls := "java/lang/Object", name := "<init>", desc := "()V" } : Jvm.MethodName) object_method_1_code (1 : Nat) (Option.none : Option Jvm.ClassFile.FieldType), Jvm.Cond.code ({ cls := "com/example/drawtree/drawtree/RectList", name := "add", desc := "(IIII)V" } : Jvm.MethodName) prog_58_method_14_code (5 : Nat) (Option.none : Option Jvm.ClassFile.FieldType), Jvm.Cond.code ({ cls := "com/example/drawtree/drawtree/RectList", name := "set", desc := "(IIIII)V" } : Jvm.MethodName) prog_58_method_16_code (6 : Nat) (Option.none : Option Jvm.ClassFile.FieldType), Jvm.Cond.code ({ cls := "com/example/drawtree/drawtree/RectList", name := "size", desc := "()I" } : Jvm.MethodName) prog_58_method_3_code (1 : Nat) (Option.some Jvm.ClassFile.FieldType.int), Jvm.Cond.code ({ cls := "com/example/drawtree/drawtree/RectList", name := "left", desc := "(I)I" } : Jvm.MethodName) prog_58_method_6_code (2 : Nat) (Option.some Jvm.ClassFile.FieldType.int), Jvm.Cond.code ({ cls := "com/example/drawtree/drawtree/RectList", name := "top", desc := "(I)I" } : Jvm.MethodName) prog_58_method_7_code (2 : Nat) (Option.some Jvm.ClassFile.FieldType.int), Jvm.Cond.code ({ cls := "com/example/drawtree/drawtree/RectList", name := "right", desc := "(I)I" } : Jvm.MethodName) prog_58_method_8_code (2 : Nat) (Option.some Jvm.ClassFile.FieldType.int), Jvm.Cond.code ({ cls := "com/example/drawtree/drawtree/RectList", name := "bottom", desc := "(I)I" } : Jvm.MethodName) prog_58_method_9_code (2 : Nat) (Option.some Jvm.ClassFile.FieldType.int), Jvm.Cond.code ({ cls := "com/example/drawtree/drawtree/RectListSetPinLaw", name := "edge", desc := "(Lcom/example/drawtree/drawtree/RectList;II)I" } : Jvm.MethodName) method_3_code (3 : Nat) (Option.some Jvm.ClassFile.FieldType.int)]
set_option maxRecDepth 65536 in
theorem codes_eq : words1.filter isCode = codes1 := rfl
theorem w_codes : ∀ c ∈ words1.filter isCode, c.before args0 about1 = true := by
  rw [codes_eq]
  intro c hc
  simp only [codes1, List.mem_cons, List.not_mem_nil, or_false] at hc
  rcases hc with rfl | rfl | rfl | rfl | rfl | rfl | rfl | rfl | rfl | rfl | rfl
  · exact w_c0
  · exact w_c1
  · exact w_c2
  · exact w_c3
  · exact w_c4
  · exact w_c5
  · exact w_c6
  · exact w_c7
  · exact w_c8
  · exact w_c9
  · exact w_c10
set_option maxRecDepth 65536 in
theorem w_t1 : (words1.take 24).all (fun c => isCode c || c.before args0 about1) = true := by decide +kernel
set_option maxRecDepth 65536 in
theorem w_t2 : ((words1.drop 24).take 24).all (fun c => isCode c || c.before args0 about1) = true := by decide +kernel
set_option maxRecDepth 65536 in
theorem w_t3 : ((words1.drop 24).drop 24).all (fun c => isCode c || c.before args0 about1) = true := by decide +kernel
theorem w_tables : (allAtoms (Jvm.Cond.code x code maxLocals ret :: tables_1)).before args0 about1 = true := by
  rw [allAtoms_all]
  show words1.all (fun c => c.before args0 about1) = true
  refine all_split ?_ w_codes
  rw [← List.take_append_drop 24 words1, List.all_append, w_t1, ← List.take_append_drop 24 (words1.drop 24), List.all_append, w_t2, w_t3]
  rfl
set_option maxRecDepth 65536 in
theorem w_case : (Jvm.Cond.and given_1 narrow_1).before args0 about1 = true := by decide +kernel
theorem w_applies : (headSpec (Jvm.Cond.code x code maxLocals ret :: tables_1) room_1).applies x e0.platform about1 = true :=
  (Spec.applies_iff w_frames).mpr ⟨w_running, w_runnable, w_alone, w_named, w_hears, w_ripe, w_room, w_tables⟩
theorem atStart : AtStart classFile x code maxLocals ret World_1 tables_1 room_1 Calls_1 rest_1 Pre_1 launch0 p0 e0 about1 theMethod args0 below0 :=
  ⟨lists_1, trivial, launch0.admits_env _ _ _, launch0.least_env, fairChoices_fair.cas, fairChoices_fair.clock, w_frames, w_args, w_heap, w_applies, trivial, trivial, w_case⟩
end start1
theorem witness_1 : WitnessClaimed_1 := ⟨start1.p0, start1.e0, start1.about1, start1.theMethod, start1.args0, start1.below0, start1.atStart⟩
end Jvm.Pilot.@@N@@
