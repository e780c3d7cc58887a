import JvmDerived
import JvmDerived.Pilot.@@N@@Statement
import JvmDerived.Pilot.@@N@@Code
set_option linter.unusedVariables false
set_option linter.unusedSimpArgs false
namespace Jvm.Pilot.@@N@@
open Jvm Jvm.ClassFile Sem Op Lib Jvm.Free Jvm.Stand Jvm.LawKit Jvm.RoadKit Bundle Jvm.Pilot.@@N@@.Jvm.D

/-! own kit: the walk goes forward, from state to state, to an end that the contract names -/
section OwnKit
variable {p : Program} {l : Launch} {e : Env} {R : Room} {s : State} {m : MethodId} {args : Array Value} {below : List Frame} {meth : Method} {c : Code} {T : State} {locs : List Loc} {cells slots : Nat} {Z : State} {a0 : Array Value} {h : Heap}
def own_Go (tb : Tables) (e : Env) (below : List Frame) (F : State → Outcome → Prop) (S : State) : Prop := ∃ t o, Steps tb e below S t ∧ F t o
theorem own_go {tb : Tables} {F : State → Outcome → Prop} {S S' : State} (k : ∀ t, Steps tb e below S' t → Steps tb e below S t) (q : own_Go tb e below F S') : own_Go tb e below F S := by
  obtain ⟨t, o, a, b⟩ := q; exact ⟨t, o, k t a, b⟩
theorem own_gt {tb : Tables} {F : State → Outcome → Prop} {S S' : State} (k : Steps tb e below S S') (q : own_Go tb e below F S') : own_Go tb e below F S := own_go (fun _ r => k.trans r) q
def own_Fin (s : State) (below : List Frame) (Q : Option Value → Heap → List Loc → Prop) (nc ns : Nat) (t : State) (o : Outcome) : Prop :=
  t.status = .running ∧ Ended t below o ∧ ∃ v L, o = .returned v ∧ Q v t.heap L ∧ FrameEnd s o t L nc ns
def own_Met (l : Launch) (y : MethodName) (ws : List Jvm.Cond) (rm : Room) (Z : State) (h : Heap) (as : Array Value) (Q : Option Value → Heap → List Loc → Prop) : Prop :=
  MetFree l y (head1 ws rm) (fun a U => a = as ∧ Z.Warmed39 U.vm ∧ U.heap = h) (fun _ _ _ _ _ => True) (fun _ U o U' => ∃ v L, o = .returned v ∧ Q v U'.heap L ∧ FrameEnd U o U' L rm.cells rm.slots)
theorem own_body {y : MethodName} {bytes : ByteArray} {mx : Nat} {rt : Option FieldType} {rm : Room} {ws : List Jvm.Cond} {as : Array Value} {Q : Option Value → Heap → List Loc → Prop} (pn : plainName y.cls = true)
    (H : ∀ (p : Program) (e : Env) (s : State) (m : MethodId) (below : List Frame) (meth : Method) (c : Code) (s₁ : State), p.tables.exec = Jvm.exec → c.code = bytes → c.maxLocals = mx → s.vm.findClass y.cls = some m.cls → meth.name = y.name → meth.sig.returnType = rt → meth.locks = false → Z.Warmed39 s.vm →
      Stand p l e rm s m as below meth c s₁ [] 0 0 → s₁.heap = h → own_Go p.tables e below (own_Fin s below Q rm.cells rm.slots) (s₁.setTop (entryFrame m as mx))) :
    own_Met l y (Jvm.Cond.code y bytes mx rt :: ws) rm Z h as Q := by
  refine MetFree.of_bodySF (plainFor_of_name pn) hisR ?_
  intro p e s m args below meth c s₁ Bd hml hP hK
  obtain ⟨rfl, hZ, hh⟩ := hP
  exact H p e s m below meth c s₁ Bd.exec Bd.bytes hml (findClass_of_methodNamed Bd.named) (name_of_methodNamed Bd.named Bd.method).1 Bd.returns Bd.notSynchronized hZ (Stand.of_body Bd) (by rw [← hh, Bd.state]; rfl)
theorem own_end (X : Stand p l e R s m args below meth c T locs cells slots) {v : Option Value} {g : JFrame} {Q : Option Value → Heap → List Loc → Prop} {nc ns : Nat} (hlk : meth.locks = false) (hv : meth.sig.returnType = none → v = none)
    (st : ∀ fs, (∀ (f : JFrame) (acts : List Action), f.method = m → f.locked = none → f.entered = [] → (doReturn e (T.setTop f) acts v).1 = T.setFrames fs) → Steps p.tables e below (T.setTop g) (T.setFrames fs)) (hQ : Q v T.heap locs) (h1 : cells ≤ nc) (h2 : slots ≤ ns) :
    own_Go p.tables e below (own_Fin s below Q nc ns) (T.setTop g) := by
  obtain ⟨fs, hr, hrun, hended, hW, hsame⟩ := X.leave (v := v) hv hlk
  exact ⟨_, _, st fs hr, hrun, hended, _, _, rfl, hQ, ⟨_, rfl⟩, hW, hsame.mono h1 h2⟩
theorem own_retI (X : Stand p l e R s m args below meth c T locs cells slots) (hx : p.tables.exec = Jvm.exec) {pc : Nat} {Ls : Array Slot} {z : Int32} {t : FieldType} {rest : List Value} {Q : Option Value → Heap → List Loc → Prop} {nc ns : Nat} (hlk : meth.locks = false) (hret : meth.sig.returnType = some t) (ht : t = .int ∨ t = .boolean ∨ t = .byte ∨ t = .char ∨ t = .short) (hn : narrow t (.int z) = .int z)
    (hd : decode c.code pc = .ok (.ireturn, 1)) (hQ : Q (some (.int z)) T.heap locs) (h1 : cells ≤ nc) (h2 : slots ≤ ns) : own_Go p.tables e below (own_Fin s below Q nc ns) (T.setTop (mkF m pc Ls (.int z :: rest))) :=
  own_end X hlk (fun q => by rw [hret] at q; cases q) (fun fs hr => retOut X hx hret hn (Or.inl ⟨rfl, ht, _, rfl⟩) hd hr) hQ h1 h2
theorem own_retJ (X : Stand p l e R s m args below meth c T locs cells slots) (hx : p.tables.exec = Jvm.exec) {pc : Nat} {Ls : Array Slot} {z : Int64} {rest : List Value} {Q : Option Value → Heap → List Loc → Prop} {nc ns : Nat} (hlk : meth.locks = false) (hret : meth.sig.returnType = some .long)
    (hd : decode c.code pc = .ok (.lreturn, 1)) (hQ : Q (some (.long z)) T.heap locs) (h1 : cells ≤ nc) (h2 : slots ≤ ns) : own_Go p.tables e below (own_Fin s below Q nc ns) (T.setTop (mkF m pc Ls (.long z :: rest))) :=
  own_end X hlk (fun q => by rw [hret] at q; cases q) (fun fs hr => retOut X hx hret rfl (Or.inr (Or.inl ⟨rfl, rfl, _, rfl⟩)) hd hr) hQ h1 h2
theorem own_retA (X : Stand p l e R s m args below meth c T locs cells slots) (hx : p.tables.exec = Jvm.exec) {pc : Nat} {Ls : Array Slot} {w : Value} {t : FieldType} {rest : List Value} {Q : Option Value → Heap → List Loc → Prop} {nc ns : Nat} (hlk : meth.locks = false) (hret : meth.sig.returnType = some t) (ht : t.isReference = true) (hw : w.isRef = true)
    (hd : decode c.code pc = .ok (.areturn, 1)) (hQ : Q (some w) T.heap locs) (h1 : cells ≤ nc) (h2 : slots ≤ ns) : own_Go p.tables e below (own_Fin s below Q nc ns) (T.setTop (mkF m pc Ls (w :: rest))) :=
  own_end X hlk (fun q => by rw [hret] at q; cases q) (fun fs hr => retOut X hx hret (by cases t <;> first | (cases ht; done) | (cases w <;> first | rfl | cases hw)) (Or.inr (Or.inr (Or.inr (Or.inr ⟨rfl, ht, hw⟩)))) hd hr) hQ h1 h2
theorem own_retV (X : Stand p l e R s m args below meth c T locs cells slots) (hx : p.tables.exec = Jvm.exec) {pc : Nat} {Ls : Array Slot} {Q : Option Value → Heap → List Loc → Prop} {nc ns : Nat} (hlk : meth.locks = false) (hret : meth.sig.returnType = none)
    (hd : decode c.code pc = .ok (.return_, 1)) (hQ : Q none T.heap locs) (h1 : cells ≤ nc) (h2 : slots ≤ ns) : own_Go p.tables e below (own_Fin s below Q nc ns) (T.setTop (mkF m pc Ls [])) :=
  own_end X hlk (fun _ => rfl) (fun fs hr => X.returnOut hx hret hd hr) hQ h1 h2
theorem own_callS (X : Stand p l e R s m args below meth c T locs cells slots) (hx : p.tables.exec = Jvm.exec) (hZ : Z.Warmed39 s.vm) {own : String} {index : Nat} {y : MethodName} {bytes : ByteArray} {mx : Nat} {rt : Option FieldType} {rm : Room} {W pc : Nat} {Ls : Array Slot} {St argsL rest : List Value} {Q : Option Value → Heap → List Loc → Prop} {F : State → Outcome → Prop}
    (hown : s.vm.findClass own = some m.cls) (w1 : (Jvm.Cond.methodLink own index y).before a0 Z = true) (w2 : (Jvm.Cond.static y).before a0 Z = true) (w3 : (Jvm.Cond.initialized y.cls).before a0 Z = true) (w4 : (Jvm.Cond.code y bytes mx rt).before a0 Z = true)
    (hy : y.cls ≠ "java/lang/invoke/MethodHandle" ∧ y.cls ≠ "java/lang/invoke/VarHandle") (M : own_Met l y [Jvm.Cond.code y bytes mx rt] rm Z h argsL.toArray Q) (eT : T.heap = h) (hf : rm.frames + 1 ≤ R.frames) (hl : W + (mx + 11) + rm.locals ≤ R.locals) (hc : cells + rm.cells ≤ R.cells) (hs : slots + rm.slots ≤ R.slots)
    (hsz : Ls.size = c.maxLocals) (hlen : ∀ sig, parseMethodDescriptor y.desc = some sig → argsL.length = sig.parameters.length) (hst : St = argsL.reverse ++ rest) (hW : (rest.map fun v => v.category).sum ≤ W) (hd : decode c.code pc = .ok (.invokestatic index, 3))
    (K : ∀ v T' L, Stand p l e R s m args below meth c T' (locs ++ L) (cells + rm.cells) (slots + rm.slots) → Q v T'.heap L → own_Go p.tables e below F (T'.setTop (mkF m (pc + 3) Ls (v.toList ++ rest)))) :
    own_Go p.tables e below F (T.setTop (mkF m pc Ls St)) := by
  obtain ⟨v, _, ⟨T', L', k', n'⟩, -, X', ⟨L, hQ, l1, l2, l3⟩, st⟩ := Jvm.LawKit.callS X hx (y := y) hown (mvT hZ w1) (mvT hZ w2) (mvT hZ w3) (mvT hZ w4) hy (backOf (W := W) M hZ w4 w3 hf hl) (g := mkF m pc Ls St) rfl hsz (argsL := argsL) (rest := rest) hlen hst (by show 2 * 0 + _ ≤ _; rw [Nat.mul_zero, Nat.zero_add]; exact hW) hd (fun _ _ => ⟨rfl, eT, hc, hs⟩)
  dsimp only [Pt.U, Pt.locs, Pt.cells, Pt.slots] at X' l1 l2 l3 st hQ
  subst l1 l2 l3
  exact own_go st (K v T' L X' hQ)
theorem own_callV (X : Stand p l e R s m args below meth c T locs cells slots) (hx : p.tables.exec = Jvm.exec) (hZ : Z.Warmed39 s.vm) {own C : String} {index : Nat} {z : MethodName} {bytes : ByteArray} {mx : Nat} {rt : Option FieldType} {rm : Room} {W pc : Nat} {Ls : Array Slot} {a : Addr} {St argsL rest : List Value} {Q : Option Value → Heap → List Loc → Prop} {F : State → Outcome → Prop}
    (hown : s.vm.findClass own = some m.cls) (w1 : (Jvm.Cond.methodLink own index z).before a0 Z = true) (w2 : (Jvm.Cond.declares z).before a0 Z = true) (w3 : (Jvm.Cond.selects C z z).before a0 Z = true) (w4 : (Jvm.Cond.instanceMethod z).before a0 Z = true) (w5 : (Jvm.Cond.code z bytes mx rt).before a0 Z = true) (w6 : (Jvm.Cond.initialized z.cls).before a0 Z = true)
    (hy : z.cls ≠ "java/lang/invoke/MethodHandle" ∧ z.cls ≠ "java/lang/invoke/VarHandle") (E : Exa Z h a C) (M : own_Met l z [Jvm.Cond.code z bytes mx rt] rm Z h (.ref a :: argsL).toArray Q) (eT : T.heap = h) (hf : rm.frames + 1 ≤ R.frames) (hl : W + (mx + 11) + rm.locals ≤ R.locals) (hc : cells + rm.cells ≤ R.cells) (hs : slots + rm.slots ≤ R.slots)
    (hsz : Ls.size = c.maxLocals) (hlen : ∀ sig, parseMethodDescriptor z.desc = some sig → argsL.length = sig.parameters.length) (hst : St = argsL.reverse ++ .ref a :: rest) (hW : (rest.map fun v => v.category).sum ≤ W) (hd : decode c.code pc = .ok (.invokevirtual index, 3))
    (K : ∀ v T' L, Stand p l e R s m args below meth c T' (locs ++ L) (cells + rm.cells) (slots + rm.slots) → Q v T'.heap L → own_Go p.tables e below F (T'.setTop (mkF m (pc + 3) Ls (v.toList ++ rest)))) :
    own_Go p.tables e below F (T.setTop (mkF m pc Ls St)) := by
  obtain ⟨cq, kq, q1, q2, q3⟩ := isOf hZ eT E
  obtain ⟨v, _, ⟨T', L', k', n'⟩, -, X', ⟨L, hQ, l1, l2, l3⟩, st⟩ := X.virtualBack hx (y := z) (z := z) hown (mvT hZ w1) (mvT hZ w2) (notFace_of_selects (args := #[]) (mvT hZ w3)) (mvT hZ w3) (mvT hZ w4) hy (backOf (W := W) M hZ w5 w6 hf hl) q1 q3 (g := mkF m pc Ls St) rfl hsz (Steps.refl _) (argsL := argsL) (rest := rest) hlen hst (by show 2 * 0 + _ ≤ _; rw [Nat.mul_zero, Nat.zero_add]; exact hW) hd (fun _ _ => ⟨rfl, eT, hc, hs⟩)
  dsimp only [Pt.U, Pt.locs, Pt.cells, Pt.slots] at X' l1 l2 l3 st hQ
  subst l1 l2 l3
  exact own_gt st (K v T' L X' hQ)
theorem own_callI (X : Stand p l e R s m args below meth c T locs cells slots) (hx : p.tables.exec = Jvm.exec) (hZ : Z.Warmed39 s.vm) {own : String} {index : Nat} {y : MethodName} {bytes : ByteArray} {mx : Nat} {rm : Room} {W pc : Nat} {Ls : Array Slot} {a : Addr} {St argsL rest : List Value} {Q : Option Value → Heap → List Loc → Prop} {F : State → Outcome → Prop}
    (hown : s.vm.findClass own = some m.cls) (w1 : (Jvm.Cond.methodLink own index y).before a0 Z = true) (w2 : (Jvm.Cond.instanceMethod y).before a0 Z = true) (w3 : (Jvm.Cond.code y bytes mx none).before a0 Z = true) (w4 : (Jvm.Cond.initialized y.cls).before a0 Z = true) (hi : y.name = "<init>")
    (hy : y.cls ≠ "java/lang/invoke/MethodHandle" ∧ y.cls ≠ "java/lang/invoke/VarHandle") (M : own_Met l y [Jvm.Cond.code y bytes mx none] rm Z h (.ref a :: argsL).toArray Q) (eT : T.heap = h) (hf : rm.frames + 1 ≤ R.frames) (hl : W + (mx + 11) + rm.locals ≤ R.locals) (hc : cells + rm.cells ≤ R.cells) (hs : slots + rm.slots ≤ R.slots)
    (hsz : Ls.size = c.maxLocals) (hlen : ∀ sig, parseMethodDescriptor y.desc = some sig → argsL.length = sig.parameters.length) (hst : St = argsL.reverse ++ .ref a :: rest) (hW : (rest.map fun v => v.category).sum ≤ W) (hd : decode c.code pc = .ok (.invokespecial index, 3))
    (K : ∀ v T' L, Stand p l e R s m args below meth c T' (locs ++ L) (cells + rm.cells) (slots + rm.slots) → Q v T'.heap L → own_Go p.tables e below F (T'.setTop (mkF m (pc + 3) Ls (v.toList ++ rest)))) :
    own_Go p.tables e below F (T.setTop (mkF m pc Ls St)) := by
  obtain ⟨v, _, ⟨T', L', k', n'⟩, -, X', ⟨L, hQ, l1, l2, l3⟩, st⟩ := X.specialBack hx (y := y) hi hown (mvT hZ w1) (mvT hZ w2) (mvT hZ w3) hy (backOf (W := W) M hZ w3 w4 hf hl) (g := mkF m pc Ls St) rfl hsz (Steps.refl _) (a := a) (argsL := argsL) (rest := rest) hlen hst (by show 2 * 0 + _ ≤ _; rw [Nat.mul_zero, Nat.zero_add]; exact hW) hd (fun _ _ => ⟨rfl, eT, hc, hs⟩)
  dsimp only [Pt.U, Pt.locs, Pt.cells, Pt.slots] at X' l1 l2 l3 st hQ
  subst l1 l2 l3
  exact own_gt st (K v T' L X' hQ)
end OwnKit

/-! own kit 2: arrays by a function of the place -/
section OwnKit2
variable {p : Program} {l : Launch} {e : Env} {R : Room} {s : State} {m : MethodId} {args : Array Value} {below : List Frame} {meth : Method} {c : Code} {T : State} {locs : List Loc} {cells slots : Nat} {Z : State} {a0 : Array Value} {h h' : Heap} {a b : Addr} {k : ClassId} {ty : FieldType} {n i : Nat} {f f' : Nat → Value} {v : Value} {j : Int32} {pc : Nat} {Ls : Array Slot} {rest : List Value} {F : State → Outcome → Prop}
def own_Av (Z : State) (h : Heap) (a : Addr) (k : ClassId) (ty : FieldType) (n : Nat) (f : Nat → Value) : Prop := ∃ cl : Cell, Arr Z h a cl ty ∧ cl.cls = k ∧ cl.slots.size = n ∧ ∀ j, j < n → cl.slots[j]? = some (f j)
theorem own_Av.lt (V : own_Av Z h a k ty n f) : a < h.size := by obtain ⟨cl, A, -⟩ := V; exact A.lt
theorem own_Av.ext (E : Ext h h') (V : own_Av Z h a k ty n f) : own_Av Z h' a k ty n f := by obtain ⟨cl, A, r⟩ := V; exact ⟨cl, A.ext E, r⟩
theorem own_Av.other {sl : Nat} (W : Wr h h' b sl v) (V : own_Av Z h a k ty n f) (q : a ≠ b) : own_Av Z h' a k ty n f := by obtain ⟨cl, A, r⟩ := V; exact ⟨cl, A.other W q, r⟩
theorem own_Av.keep {ws : List Addr} (V : own_Av Z h a k ty n f) (K : Keep h h' ws) (q : a ∉ ws) : own_Av Z h' a k ty n f := by obtain ⟨cl, A, r⟩ := V; exact ⟨cl, ⟨K.2.1 a cl A.1 q, A.2⟩, r⟩
theorem own_Av.congr (V : own_Av Z h a k ty n f) (q : ∀ j, j < n → f j = f' j) : own_Av Z h a k ty n f' := by obtain ⟨cl, A, r1, r2, r3⟩ := V; exact ⟨cl, A, r1, r2, fun j hj => by rw [r3 j hj, q j hj]⟩
theorem own_Av.new {z : Int32} (A : Arr Z h a (newA k ty z) ty) (q : z.toNatClampNeg = n) : own_Av Z h a k ty n (fun _ => defaultValue ty) := ⟨_, A, rfl, (sz_new _ _ _).trans q, fun j hj => by simp [newA, q, hj]⟩
theorem own_Av.set (V : own_Av Z h a k ty n f) (W : Wr h h' a i v) (hi : i < n) : own_Av Z h' a k ty n (fun x => if x = i then v else f x) := by
  obtain ⟨cl, A, r1, r2, r3⟩ := V
  refine ⟨cl.setSlot i v, Arr.same W A, r1, (sz_set _ _ _).trans r2, fun x hx => ?_⟩
  by_cases q : x = i
  · subst q; show (cl.setSlot x v).slots[x]? = some (if x = x then v else f x); rw [if_pos rfl]; simp [Cell.setSlot, r2, hi]
  · show (cl.setSlot i v).slots[x]? = some (if x = i then v else f x); rw [if_neg q, ← r3 x hx]; exact Array.getElem?_setIfInBounds_ne (Ne.symm q)
theorem own_in (r : i < n) (hj : ¬ j < 0) (hi : j.toNatClampNeg = i) {cl : Cell} (S : cl.slots.size = n) : ¬ (j < 0 ∨ cl.slots.size ≤ j.toNatClampNeg) := fun q => q.elim hj fun q => by omega
theorem own_alen (X : Stand p l e R s m args below meth c T locs cells slots) (hx : p.tables.exec = Jvm.exec) (hZ : Z.Warmed39 s.vm) (eT : T.heap = h) (V : own_Av Z h a k ty n f) (z : Int32) (hz : n.toInt32 = z) (hd : decode c.code pc = .ok (.arraylength, 1))
    (q : own_Go p.tables e below F (T.setTop (mkF m (pc + 1) Ls (.int z :: rest)))) : own_Go p.tables e below F (T.setTop (mkF m pc Ls (.ref a :: rest))) := by
  obtain ⟨cl, A, r1, r2, r3⟩ := V
  subst hz r2
  exact own_go (fun t k => X.arraylength hx (by rw [eT]; exact A.1) (State.isArrayOf_alike hZ.alike A.2.1) (g := mkF m pc Ls (.ref a :: rest)) rfl rfl hd t k) q
theorem own_bald (X : Stand p l e R s m args below meth c T locs cells slots) (hx : p.tables.exec = Jvm.exec) (hZ : Z.Warmed39 s.vm) (eT : T.heap = h) (V : own_Av Z h a k .byte n f) (i : Nat) (hj : ¬ j < 0) (hi : j.toNatClampNeg = i) (r : i < n) {w : Value} (hw : f i = w) (hd : decode c.code pc = .ok (.baload, 1))
    (q : own_Go p.tables e below F (T.setTop (mkF m (pc + 1) Ls (w :: rest)))) : own_Go p.tables e below F (T.setTop (mkF m pc Ls (.int j :: .ref a :: rest))) := by
  obtain ⟨cl, A, r1, r2, r3⟩ := V
  subst hw
  exact own_go (fun t k => X.baloadBytes hx (by rw [eT]; exact A.1) (State.isArrayOf_alike hZ.alike A.2.1) A.2.2 (own_in r hj hi r2) (by rw [hi]; exact r3 i r) (g := mkF m pc Ls (.int j :: .ref a :: rest)) rfl rfl hd t k) q
theorem own_iald (X : Stand p l e R s m args below meth c T locs cells slots) (hx : p.tables.exec = Jvm.exec) (hZ : Z.Warmed39 s.vm) (eT : T.heap = h) (V : own_Av Z h a k .int n f) (i : Nat) (hj : ¬ j < 0) (hi : j.toNatClampNeg = i) (r : i < n) {w : Value} (hw : f i = w) (hd : decode c.code pc = .ok (.iaload, 1))
    (q : own_Go p.tables e below F (T.setTop (mkF m (pc + 1) Ls (w :: rest)))) : own_Go p.tables e below F (T.setTop (mkF m pc Ls (.int j :: .ref a :: rest))) := by
  obtain ⟨cl, A, r1, r2, r3⟩ := V
  subst hw
  exact own_go (fun t k => X.iaload hx (by rw [eT]; exact A.1) (State.isArrayOf_alike hZ.alike A.2.1) A.2.2 (own_in r hj hi r2) (by rw [hi]; exact r3 i r) (g := mkF m pc Ls (.int j :: .ref a :: rest)) rfl rfl hd t k) q
theorem own_lald (X : Stand p l e R s m args below meth c T locs cells slots) (hx : p.tables.exec = Jvm.exec) (hZ : Z.Warmed39 s.vm) (eT : T.heap = h) (V : own_Av Z h a k .long n f) (i : Nat) (hj : ¬ j < 0) (hi : j.toNatClampNeg = i) (r : i < n) {w : Value} (hw : f i = w) (hd : decode c.code pc = .ok (.laload, 1))
    (q : own_Go p.tables e below F (T.setTop (mkF m (pc + 1) Ls (w :: rest)))) : own_Go p.tables e below F (T.setTop (mkF m pc Ls (.int j :: .ref a :: rest))) := by
  obtain ⟨cl, A, r1, r2, r3⟩ := V
  subst hw
  exact own_go (fun t k => X.laload hx (by rw [eT]; exact A.1) (State.isArrayOf_alike hZ.alike A.2.1) A.2.2 (own_in r hj hi r2) (by rw [hi]; exact r3 i r) (g := mkF m pc Ls (.int j :: .ref a :: rest)) rfl rfl hd t k) q
theorem own_aald (X : Stand p l e R s m args below meth c T locs cells slots) (hx : p.tables.exec = Jvm.exec) (hZ : Z.Warmed39 s.vm) (eT : T.heap = h) (V : own_Av Z h a k ty n f) (hty : ty.isReference = true) (i : Nat) (hj : ¬ j < 0) (hi : j.toNatClampNeg = i) (r : i < n) {w : Value} (hw : f i = w) (hd : decode c.code pc = .ok (.aaload, 1))
    (q : own_Go p.tables e below F (T.setTop (mkF m (pc + 1) Ls (w :: rest)))) : own_Go p.tables e below F (T.setTop (mkF m pc Ls (.int j :: .ref a :: rest))) := by
  obtain ⟨cl, A, r1, r2, r3⟩ := V
  subst hw
  exact own_go (fun t k => X.aaload hx (by rw [eT]; exact A.1) (State.isArrayOf_alike hZ.alike A.2.1) hty A.2.2 (own_in r hj hi r2) (by rw [hi]; exact r3 i r) (g := mkF m pc Ls (.int j :: .ref a :: rest)) rfl rfl hd t k) q
theorem own_bast (X : Stand p l e R s m args below meth c T locs cells slots) (hx : p.tables.exec = Jvm.exec) (hZ : Z.Warmed39 s.vm) (eT : T.heap = h) (V : own_Av Z h a k .byte n f) (i : Nat) {x : Int32} (hj : ¬ j < 0) (hi : j.toNatClampNeg = i) (r : i < n) (hd : decode c.code pc = .ok (.bastore, 1))
    (q : ∀ T' h', Stand p l e R s m args below meth c T' (locs ++ [⟨a, i⟩]) cells slots → T'.heap = h' → Wr h h' a i (.int x.toInt8.toInt32) → own_Go p.tables e below F (T'.setTop (mkF m (pc + 1) Ls rest))) : own_Go p.tables e below F (T.setTop (mkF m pc Ls (.int x :: .int j :: .ref a :: rest))) := by
  obtain ⟨cl, A, r1, r2, r3⟩ := V
  obtain ⟨T', h', X', e', W, st⟩ := stB X hx hZ eT A (own_in r hj hi r2) (g := mkF m pc Ls (.int x :: .int j :: .ref a :: rest)) rfl rfl hd
  rw [hi] at X' W
  exact own_go st (q T' h' X' e' W)
theorem own_iast (X : Stand p l e R s m args below meth c T locs cells slots) (hx : p.tables.exec = Jvm.exec) (hZ : Z.Warmed39 s.vm) (eT : T.heap = h) (V : own_Av Z h a k .int n f) (i : Nat) {x : Int32} (hj : ¬ j < 0) (hi : j.toNatClampNeg = i) (r : i < n) (hd : decode c.code pc = .ok (.iastore, 1))
    (q : ∀ T' h', Stand p l e R s m args below meth c T' (locs ++ [⟨a, i⟩]) cells slots → T'.heap = h' → Wr h h' a i (.int x) → own_Go p.tables e below F (T'.setTop (mkF m (pc + 1) Ls rest))) : own_Go p.tables e below F (T.setTop (mkF m pc Ls (.int x :: .int j :: .ref a :: rest))) := by
  obtain ⟨cl, A, r1, r2, r3⟩ := V
  obtain ⟨T', h', X', e', W, st⟩ := stI X hx hZ eT A (own_in r hj hi r2) (g := mkF m pc Ls (.int x :: .int j :: .ref a :: rest)) rfl rfl hd
  rw [hi] at X' W
  exact own_go st (q T' h' X' e' W)
theorem own_last (X : Stand p l e R s m args below meth c T locs cells slots) (hx : p.tables.exec = Jvm.exec) (hZ : Z.Warmed39 s.vm) (eT : T.heap = h) (V : own_Av Z h a k .long n f) (i : Nat) {x : Int64} (hj : ¬ j < 0) (hi : j.toNatClampNeg = i) (r : i < n) (hd : decode c.code pc = .ok (.lastore, 1))
    (q : ∀ T' h', Stand p l e R s m args below meth c T' (locs ++ [⟨a, i⟩]) cells slots → T'.heap = h' → Wr h h' a i (.long x) → own_Go p.tables e below F (T'.setTop (mkF m (pc + 1) Ls rest))) : own_Go p.tables e below F (T.setTop (mkF m pc Ls (.long x :: .int j :: .ref a :: rest))) := by
  obtain ⟨cl, A, r1, r2, r3⟩ := V
  obtain ⟨T', h', X', e', W, st⟩ := stJ X hx hZ eT A (own_in r hj hi r2) (g := mkF m pc Ls (.long x :: .int j :: .ref a :: rest)) rfl rfl hd
  rw [hi] at X' W
  exact own_go st (q T' h' X' e' W)
theorem own_aast (X : Stand p l e R s m args below meth c T locs cells slots) (hx : p.tables.exec = Jvm.exec) (hZ : Z.Warmed39 s.vm) (eT : T.heap = h) (V : own_Av Z h a k ty n f) (hty : ty.isReference = true) (S : Sto Z h a v) (i : Nat) (hj : ¬ j < 0) (hi : j.toNatClampNeg = i) (r : i < n) (hd : decode c.code pc = .ok (.aastore, 1))
    (q : ∀ T' h', Stand p l e R s m args below meth c T' (locs ++ [⟨a, i⟩]) cells slots → T'.heap = h' → Wr h h' a i v → own_Go p.tables e below F (T'.setTop (mkF m (pc + 1) Ls rest))) : own_Go p.tables e below F (T.setTop (mkF m pc Ls (v :: .int j :: .ref a :: rest))) := by
  obtain ⟨cl, A, r1, r2, r3⟩ := V
  obtain ⟨T', h', X', e', W, st⟩ := stR X hx hZ eT A (own_in r hj hi r2) hty S (g := mkF m pc Ls (v :: .int j :: .ref a :: rest)) rfl rfl hd
  rw [hi] at X' W
  exact own_go st (q T' h' X' e' W)
end OwnKit2

def own_by (z : Int32) : Int32 := z.toInt8.toInt32.toInt8.toInt32
def own_us (z q : Int32) : Int32 := (z.toUInt32 >>> (q &&& 31).toUInt32).toInt32
def own_bs (z : Int32) : Nat → Value := fun x => if x = 0 then .int (own_by (own_us z 24)) else if x = 1 then .int (own_by (own_us z 16)) else if x = 2 then .int (own_by (own_us z 8)) else .int (own_by z)
theorem own_by1 (z : Int32) : own_by z = z.toInt8.toInt32 := by
  apply Int32.toInt_inj.mp
  have a := c_i2b z
  have b := c_i2b z.toInt8.toInt32
  unfold own_by
  omega
theorem own_usv (z q : Int32) (k : Nat) (hk : q.toBitVec.toNat % 32 = k) (h0 : 0 < k) : (own_us z q).toInt = (z.toInt % 4294967296) / (2 ^ k : Nat) := c_iushr z q k hk h0
theorem own_m (z : Int32) : (own_by z &&& (255 : Int32)).toInt = z.toInt % 256 := by
  have a := c_mask (own_by z) 255 8 (by decide) (by decide)
  have l : (((2 ^ 8 : Nat) : Nat) : Int) = 256 := by decide
  rw [l] at a
  have b := c_i2b z
  have e := own_by1 z
  rw [e] at a ⊢
  omega
theorem own_back (z : Int32) : ((((own_by (own_us z 24)) &&& (255 : Int32)) <<< ((24 : Int32) &&& 31)) ||| (((own_by (own_us z 16)) &&& (255 : Int32)) <<< ((16 : Int32) &&& 31)) ||| (((own_by (own_us z 8)) &&& (255 : Int32)) <<< ((8 : Int32) &&& 31)) ||| ((own_by z) &&& (255 : Int32))) = z := by
  have l24 : (((2 ^ 24 : Nat) : Nat) : Int) = 16777216 := by decide
  have l16 : (((2 ^ 16 : Nat) : Nat) : Int) = 65536 := by decide
  have l8 : (((2 ^ 8 : Nat) : Nat) : Int) = 256 := by decide
  have u1 := own_usv z 24 24 (by decide) (by decide)
  have u2 := own_usv z 16 16 (by decide) (by decide)
  have u3 := own_usv z 8 8 (by decide) (by decide)
  have m1 := own_m (own_us z 24)
  have m2 := own_m (own_us z 16)
  have m3 := own_m (own_us z 8)
  have m4 := own_m z
  rw [u1, l24] at m1
  rw [u2, l16] at m2
  rw [u3, l8] at m3
  generalize (own_by (own_us z 24)) &&& (255 : Int32) = A at *
  generalize (own_by (own_us z 16)) &&& (255 : Int32) = B at *
  generalize (own_by (own_us z 8)) &&& (255 : Int32) = C at *
  generalize (own_by z) &&& (255 : Int32) = D at *
  have s1 := c_ishl A 24 24 (by decide)
  have s2 := c_ishl B 16 16 (by decide)
  have s3 := c_ishl C 8 8 (by decide)
  rw [l24] at s1
  rw [l16] at s2
  rw [l8] at s3
  generalize A <<< ((24 : Int32) &&& 31) = SA at *
  generalize B <<< ((16 : Int32) &&& 31) = SB at *
  generalize C <<< ((8 : Int32) &&& 31) = SC at *
  have rz := rng32 z
  have rA := rng32 SA
  have rB := rng32 SB
  have rC := rng32 SC
  have o1 := c_or SA SB 24 (by decide) 16777216 (by decide) (by omega) (by omega) (by omega)
  generalize SA ||| SB = O1 at *
  have r1 := rng32 O1
  have o2 := c_or O1 SC 16 (by decide) 65536 (by decide) (by omega) (by omega) (by omega)
  generalize O1 ||| SC = O2 at *
  have r2 := rng32 O2
  have o3 := c_or O2 D 8 (by decide) 256 (by decide) (by omega) (by omega) (by omega)
  have r3 := rng32 (O2 ||| D)
  apply Int32.toInt_inj.mp
  omega
theorem own_d1_0 : decode prog_37_method_1_code 0 = .ok (.aload_n 0, 1) := by decide +kernel
theorem own_d1_1 : decode prog_37_method_1_code 1 = .ok (.invokespecial 1, 3) := by decide +kernel
theorem own_d1_4 : decode prog_37_method_1_code 4 = .ok (.aload_n 0, 1) := by decide +kernel
theorem own_d1_5 : decode prog_37_method_1_code 5 = .ok (.iload_n 1, 1) := by decide +kernel
theorem own_d1_6 : decode prog_37_method_1_code 6 = .ok (.putfield 7, 3) := by decide +kernel
theorem own_d1_9 : decode prog_37_method_1_code 9 = .ok (.return_, 1) := by decide +kernel
theorem own_pn_1 : plainName "com/example/handover/handover/model/Ipv4Address" = true := by first | (simp [plainName, overriddenIn]; done) | decide +kernel
theorem own_d2_0 : decode jdk_30_method_1_code 0 = .ok (.aload_n 0, 1) := by decide +kernel
theorem own_d2_1 : decode jdk_30_method_1_code 1 = .ok (.invokespecial 1, 3) := by decide +kernel
theorem own_d2_4 : decode jdk_30_method_1_code 4 = .ok (.return_, 1) := by decide +kernel
theorem own_pn_2 : plainName "java/lang/Record" = true := by first | (simp [plainName, overriddenIn]; done) | decide +kernel
theorem own_d4_0 : decode prog_37_method_5_code 0 = .ok (.iconst 4, 1) := by decide +kernel
theorem own_d4_1 : decode prog_37_method_5_code 1 = .ok (.newarray .byte, 2) := by decide +kernel
theorem own_d4_3 : decode prog_37_method_5_code 3 = .ok (.dup, 1) := by decide +kernel
theorem own_d4_4 : decode prog_37_method_5_code 4 = .ok (.iconst 0, 1) := by decide +kernel
theorem own_d4_5 : decode prog_37_method_5_code 5 = .ok (.aload_n 0, 1) := by decide +kernel
theorem own_d4_6 : decode prog_37_method_5_code 6 = .ok (.getfield 7, 3) := by decide +kernel
theorem own_d4_9 : decode prog_37_method_5_code 9 = .ok (.bipush 24, 2) := by decide +kernel
theorem own_d4_11 : decode prog_37_method_5_code 11 = .ok (.iushr, 1) := by decide +kernel
theorem own_d4_12 : decode prog_37_method_5_code 12 = .ok (.i2b, 1) := by decide +kernel
theorem own_d4_13 : decode prog_37_method_5_code 13 = .ok (.bastore, 1) := by decide +kernel
theorem own_d4_14 : decode prog_37_method_5_code 14 = .ok (.dup, 1) := by decide +kernel
theorem own_d4_15 : decode prog_37_method_5_code 15 = .ok (.iconst 1, 1) := by decide +kernel
theorem own_d4_16 : decode prog_37_method_5_code 16 = .ok (.aload_n 0, 1) := by decide +kernel
theorem own_d4_17 : decode prog_37_method_5_code 17 = .ok (.getfield 7, 3) := by decide +kernel
theorem own_d4_20 : decode prog_37_method_5_code 20 = .ok (.bipush 16, 2) := by decide +kernel
theorem own_d4_22 : decode prog_37_method_5_code 22 = .ok (.iushr, 1) := by decide +kernel
theorem own_d4_23 : decode prog_37_method_5_code 23 = .ok (.i2b, 1) := by decide +kernel
theorem own_d4_24 : decode prog_37_method_5_code 24 = .ok (.bastore, 1) := by decide +kernel
theorem own_d4_25 : decode prog_37_method_5_code 25 = .ok (.dup, 1) := by decide +kernel
theorem own_d4_26 : decode prog_37_method_5_code 26 = .ok (.iconst 2, 1) := by decide +kernel
theorem own_d4_27 : decode prog_37_method_5_code 27 = .ok (.aload_n 0, 1) := by decide +kernel
theorem own_d4_28 : decode prog_37_method_5_code 28 = .ok (.getfield 7, 3) := by decide +kernel
theorem own_d4_31 : decode prog_37_method_5_code 31 = .ok (.bipush 8, 2) := by decide +kernel
theorem own_d4_33 : decode prog_37_method_5_code 33 = .ok (.iushr, 1) := by decide +kernel
theorem own_d4_34 : decode prog_37_method_5_code 34 = .ok (.i2b, 1) := by decide +kernel
theorem own_d4_35 : decode prog_37_method_5_code 35 = .ok (.bastore, 1) := by decide +kernel
theorem own_d4_36 : decode prog_37_method_5_code 36 = .ok (.dup, 1) := by decide +kernel
theorem own_d4_37 : decode prog_37_method_5_code 37 = .ok (.iconst 3, 1) := by decide +kernel
theorem own_d4_38 : decode prog_37_method_5_code 38 = .ok (.aload_n 0, 1) := by decide +kernel
theorem own_d4_39 : decode prog_37_method_5_code 39 = .ok (.getfield 7, 3) := by decide +kernel
theorem own_d4_42 : decode prog_37_method_5_code 42 = .ok (.i2b, 1) := by decide +kernel
theorem own_d4_43 : decode prog_37_method_5_code 43 = .ok (.bastore, 1) := by decide +kernel
theorem own_d4_44 : decode prog_37_method_5_code 44 = .ok (.areturn, 1) := by decide +kernel
theorem own_pn_4 : plainName "com/example/handover/handover/model/Ipv4Address" = true := by first | (simp [plainName, overriddenIn]; done) | decide +kernel
theorem own_pn_0 : plainName "com/example/handover/handover/model/Ipv4AddressToBytesPinLaw" = true := by first | (simp [plainName, overriddenIn]; done) | decide +kernel
theorem own_pd___V : parseMethodDescriptor "()V" = some ⟨[], none⟩ := by decide +kernel
theorem own_pd__I_V : parseMethodDescriptor "(I)V" = some ⟨[.int], none⟩ := by decide +kernel
theorem own_pd____B : parseMethodDescriptor "()[B" = some ⟨[], (some (.array .byte))⟩ := by decide +kernel
theorem own_rm2_ef (m : MethodId) (a5 : Addr)  : entryFrame m #[(.ref a5)] 1 = mkF m 0 #[.val (.ref a5)] [] := by first | (simp [entryFrame, mkF, argsToLocals, Value.category, maxLocals]; done) | rfl
set_option maxRecDepth 65536 in
set_option maxHeartbeats 40000000 in
theorem own_rm2 (l : Launch) (Z : State) (a0 : Array Value) (hw : ∀ d ∈ tables_1, d.before a0 Z = true) (a5 : Addr) (h0 : Heap) (n0 : Nat) (Z0 : n0 ≤ h0.size)  :
    own_Met l (⟨"java/lang/Record", "<init>", "()V"⟩ : MethodName) (Jvm.Cond.code (⟨"java/lang/Record", "<init>", "()V"⟩ : MethodName) jdk_30_method_1_code 1 none :: []) ({ frames := 1, cells := 0, slots := 0, locals := 12 } : Room) Z h0 #[(.ref a5)] (fun v h L => v = none ∧ Fr n0 L ∧ h = h0) := by
  refine own_body (pn := own_pn_2) ?_
  intro p e s m below meth c s₁ hx hby hml hown hnm hret hlk hZ X0 e0
  have N0 := Fr.nil n0
  refine own_go (fun _ k => castTop (own_rm2_ef m a5 ) k) ?_
  show own_Go p.tables e below _ (s₁.setTop (mkF m 0 #[.val (.ref a5)] []))
  refine own_go (fun _ k => XS.aloadN X0.here hx rfl (hb hby own_d2_0) rfl rfl k) ?_
  show own_Go p.tables e below _ (s₁.setTop (mkF m 1 #[.val (.ref a5)] [(.ref a5)]))
  obtain ⟨T101, X101, e101, st101⟩ := initO X0 hx hZ hown (hw _ (List.mem_of_getElem? (i := 11) rfl)) (hw _ (List.mem_of_getElem? (i := 12) rfl)) (hw _ (List.mem_of_getElem? (i := 13) rfl)) e0 (g := (mkF m 1 #[.val (.ref a5)] [(.ref a5)])) rfl (by rw [hml]; rfl) rfl (hb hby own_d2_1) (by decide) (W := 0) (by show 2 * 0 + _ ≤ _; exact Nat.le_of_eq rfl) (by decide)
  refine own_go st101 ?_
  show own_Go p.tables e below _ (T101.setTop (mkF m 4 #[.val (.ref a5)] []))
  exact own_retV X101 hx hlk hret (hb hby own_d2_4) (⟨rfl, N0, e101⟩) (by decide) (by decide)
theorem own_rm1_ef (m : MethodId) (a5 : Addr) (p6 : Int32)  : entryFrame m #[(.ref a5), (.int p6)] 2 = mkF m 0 #[.val (.ref a5), .val (.int p6)] [] := by first | (simp [entryFrame, mkF, argsToLocals, Value.category, maxLocals]; done) | rfl
set_option maxRecDepth 65536 in
set_option maxHeartbeats 40000000 in
theorem own_rm1 (l : Launch) (Z : State) (a0 : Array Value) (hw : ∀ d ∈ tables_1, d.before a0 Z = true) (a5 : Addr) (p6 : Int32) (h0 : Heap) (n0 : Nat) (Z0 : n0 ≤ h0.size) (F8 : Fld Z h0 a5 "com/example/handover/handover/model/Ipv4Address" "bits" "I" (.int (0 : Int32))) (E7 : Exa Z h0 a5 "com/example/handover/handover/model/Ipv4Address") (g9 : n0 ≤ a5) :
    own_Met l (⟨"com/example/handover/handover/model/Ipv4Address", "<init>", "(I)V"⟩ : MethodName) (Jvm.Cond.code (⟨"com/example/handover/handover/model/Ipv4Address", "<init>", "(I)V"⟩ : MethodName) prog_37_method_1_code 2 none :: []) ({ frames := 2, cells := 0, slots := 0, locals := 24 } : Room) Z h0 #[(.ref a5), (.int p6)] (fun v h L => v = none ∧ Fr n0 L ∧ Keep h0 h [a5] ∧ Fld Z h a5 "com/example/handover/handover/model/Ipv4Address" "bits" "I" (.int p6)) := by
  refine own_body (pn := own_pn_1) ?_
  intro p e s m below meth c s₁ hx hby hml hown hnm hret hlk hZ X0 e0
  have N0 := Fr.nil n0
  refine own_go (fun _ k => castTop (own_rm1_ef m a5 p6 ) k) ?_
  show own_Go p.tables e below _ (s₁.setTop (mkF m 0 #[.val (.ref a5), .val (.int p6)] []))
  have K0 : Keep h0 h0 [a5] := Keep.refl _ _
  refine own_go (fun _ k => XS.aloadN X0.here hx rfl (hb hby own_d1_0) rfl rfl k) ?_
  show own_Go p.tables e below _ (s₁.setTop (mkF m 1 #[.val (.ref a5), .val (.int p6)] [(.ref a5)]))
  refine own_callI X0 hx hZ (y := (⟨"java/lang/Record", "<init>", "()V"⟩ : MethodName)) (argsL := []) (rest := []) (W := 0) hown (hw _ (List.mem_of_getElem? (i := 6) rfl)) (hw _ (List.mem_of_getElem? (i := 7) rfl)) (hw _ (List.mem_of_getElem? (i := 10) rfl)) (hw _ (List.mem_of_getElem? (i := 9) rfl)) rfl (by decide) (own_rm2 l Z a0 hw a5 h0 n0 Z0) e0 (by decide) (by decide) (by decide) (by decide) (by rw [hml]; rfl) (lenOf own_pd___V rfl) rfl (Nat.le_of_eq rfl) (hb hby own_d1_1) ?_
  rintro _ T102 L102 X102 ⟨rfl, N102, e102⟩
  have NA102 := Fr.app N0 N102
  show own_Go p.tables e below _ (T102.setTop (mkF m 4 #[.val (.ref a5), .val (.int p6)] []))
  refine own_go (fun _ k => XS.aloadN X102.here hx rfl (hb hby own_d1_4) rfl rfl k) ?_
  show own_Go p.tables e below _ (T102.setTop (mkF m 5 #[.val (.ref a5), .val (.int p6)] [(.ref a5)]))
  refine own_go (fun _ k => XS.iloadN X102.here hx rfl (hb hby own_d1_5) rfl k) ?_
  show own_Go p.tables e below _ (T102.setTop (mkF m 6 #[.val (.ref a5), .val (.int p6)] [(.int p6), (.ref a5)]))
  obtain ⟨T103, h103, X103, e103, W103, st103⟩ := putF X102 hx hZ hown (host := "") (Or.inl (hw _ (List.mem_of_getElem? (i := 14) rfl))) Via.refl e102 F8 E7 (Or.inr ⟨(hw _ (List.mem_of_getElem? (i := 15) rfl)), rfl, hnm⟩) (hw _ (List.mem_of_getElem? (i := 1) rfl)) (ty := .int) (by decide) rfl rfl (g := (mkF m 6 #[.val (.ref a5), .val (.int p6)] [(.int p6), (.ref a5)])) rfl rfl (hb hby own_d1_6)
  have F_bits_104 : Fld Z h103 a5 "com/example/handover/handover/model/Ipv4Address" "bits" "I" (.int p6) := Fld.same W103 F8
  have E_a5_105 : Exa Z h103 a5 "com/example/handover/handover/model/Ipv4Address" := Exa.wr W103 E7
  have N106 := Fr.snoc X103 NA102 g9
  have Z106 : n0 ≤ h103.size := by rw [W103.size]; exact Z0
  have K106 : Keep h0 h103 [a5] := Keep.wr K0 W103 (Or.inl (by simp))
  refine own_go st103 ?_
  show own_Go p.tables e below _ (T103.setTop (mkF m 9 #[.val (.ref a5), .val (.int p6)] []))
  exact own_retV X103 hx hlk hret (hb hby own_d1_9) (⟨rfl, N106, by rw [e103]; exact K106, by rw [e103]; exact F_bits_104⟩) (by decide) (by decide)
theorem own_rm4_ef (m : MethodId) (a5 : Addr) (p6 : Int32)  : entryFrame m #[(.ref a5)] 1 = mkF m 0 #[.val (.ref a5)] [] := by first | (simp [entryFrame, mkF, argsToLocals, Value.category, maxLocals]; done) | rfl
set_option maxRecDepth 65536 in
set_option maxHeartbeats 40000000 in
theorem own_rm4 (l : Launch) (Z : State) (a0 : Array Value) (hw : ∀ d ∈ tables_1, d.before a0 Z = true) (a5 : Addr) (p6 : Int32) (h0 : Heap) (n0 : Nat) (Z0 : n0 ≤ h0.size) (F8 : Fld Z h0 a5 "com/example/handover/handover/model/Ipv4Address" "bits" "I" (.int p6)) :
    own_Met l (⟨"com/example/handover/handover/model/Ipv4Address", "toBytes", "()[B"⟩ : MethodName) (Jvm.Cond.code (⟨"com/example/handover/handover/model/Ipv4Address", "toBytes", "()[B"⟩ : MethodName) prog_37_method_5_code 1 (some (.array .byte)) :: []) ({ frames := 0, cells := 1, slots := 4, locals := 0 } : Room) Z h0 #[(.ref a5)] (fun v h L => ∃ b, v = some (.ref b) ∧ h0.size ≤ b ∧ Fr n0 L ∧ Keep h0 h [] ∧ ∃ k, own_Av Z h b k .byte 4 (own_bs p6)) := by
  refine own_body (pn := own_pn_4) ?_
  intro p e s m below meth c s₁ hx hby hml hown hnm hret hlk hZ X0 e0
  have N0 := Fr.nil n0
  refine own_go (fun _ k => castTop (own_rm4_ef m a5 p6 ) k) ?_
  show own_Go p.tables e below _ (s₁.setTop (mkF m 0 #[.val (.ref a5)] []))
  have K0 : Keep h0 h0 [] := Keep.refl _ _
  refine own_go (fun _ k => XS.iconst X0.here hx rfl (hb hby own_d4_0) k) ?_
  show own_Go p.tables e below _ (s₁.setTop (mkF m 1 #[.val (.ref a5)] [(.int (4 : Int32))]))
  obtain ⟨T107, h107, cA107, X107, e107, E107, A107, B107, st107⟩ := newPE X0 hx hZ (hw _ (List.mem_of_getElem? (i := 21) rfl)) e0 (g := (mkF m 1 #[.val (.ref a5)] [(.int (4 : Int32))])) rfl (hb hby own_d4_1) rfl (by decide) (cap := 4) (by decide) (by decide) (by decide) (by decide) rfl
  obtain ⟨b1, g107⟩ : ∃ z, z = h0.size := ⟨_, rfl⟩
  rw [← g107] at A107 B107 st107
  have ne108 : a5 ≠ b1 := by rw [g107]; exact Nat.ne_of_lt F8.lt
  have ge_b1 : n0 ≤ b1 := by rw [g107]; exact Z0
  have kb_b1 : h0.size ≤ b1 := by rw [g107]; exact K0.1
  have F_bits_109 : Fld Z h107 a5 "com/example/handover/handover/model/Ipv4Address" "bits" "I" (.int p6) := Fld.ext E107 F8
  have Z110 : n0 ≤ h107.size := Nat.le_trans Z0 E107.1
  have K110 : Keep h0 h107 [] := Keep.ext K0 E107
  have E_b1_111 : Exa Z h107 b1 "[B" := B107
  have V_b1_112 : own_Av Z h107 b1 cA107 .byte 4 (fun _ => defaultValue .byte) := own_Av.new (ty := .byte) A107 (by decide)
  refine own_go st107 ?_
  show own_Go p.tables e below _ (T107.setTop (mkF m 3 #[.val (.ref a5)] [(.ref b1)]))
  refine own_go (fun _ k => XS.dup X107.here hx rfl (hb hby own_d4_3) rfl rfl k) ?_
  show own_Go p.tables e below _ (T107.setTop (mkF m 4 #[.val (.ref a5)] [(.ref b1), (.ref b1)]))
  refine own_go (fun _ k => XS.iconst X107.here hx rfl (hb hby own_d4_4) k) ?_
  show own_Go p.tables e below _ (T107.setTop (mkF m 5 #[.val (.ref a5)] [(.int (0 : Int32)), (.ref b1), (.ref b1)]))
  refine own_go (fun _ k => XS.aloadN X107.here hx rfl (hb hby own_d4_5) rfl rfl k) ?_
  show own_Go p.tables e below _ (T107.setTop (mkF m 6 #[.val (.ref a5)] [(.ref a5), (.int (0 : Int32)), (.ref b1), (.ref b1)]))
  obtain ⟨T113, X113, e113, st113⟩ := getF X107 hx hZ hown (host := "") (Or.inl (hw _ (List.mem_of_getElem? (i := 14) rfl))) Via.refl e107 F_bits_109 (g := (mkF m 6 #[.val (.ref a5)] [(.ref a5), (.int (0 : Int32)), (.ref b1), (.ref b1)])) rfl rfl (hb hby own_d4_6)
  refine own_go st113 ?_
  show own_Go p.tables e below _ (T113.setTop (mkF m 9 #[.val (.ref a5)] [(.int p6), (.int (0 : Int32)), (.ref b1), (.ref b1)]))
  refine own_go (fun _ k => XS.bipush X113.here hx rfl (hb hby own_d4_9) k) ?_
  show own_Go p.tables e below _ (T113.setTop (mkF m 11 #[.val (.ref a5)] [(.int (24 : Int32)), (.int p6), (.int (0 : Int32)), (.ref b1), (.ref b1)]))
  refine own_go (fun _ k => XS.iushr X113.here hx rfl (hb hby own_d4_11) rfl k) ?_
  show own_Go p.tables e below _ (T113.setTop (mkF m 12 #[.val (.ref a5)] [(.int ((p6.toUInt32 >>> ((24 : Int32) &&& 31).toUInt32).toInt32)), (.int (0 : Int32)), (.ref b1), (.ref b1)]))
  refine own_go (fun _ k => XS.i2b X113.here hx rfl (hb hby own_d4_12) rfl k) ?_
  show own_Go p.tables e below _ (T113.setTop (mkF m 13 #[.val (.ref a5)] [(.int (((p6.toUInt32 >>> ((24 : Int32) &&& 31).toUInt32).toInt32).toInt8.toInt32)), (.int (0 : Int32)), (.ref b1), (.ref b1)]))
  refine own_bast X113 hx hZ e113 V_b1_112 0 (by decide) (by decide) (by decide) (hb hby own_d4_13) ?_
  intro T114 h114 X114 e114 W114
  have F_bits_115 : Fld Z h114 a5 "com/example/handover/handover/model/Ipv4Address" "bits" "I" (.int p6) := Fld.other W114 F_bits_109 (Or.inl ne108)
  have E_b1_116 : Exa Z h114 b1 "[B" := Exa.wr W114 E_b1_111
  have V_b1_117 : own_Av Z h114 b1 cA107 .byte 4 (fun x => if x = 0 then .int ((((p6.toUInt32 >>> ((24 : Int32) &&& 31).toUInt32).toInt32).toInt8.toInt32).toInt8.toInt32) else (fun _ => defaultValue .byte) x) := own_Av.set V_b1_112 W114 (by decide)
  have N118 := Fr.snoc X114 N0 ge_b1
  have Z118 : n0 ≤ h114.size := by rw [W114.size]; exact Z110
  have K118 : Keep h0 h114 [] := Keep.wr K110 W114 (Or.inr kb_b1)
  show own_Go p.tables e below _ (T114.setTop (mkF m 14 #[.val (.ref a5)] [(.ref b1)]))
  refine own_go (fun _ k => XS.dup X114.here hx rfl (hb hby own_d4_14) rfl rfl k) ?_
  show own_Go p.tables e below _ (T114.setTop (mkF m 15 #[.val (.ref a5)] [(.ref b1), (.ref b1)]))
  refine own_go (fun _ k => XS.iconst X114.here hx rfl (hb hby own_d4_15) k) ?_
  show own_Go p.tables e below _ (T114.setTop (mkF m 16 #[.val (.ref a5)] [(.int (1 : Int32)), (.ref b1), (.ref b1)]))
  refine own_go (fun _ k => XS.aloadN X114.here hx rfl (hb hby own_d4_16) rfl rfl k) ?_
  show own_Go p.tables e below _ (T114.setTop (mkF m 17 #[.val (.ref a5)] [(.ref a5), (.int (1 : Int32)), (.ref b1), (.ref b1)]))
  obtain ⟨T119, X119, e119, st119⟩ := getF X114 hx hZ hown (host := "") (Or.inl (hw _ (List.mem_of_getElem? (i := 14) rfl))) Via.refl e114 F_bits_115 (g := (mkF m 17 #[.val (.ref a5)] [(.ref a5), (.int (1 : Int32)), (.ref b1), (.ref b1)])) rfl rfl (hb hby own_d4_17)
  refine own_go st119 ?_
  show own_Go p.tables e below _ (T119.setTop (mkF m 20 #[.val (.ref a5)] [(.int p6), (.int (1 : Int32)), (.ref b1), (.ref b1)]))
  refine own_go (fun _ k => XS.bipush X119.here hx rfl (hb hby own_d4_20) k) ?_
  show own_Go p.tables e below _ (T119.setTop (mkF m 22 #[.val (.ref a5)] [(.int (16 : Int32)), (.int p6), (.int (1 : Int32)), (.ref b1), (.ref b1)]))
  refine own_go (fun _ k => XS.iushr X119.here hx rfl (hb hby own_d4_22) rfl k) ?_
  show own_Go p.tables e below _ (T119.setTop (mkF m 23 #[.val (.ref a5)] [(.int ((p6.toUInt32 >>> ((16 : Int32) &&& 31).toUInt32).toInt32)), (.int (1 : Int32)), (.ref b1), (.ref b1)]))
  refine own_go (fun _ k => XS.i2b X119.here hx rfl (hb hby own_d4_23) rfl k) ?_
  show own_Go p.tables e below _ (T119.setTop (mkF m 24 #[.val (.ref a5)] [(.int (((p6.toUInt32 >>> ((16 : Int32) &&& 31).toUInt32).toInt32).toInt8.toInt32)), (.int (1 : Int32)), (.ref b1), (.ref b1)]))
  refine own_bast X119 hx hZ e119 V_b1_117 1 (by decide) (by decide) (by decide) (hb hby own_d4_24) ?_
  intro T120 h120 X120 e120 W120
  have F_bits_121 : Fld Z h120 a5 "com/example/handover/handover/model/Ipv4Address" "bits" "I" (.int p6) := Fld.other W120 F_bits_115 (Or.inl ne108)
  have E_b1_122 : Exa Z h120 b1 "[B" := Exa.wr W120 E_b1_116
  have V_b1_123 : own_Av Z h120 b1 cA107 .byte 4 (fun x => if x = 1 then .int ((((p6.toUInt32 >>> ((16 : Int32) &&& 31).toUInt32).toInt32).toInt8.toInt32).toInt8.toInt32) else (fun x => if x = 0 then .int ((((p6.toUInt32 >>> ((24 : Int32) &&& 31).toUInt32).toInt32).toInt8.toInt32).toInt8.toInt32) else (fun _ => defaultValue .byte) x) x) := own_Av.set V_b1_117 W120 (by decide)
  have N124 := Fr.snoc X120 N118 ge_b1
  have Z124 : n0 ≤ h120.size := by rw [W120.size]; exact Z118
  have K124 : Keep h0 h120 [] := Keep.wr K118 W120 (Or.inr kb_b1)
  show own_Go p.tables e below _ (T120.setTop (mkF m 25 #[.val (.ref a5)] [(.ref b1)]))
  refine own_go (fun _ k => XS.dup X120.here hx rfl (hb hby own_d4_25) rfl rfl k) ?_
  show own_Go p.tables e below _ (T120.setTop (mkF m 26 #[.val (.ref a5)] [(.ref b1), (.ref b1)]))
  refine own_go (fun _ k => XS.iconst X120.here hx rfl (hb hby own_d4_26) k) ?_
  show own_Go p.tables e below _ (T120.setTop (mkF m 27 #[.val (.ref a5)] [(.int (2 : Int32)), (.ref b1), (.ref b1)]))
  refine own_go (fun _ k => XS.aloadN X120.here hx rfl (hb hby own_d4_27) rfl rfl k) ?_
  show own_Go p.tables e below _ (T120.setTop (mkF m 28 #[.val (.ref a5)] [(.ref a5), (.int (2 : Int32)), (.ref b1), (.ref b1)]))
  obtain ⟨T125, X125, e125, st125⟩ := getF X120 hx hZ hown (host := "") (Or.inl (hw _ (List.mem_of_getElem? (i := 14) rfl))) Via.refl e120 F_bits_121 (g := (mkF m 28 #[.val (.ref a5)] [(.ref a5), (.int (2 : Int32)), (.ref b1), (.ref b1)])) rfl rfl (hb hby own_d4_28)
  refine own_go st125 ?_
  show own_Go p.tables e below _ (T125.setTop (mkF m 31 #[.val (.ref a5)] [(.int p6), (.int (2 : Int32)), (.ref b1), (.ref b1)]))
  refine own_go (fun _ k => XS.bipush X125.here hx rfl (hb hby own_d4_31) k) ?_
  show own_Go p.tables e below _ (T125.setTop (mkF m 33 #[.val (.ref a5)] [(.int (8 : Int32)), (.int p6), (.int (2 : Int32)), (.ref b1), (.ref b1)]))
  refine own_go (fun _ k => XS.iushr X125.here hx rfl (hb hby own_d4_33) rfl k) ?_
  show own_Go p.tables e below _ (T125.setTop (mkF m 34 #[.val (.ref a5)] [(.int ((p6.toUInt32 >>> ((8 : Int32) &&& 31).toUInt32).toInt32)), (.int (2 : Int32)), (.ref b1), (.ref b1)]))
  refine own_go (fun _ k => XS.i2b X125.here hx rfl (hb hby own_d4_34) rfl k) ?_
  show own_Go p.tables e below _ (T125.setTop (mkF m 35 #[.val (.ref a5)] [(.int (((p6.toUInt32 >>> ((8 : Int32) &&& 31).toUInt32).toInt32).toInt8.toInt32)), (.int (2 : Int32)), (.ref b1), (.ref b1)]))
  refine own_bast X125 hx hZ e125 V_b1_123 2 (by decide) (by decide) (by decide) (hb hby own_d4_35) ?_
  intro T126 h126 X126 e126 W126
  have F_bits_127 : Fld Z h126 a5 "com/example/handover/handover/model/Ipv4Address" "bits" "I" (.int p6) := Fld.other W126 F_bits_121 (Or.inl ne108)
  have E_b1_128 : Exa Z h126 b1 "[B" := Exa.wr W126 E_b1_122
  have V_b1_129 : own_Av Z h126 b1 cA107 .byte 4 (fun x => if x = 2 then .int ((((p6.toUInt32 >>> ((8 : Int32) &&& 31).toUInt32).toInt32).toInt8.toInt32).toInt8.toInt32) else (fun x => if x = 1 then .int ((((p6.toUInt32 >>> ((16 : Int32) &&& 31).toUInt32).toInt32).toInt8.toInt32).toInt8.toInt32) else (fun x => if x = 0 then .int ((((p6.toUInt32 >>> ((24 : Int32) &&& 31).toUInt32).toInt32).toInt8.toInt32).toInt8.toInt32) else (fun _ => defaultValue .byte) x) x) x) := own_Av.set V_b1_123 W126 (by decide)
  have N130 := Fr.snoc X126 N124 ge_b1
  have Z130 : n0 ≤ h126.size := by rw [W126.size]; exact Z124
  have K130 : Keep h0 h126 [] := Keep.wr K124 W126 (Or.inr kb_b1)
  show own_Go p.tables e below _ (T126.setTop (mkF m 36 #[.val (.ref a5)] [(.ref b1)]))
  refine own_go (fun _ k => XS.dup X126.here hx rfl (hb hby own_d4_36) rfl rfl k) ?_
  show own_Go p.tables e below _ (T126.setTop (mkF m 37 #[.val (.ref a5)] [(.ref b1), (.ref b1)]))
  refine own_go (fun _ k => XS.iconst X126.here hx rfl (hb hby own_d4_37) k) ?_
  show own_Go p.tables e below _ (T126.setTop (mkF m 38 #[.val (.ref a5)] [(.int (3 : Int32)), (.ref b1), (.ref b1)]))
  refine own_go (fun _ k => XS.aloadN X126.here hx rfl (hb hby own_d4_38) rfl rfl k) ?_
  show own_Go p.tables e below _ (T126.setTop (mkF m 39 #[.val (.ref a5)] [(.ref a5), (.int (3 : Int32)), (.ref b1), (.ref b1)]))
  obtain ⟨T131, X131, e131, st131⟩ := getF X126 hx hZ hown (host := "") (Or.inl (hw _ (List.mem_of_getElem? (i := 14) rfl))) Via.refl e126 F_bits_127 (g := (mkF m 39 #[.val (.ref a5)] [(.ref a5), (.int (3 : Int32)), (.ref b1), (.ref b1)])) rfl rfl (hb hby own_d4_39)
  refine own_go st131 ?_
  show own_Go p.tables e below _ (T131.setTop (mkF m 42 #[.val (.ref a5)] [(.int p6), (.int (3 : Int32)), (.ref b1), (.ref b1)]))
  refine own_go (fun _ k => XS.i2b X131.here hx rfl (hb hby own_d4_42) rfl k) ?_
  show own_Go p.tables e below _ (T131.setTop (mkF m 43 #[.val (.ref a5)] [(.int (p6.toInt8.toInt32)), (.int (3 : Int32)), (.ref b1), (.ref b1)]))
  refine own_bast X131 hx hZ e131 V_b1_129 3 (by decide) (by decide) (by decide) (hb hby own_d4_43) ?_
  intro T132 h132 X132 e132 W132
  have F_bits_133 : Fld Z h132 a5 "com/example/handover/handover/model/Ipv4Address" "bits" "I" (.int p6) := Fld.other W132 F_bits_127 (Or.inl ne108)
  have E_b1_134 : Exa Z h132 b1 "[B" := Exa.wr W132 E_b1_128
  have V_b1_135 : own_Av Z h132 b1 cA107 .byte 4 (fun x => if x = 3 then .int ((p6.toInt8.toInt32).toInt8.toInt32) else (fun x => if x = 2 then .int ((((p6.toUInt32 >>> ((8 : Int32) &&& 31).toUInt32).toInt32).toInt8.toInt32).toInt8.toInt32) else (fun x => if x = 1 then .int ((((p6.toUInt32 >>> ((16 : Int32) &&& 31).toUInt32).toInt32).toInt8.toInt32).toInt8.toInt32) else (fun x => if x = 0 then .int ((((p6.toUInt32 >>> ((24 : Int32) &&& 31).toUInt32).toInt32).toInt8.toInt32).toInt8.toInt32) else (fun _ => defaultValue .byte) x) x) x) x) := own_Av.set V_b1_129 W132 (by decide)
  have N136 := Fr.snoc X132 N130 ge_b1
  have Z136 : n0 ≤ h132.size := by rw [W132.size]; exact Z130
  have K136 : Keep h0 h132 [] := Keep.wr K130 W132 (Or.inr kb_b1)
  show own_Go p.tables e below _ (T132.setTop (mkF m 44 #[.val (.ref a5)] [(.ref b1)]))
  have VV : own_Av Z h132 b1 cA107 .byte 4 (own_bs p6) := own_Av.congr V_b1_135 (fun j hj => by rcases j with _ | _ | _ | _ | j <;> first | (simp [own_bs, own_by, own_us]; done) | omega)
  exact own_retA X132 hx hlk hret rfl rfl (hb hby own_d4_44) (⟨_, rfl, kb_b1, N136, by rw [e132]; exact K136, _, by rw [e132]; exact VV⟩) (by decide) (by decide)
theorem own_rm0_ef (m : MethodId) (p1 : Int32)  : entryFrame m #[(.int p1)] maxLocals = mkF m 0 #[.val (.int p1), .unset, .unset, .unset, .unset] [] := by first | (simp [entryFrame, mkF, argsToLocals, Value.category, maxLocals]; done) | rfl
set_option maxRecDepth 65536 in
set_option maxHeartbeats 40000000 in
theorem own_rm0 (l : Launch) (Z : State) (a0 : Array Value) (hw : ∀ d ∈ tables_1, d.before a0 Z = true) (ws : List Jvm.Cond) (p1 : Int32) (h0 : Heap) (n0 : Nat) (Z0 : n0 ≤ h0.size)  :
    own_Met l x (Jvm.Cond.code x code maxLocals ret :: ws) room_1 Z h0 #[(.int p1)] (fun v h L => v = some (.int 1) ∧ Fr n0 L) := by
  refine own_body (pn := own_pn_0) ?_
  intro p e s m below meth c s₁ hx hby hml hown hnm hret hlk hZ X0 e0
  have N0 := Fr.nil n0
  refine own_go (fun _ k => castTop (own_rm0_ef m p1 ) k) ?_
  show own_Go p.tables e below _ (s₁.setTop (mkF m 0 #[.val (.int p1), .unset, .unset, .unset, .unset] []))
  obtain ⟨T137, h137, X137, e137, E137, A137, D137, -, st137⟩ := newO X0 hx hZ hown (hw _ (List.mem_of_getElem? (i := 0) rfl)) (hw _ (List.mem_of_getElem? (i := 1) rfl)) (hw _ (List.mem_of_getElem? (i := 2) rfl)) e0 (g := (mkF m 0 #[.val (.int p1), .unset, .unset, .unset, .unset] [])) rfl (hb hby at_0) (by decide) (by decide)
  obtain ⟨a1, g137⟩ : ∃ z, z = h0.size := ⟨_, rfl⟩
  rw [← g137] at A137 D137 st137
  have ge_a1 : n0 ≤ a1 := by rw [g137]; exact Z0
  have Z138 : n0 ≤ h137.size := Nat.le_trans Z0 E137.1
  have E_a1_139 : Exa Z h137 a1 "com/example/handover/handover/model/Ipv4Address" := A137
  have F_a1_bits_140 : Fld Z h137 a1 "com/example/handover/handover/model/Ipv4Address" "bits" "I" (.int (0 : Int32)) := D137 (Or.inr (hw _ (List.mem_of_getElem? (i := 15) rfl))) (ty := .int) (by decide)
  refine own_go st137 ?_
  show own_Go p.tables e below _ (T137.setTop (mkF m 3 #[.val (.int p1), .unset, .unset, .unset, .unset] [(.ref a1)]))
  refine own_go (fun _ k => XS.dup X137.here hx rfl (hb hby at_3) rfl rfl k) ?_
  show own_Go p.tables e below _ (T137.setTop (mkF m 4 #[.val (.int p1), .unset, .unset, .unset, .unset] [(.ref a1), (.ref a1)]))
  refine own_go (fun _ k => XS.iloadN X137.here hx rfl (hb hby at_4) rfl k) ?_
  show own_Go p.tables e below _ (T137.setTop (mkF m 5 #[.val (.int p1), .unset, .unset, .unset, .unset] [(.int p1), (.ref a1), (.ref a1)]))
  refine own_callI X137 hx hZ (y := (⟨"com/example/handover/handover/model/Ipv4Address", "<init>", "(I)V"⟩ : MethodName)) (argsL := [(.int p1)]) (rest := [(.ref a1)]) (W := 1) hown (hw _ (List.mem_of_getElem? (i := 3) rfl)) (hw _ (List.mem_of_getElem? (i := 4) rfl)) (hw _ (List.mem_of_getElem? (i := 5) rfl)) (hw _ (List.mem_of_getElem? (i := 2) rfl)) rfl (by decide) (own_rm1 l Z a0 hw a1 p1 h137 n0 Z138 F_a1_bits_140 E_a1_139 ge_a1) e137 (by decide) (by decide) (by decide) (by decide) (by rw [hml]; rfl) (lenOf own_pd__I_V rfl) rfl (Nat.le_of_eq rfl) (hb hby at_5) ?_
  rintro _ T141 L141 X141 ⟨rfl, N141, K141, F141⟩
  have NA141 := Fr.app N0 N141
  have E_a1_142 : Exa Z T141.heap a1 "com/example/handover/handover/model/Ipv4Address" := Exa.keep E_a1_139 K141
  have Z143 : n0 ≤ T141.heap.size := Nat.le_trans Z138 K141.1
  show own_Go p.tables e below _ (T141.setTop (mkF m 8 #[.val (.int p1), .unset, .unset, .unset, .unset] [(.ref a1)]))
  refine own_go (fun _ k => XS.astoreN X141.here hx rfl (hb hby at_8) rfl rfl (l' := #[.val (.int p1), .val (.ref a1), .unset, .unset, .unset]) rfl k) ?_
  show own_Go p.tables e below _ (T141.setTop (mkF m 9 #[.val (.int p1), .val (.ref a1), .unset, .unset, .unset] []))
  refine own_go (fun _ k => XS.aloadN X141.here hx rfl (hb hby at_9) rfl rfl k) ?_
  show own_Go p.tables e below _ (T141.setTop (mkF m 10 #[.val (.int p1), .val (.ref a1), .unset, .unset, .unset] [(.ref a1)]))
  refine own_callV X141 hx hZ (z := (⟨"com/example/handover/handover/model/Ipv4Address", "toBytes", "()[B"⟩ : MethodName)) (argsL := []) (rest := []) (W := 0) hown (hw _ (List.mem_of_getElem? (i := 16) rfl)) (hw _ (List.mem_of_getElem? (i := 17) rfl)) (hw _ (List.mem_of_getElem? (i := 19) rfl)) (hw _ (List.mem_of_getElem? (i := 18) rfl)) (hw _ (List.mem_of_getElem? (i := 20) rfl)) (hw _ (List.mem_of_getElem? (i := 2) rfl)) (by decide) (E_a1_142) (own_rm4 l Z a0 hw a1 p1 T141.heap n0 Z143 F141) rfl (by decide) (by decide) (by decide) (by decide) (by rw [hml]; rfl) (lenOf own_pd____B rfl) rfl (Nat.le_of_eq rfl) (hb hby at_10) ?_
  rintro _ T144 L144 X144 ⟨b144, rfl, g144, N144, K144, c144, V144⟩
  have NA144 := Fr.app NA141 N144
  have E_a1_145 : Exa Z T144.heap a1 "com/example/handover/handover/model/Ipv4Address" := Exa.keep E_a1_142 K144
  have F_bits_146 : Fld Z T144.heap a1 "com/example/handover/handover/model/Ipv4Address" "bits" "I" (.int p1) := Fld.keep F141 K144 nin0
  have Z147 : n0 ≤ T144.heap.size := Nat.le_trans Z143 K144.1
  show own_Go p.tables e below _ (T144.setTop (mkF m 13 #[.val (.int p1), .val (.ref a1), .unset, .unset, .unset] [(.ref b144)]))
  have ne148 : a1 ≠ b144 := Nat.ne_of_lt (Nat.lt_of_lt_of_le E_a1_142.lt g144)
  have ge_b144 : n0 ≤ b144 := Nat.le_trans Z143 g144
  refine own_go (fun _ k => XS.astoreN X144.here hx rfl (hb hby at_13) rfl rfl (l' := #[.val (.int p1), .val (.ref a1), .val (.ref b144), .unset, .unset]) rfl k) ?_
  show own_Go p.tables e below _ (T144.setTop (mkF m 14 #[.val (.int p1), .val (.ref a1), .val (.ref b144), .unset, .unset] []))
  refine own_go (fun _ k => XS.aloadN X144.here hx rfl (hb hby at_14) rfl rfl k) ?_
  show own_Go p.tables e below _ (T144.setTop (mkF m 15 #[.val (.int p1), .val (.ref a1), .val (.ref b144), .unset, .unset] [(.ref b144)]))
  refine own_go (fun _ k => XS.ifnullNo X144.here hx rfl (hb hby at_15) rfl k) ?_
  show own_Go p.tables e below _ (T144.setTop (mkF m 18 #[.val (.int p1), .val (.ref a1), .val (.ref b144), .unset, .unset] []))
  refine own_go (fun _ k => XS.aloadN X144.here hx rfl (hb hby at_18) rfl rfl k) ?_
  show own_Go p.tables e below _ (T144.setTop (mkF m 19 #[.val (.int p1), .val (.ref a1), .val (.ref b144), .unset, .unset] [(.ref b144)]))
  refine own_alen X144 hx hZ rfl V144 (4 : Int32) (by decide) (hb hby at_19) ?_
  show own_Go p.tables e below _ (T144.setTop (mkF m 20 #[.val (.int p1), .val (.ref a1), .val (.ref b144), .unset, .unset] [(.int (4 : Int32))]))
  refine own_go (fun _ k => XS.iconst X144.here hx rfl (hb hby at_20) k) ?_
  show own_Go p.tables e below _ (T144.setTop (mkF m 21 #[.val (.int p1), .val (.ref a1), .val (.ref b144), .unset, .unset] [(.int (4 : Int32)), (.int (4 : Int32))]))
  refine own_go (fun _ k => XS.icmpYes X144.here hx rfl (pc0 := 21) (pc' := 26) rfl (hb hby at_21) rfl (XT.ii_eq_t (rfl)) (by decide) (by decide) k) ?_
  show own_Go p.tables e below _ (T144.setTop (mkF m 26 #[.val (.int p1), .val (.ref a1), .val (.ref b144), .unset, .unset] []))
  refine own_go (fun _ k => XS.aloadN X144.here hx rfl (hb hby at_26) rfl rfl k) ?_
  show own_Go p.tables e below _ (T144.setTop (mkF m 27 #[.val (.int p1), .val (.ref a1), .val (.ref b144), .unset, .unset] [(.ref b144)]))
  refine own_go (fun _ k => XS.iconst X144.here hx rfl (hb hby at_27) k) ?_
  show own_Go p.tables e below _ (T144.setTop (mkF m 28 #[.val (.int p1), .val (.ref a1), .val (.ref b144), .unset, .unset] [(.int (0 : Int32)), (.ref b144)]))
  refine own_bald X144 hx hZ rfl V144 0 (by decide) (by decide) (by decide) (w := .int (own_by (own_us p1 24))) rfl (hb hby at_28) ?_
  show own_Go p.tables e below _ (T144.setTop (mkF m 29 #[.val (.int p1), .val (.ref a1), .val (.ref b144), .unset, .unset] [(.int (own_by (own_us p1 24)))]))
  refine own_go (fun _ k => XS.sipush X144.here hx rfl (hb hby at_29) k) ?_
  show own_Go p.tables e below _ (T144.setTop (mkF m 32 #[.val (.int p1), .val (.ref a1), .val (.ref b144), .unset, .unset] [(.int (255 : Int32)), (.int (own_by (own_us p1 24)))]))
  refine own_go (fun _ k => XS.iand X144.here hx rfl (hb hby at_32) rfl k) ?_
  show own_Go p.tables e below _ (T144.setTop (mkF m 33 #[.val (.int p1), .val (.ref a1), .val (.ref b144), .unset, .unset] [(.int ((own_by (own_us p1 24)) &&& (255 : Int32)))]))
  refine own_go (fun _ k => XS.bipush X144.here hx rfl (hb hby at_33) k) ?_
  show own_Go p.tables e below _ (T144.setTop (mkF m 35 #[.val (.int p1), .val (.ref a1), .val (.ref b144), .unset, .unset] [(.int (24 : Int32)), (.int ((own_by (own_us p1 24)) &&& (255 : Int32)))]))
  refine own_go (fun _ k => XS.ishl X144.here hx rfl (hb hby at_35) rfl k) ?_
  show own_Go p.tables e below _ (T144.setTop (mkF m 36 #[.val (.int p1), .val (.ref a1), .val (.ref b144), .unset, .unset] [(.int (((own_by (own_us p1 24)) &&& (255 : Int32)) <<< ((24 : Int32) &&& 31)))]))
  refine own_go (fun _ k => XS.aloadN X144.here hx rfl (hb hby at_36) rfl rfl k) ?_
  show own_Go p.tables e below _ (T144.setTop (mkF m 37 #[.val (.int p1), .val (.ref a1), .val (.ref b144), .unset, .unset] [(.ref b144), (.int (((own_by (own_us p1 24)) &&& (255 : Int32)) <<< ((24 : Int32) &&& 31)))]))
  refine own_go (fun _ k => XS.iconst X144.here hx rfl (hb hby at_37) k) ?_
  show own_Go p.tables e below _ (T144.setTop (mkF m 38 #[.val (.int p1), .val (.ref a1), .val (.ref b144), .unset, .unset] [(.int (1 : Int32)), (.ref b144), (.int (((own_by (own_us p1 24)) &&& (255 : Int32)) <<< ((24 : Int32) &&& 31)))]))
  refine own_bald X144 hx hZ rfl V144 1 (by decide) (by decide) (by decide) (w := .int (own_by (own_us p1 16))) rfl (hb hby at_38) ?_
  show own_Go p.tables e below _ (T144.setTop (mkF m 39 #[.val (.int p1), .val (.ref a1), .val (.ref b144), .unset, .unset] [(.int (own_by (own_us p1 16))), (.int (((own_by (own_us p1 24)) &&& (255 : Int32)) <<< ((24 : Int32) &&& 31)))]))
  refine own_go (fun _ k => XS.sipush X144.here hx rfl (hb hby at_39) k) ?_
  show own_Go p.tables e below _ (T144.setTop (mkF m 42 #[.val (.int p1), .val (.ref a1), .val (.ref b144), .unset, .unset] [(.int (255 : Int32)), (.int (own_by (own_us p1 16))), (.int (((own_by (own_us p1 24)) &&& (255 : Int32)) <<< ((24 : Int32) &&& 31)))]))
  refine own_go (fun _ k => XS.iand X144.here hx rfl (hb hby at_42) rfl k) ?_
  show own_Go p.tables e below _ (T144.setTop (mkF m 43 #[.val (.int p1), .val (.ref a1), .val (.ref b144), .unset, .unset] [(.int ((own_by (own_us p1 16)) &&& (255 : Int32))), (.int (((own_by (own_us p1 24)) &&& (255 : Int32)) <<< ((24 : Int32) &&& 31)))]))
  refine own_go (fun _ k => XS.bipush X144.here hx rfl (hb hby at_43) k) ?_
  show own_Go p.tables e below _ (T144.setTop (mkF m 45 #[.val (.int p1), .val (.ref a1), .val (.ref b144), .unset, .unset] [(.int (16 : Int32)), (.int ((own_by (own_us p1 16)) &&& (255 : Int32))), (.int (((own_by (own_us p1 24)) &&& (255 : Int32)) <<< ((24 : Int32) &&& 31)))]))
  refine own_go (fun _ k => XS.ishl X144.here hx rfl (hb hby at_45) rfl k) ?_
  show own_Go p.tables e below _ (T144.setTop (mkF m 46 #[.val (.int p1), .val (.ref a1), .val (.ref b144), .unset, .unset] [(.int (((own_by (own_us p1 16)) &&& (255 : Int32)) <<< ((16 : Int32) &&& 31))), (.int (((own_by (own_us p1 24)) &&& (255 : Int32)) <<< ((24 : Int32) &&& 31)))]))
  refine own_go (fun _ k => XS.ior X144.here hx rfl (hb hby at_46) rfl k) ?_
  show own_Go p.tables e below _ (T144.setTop (mkF m 47 #[.val (.int p1), .val (.ref a1), .val (.ref b144), .unset, .unset] [(.int ((((own_by (own_us p1 24)) &&& (255 : Int32)) <<< ((24 : Int32) &&& 31)) ||| (((own_by (own_us p1 16)) &&& (255 : Int32)) <<< ((16 : Int32) &&& 31))))]))
  refine own_go (fun _ k => XS.aloadN X144.here hx rfl (hb hby at_47) rfl rfl k) ?_
  show own_Go p.tables e below _ (T144.setTop (mkF m 48 #[.val (.int p1), .val (.ref a1), .val (.ref b144), .unset, .unset] [(.ref b144), (.int ((((own_by (own_us p1 24)) &&& (255 : Int32)) <<< ((24 : Int32) &&& 31)) ||| (((own_by (own_us p1 16)) &&& (255 : Int32)) <<< ((16 : Int32) &&& 31))))]))
  refine own_go (fun _ k => XS.iconst X144.here hx rfl (hb hby at_48) k) ?_
  show own_Go p.tables e below _ (T144.setTop (mkF m 49 #[.val (.int p1), .val (.ref a1), .val (.ref b144), .unset, .unset] [(.int (2 : Int32)), (.ref b144), (.int ((((own_by (own_us p1 24)) &&& (255 : Int32)) <<< ((24 : Int32) &&& 31)) ||| (((own_by (own_us p1 16)) &&& (255 : Int32)) <<< ((16 : Int32) &&& 31))))]))
  refine own_bald X144 hx hZ rfl V144 2 (by decide) (by decide) (by decide) (w := .int (own_by (own_us p1 8))) rfl (hb hby at_49) ?_
  show own_Go p.tables e below _ (T144.setTop (mkF m 50 #[.val (.int p1), .val (.ref a1), .val (.ref b144), .unset, .unset] [(.int (own_by (own_us p1 8))), (.int ((((own_by (own_us p1 24)) &&& (255 : Int32)) <<< ((24 : Int32) &&& 31)) ||| (((own_by (own_us p1 16)) &&& (255 : Int32)) <<< ((16 : Int32) &&& 31))))]))
  refine own_go (fun _ k => XS.sipush X144.here hx rfl (hb hby at_50) k) ?_
  show own_Go p.tables e below _ (T144.setTop (mkF m 53 #[.val (.int p1), .val (.ref a1), .val (.ref b144), .unset, .unset] [(.int (255 : Int32)), (.int (own_by (own_us p1 8))), (.int ((((own_by (own_us p1 24)) &&& (255 : Int32)) <<< ((24 : Int32) &&& 31)) ||| (((own_by (own_us p1 16)) &&& (255 : Int32)) <<< ((16 : Int32) &&& 31))))]))
  refine own_go (fun _ k => XS.iand X144.here hx rfl (hb hby at_53) rfl k) ?_
  show own_Go p.tables e below _ (T144.setTop (mkF m 54 #[.val (.int p1), .val (.ref a1), .val (.ref b144), .unset, .unset] [(.int ((own_by (own_us p1 8)) &&& (255 : Int32))), (.int ((((own_by (own_us p1 24)) &&& (255 : Int32)) <<< ((24 : Int32) &&& 31)) ||| (((own_by (own_us p1 16)) &&& (255 : Int32)) <<< ((16 : Int32) &&& 31))))]))
  refine own_go (fun _ k => XS.bipush X144.here hx rfl (hb hby at_54) k) ?_
  show own_Go p.tables e below _ (T144.setTop (mkF m 56 #[.val (.int p1), .val (.ref a1), .val (.ref b144), .unset, .unset] [(.int (8 : Int32)), (.int ((own_by (own_us p1 8)) &&& (255 : Int32))), (.int ((((own_by (own_us p1 24)) &&& (255 : Int32)) <<< ((24 : Int32) &&& 31)) ||| (((own_by (own_us p1 16)) &&& (255 : Int32)) <<< ((16 : Int32) &&& 31))))]))
  refine own_go (fun _ k => XS.ishl X144.here hx rfl (hb hby at_56) rfl k) ?_
  show own_Go p.tables e below _ (T144.setTop (mkF m 57 #[.val (.int p1), .val (.ref a1), .val (.ref b144), .unset, .unset] [(.int (((own_by (own_us p1 8)) &&& (255 : Int32)) <<< ((8 : Int32) &&& 31))), (.int ((((own_by (own_us p1 24)) &&& (255 : Int32)) <<< ((24 : Int32) &&& 31)) ||| (((own_by (own_us p1 16)) &&& (255 : Int32)) <<< ((16 : Int32) &&& 31))))]))
  refine own_go (fun _ k => XS.ior X144.here hx rfl (hb hby at_57) rfl k) ?_
  show own_Go p.tables e below _ (T144.setTop (mkF m 58 #[.val (.int p1), .val (.ref a1), .val (.ref b144), .unset, .unset] [(.int (((((own_by (own_us p1 24)) &&& (255 : Int32)) <<< ((24 : Int32) &&& 31)) ||| (((own_by (own_us p1 16)) &&& (255 : Int32)) <<< ((16 : Int32) &&& 31))) ||| (((own_by (own_us p1 8)) &&& (255 : Int32)) <<< ((8 : Int32) &&& 31))))]))
  refine own_go (fun _ k => XS.aloadN X144.here hx rfl (hb hby at_58) rfl rfl k) ?_
  show own_Go p.tables e below _ (T144.setTop (mkF m 59 #[.val (.int p1), .val (.ref a1), .val (.ref b144), .unset, .unset] [(.ref b144), (.int (((((own_by (own_us p1 24)) &&& (255 : Int32)) <<< ((24 : Int32) &&& 31)) ||| (((own_by (own_us p1 16)) &&& (255 : Int32)) <<< ((16 : Int32) &&& 31))) ||| (((own_by (own_us p1 8)) &&& (255 : Int32)) <<< ((8 : Int32) &&& 31))))]))
  refine own_go (fun _ k => XS.iconst X144.here hx rfl (hb hby at_59) k) ?_
  show own_Go p.tables e below _ (T144.setTop (mkF m 60 #[.val (.int p1), .val (.ref a1), .val (.ref b144), .unset, .unset] [(.int (3 : Int32)), (.ref b144), (.int (((((own_by (own_us p1 24)) &&& (255 : Int32)) <<< ((24 : Int32) &&& 31)) ||| (((own_by (own_us p1 16)) &&& (255 : Int32)) <<< ((16 : Int32) &&& 31))) ||| (((own_by (own_us p1 8)) &&& (255 : Int32)) <<< ((8 : Int32) &&& 31))))]))
  refine own_bald X144 hx hZ rfl V144 3 (by decide) (by decide) (by decide) (w := .int (own_by p1)) rfl (hb hby at_60) ?_
  show own_Go p.tables e below _ (T144.setTop (mkF m 61 #[.val (.int p1), .val (.ref a1), .val (.ref b144), .unset, .unset] [(.int (own_by p1)), (.int (((((own_by (own_us p1 24)) &&& (255 : Int32)) <<< ((24 : Int32) &&& 31)) ||| (((own_by (own_us p1 16)) &&& (255 : Int32)) <<< ((16 : Int32) &&& 31))) ||| (((own_by (own_us p1 8)) &&& (255 : Int32)) <<< ((8 : Int32) &&& 31))))]))
  refine own_go (fun _ k => XS.sipush X144.here hx rfl (hb hby at_61) k) ?_
  show own_Go p.tables e below _ (T144.setTop (mkF m 64 #[.val (.int p1), .val (.ref a1), .val (.ref b144), .unset, .unset] [(.int (255 : Int32)), (.int (own_by p1)), (.int (((((own_by (own_us p1 24)) &&& (255 : Int32)) <<< ((24 : Int32) &&& 31)) ||| (((own_by (own_us p1 16)) &&& (255 : Int32)) <<< ((16 : Int32) &&& 31))) ||| (((own_by (own_us p1 8)) &&& (255 : Int32)) <<< ((8 : Int32) &&& 31))))]))
  refine own_go (fun _ k => XS.iand X144.here hx rfl (hb hby at_64) rfl k) ?_
  show own_Go p.tables e below _ (T144.setTop (mkF m 65 #[.val (.int p1), .val (.ref a1), .val (.ref b144), .unset, .unset] [(.int ((own_by p1) &&& (255 : Int32))), (.int (((((own_by (own_us p1 24)) &&& (255 : Int32)) <<< ((24 : Int32) &&& 31)) ||| (((own_by (own_us p1 16)) &&& (255 : Int32)) <<< ((16 : Int32) &&& 31))) ||| (((own_by (own_us p1 8)) &&& (255 : Int32)) <<< ((8 : Int32) &&& 31))))]))
  refine own_go (fun _ k => XS.ior X144.here hx rfl (hb hby at_65) rfl k) ?_
  show own_Go p.tables e below _ (T144.setTop (mkF m 66 #[.val (.int p1), .val (.ref a1), .val (.ref b144), .unset, .unset] [(.int ((((((own_by (own_us p1 24)) &&& (255 : Int32)) <<< ((24 : Int32) &&& 31)) ||| (((own_by (own_us p1 16)) &&& (255 : Int32)) <<< ((16 : Int32) &&& 31))) ||| (((own_by (own_us p1 8)) &&& (255 : Int32)) <<< ((8 : Int32) &&& 31))) ||| ((own_by p1) &&& (255 : Int32))))]))
  refine own_go (fun _ k => XS.istoreN X144.here hx rfl (hb hby at_66) rfl (l' := #[.val (.int p1), .val (.ref a1), .val (.ref b144), .val (.int ((((((own_by (own_us p1 24)) &&& (255 : Int32)) <<< ((24 : Int32) &&& 31)) ||| (((own_by (own_us p1 16)) &&& (255 : Int32)) <<< ((16 : Int32) &&& 31))) ||| (((own_by (own_us p1 8)) &&& (255 : Int32)) <<< ((8 : Int32) &&& 31))) ||| ((own_by p1) &&& (255 : Int32)))), .unset]) rfl k) ?_
  show own_Go p.tables e below _ (T144.setTop (mkF m 67 #[.val (.int p1), .val (.ref a1), .val (.ref b144), .val (.int ((((((own_by (own_us p1 24)) &&& (255 : Int32)) <<< ((24 : Int32) &&& 31)) ||| (((own_by (own_us p1 16)) &&& (255 : Int32)) <<< ((16 : Int32) &&& 31))) ||| (((own_by (own_us p1 8)) &&& (255 : Int32)) <<< ((8 : Int32) &&& 31))) ||| ((own_by p1) &&& (255 : Int32)))), .unset] []))
  refine own_go (fun _ k => XS.iloadN X144.here hx rfl (hb hby at_67) rfl k) ?_
  show own_Go p.tables e below _ (T144.setTop (mkF m 68 #[.val (.int p1), .val (.ref a1), .val (.ref b144), .val (.int ((((((own_by (own_us p1 24)) &&& (255 : Int32)) <<< ((24 : Int32) &&& 31)) ||| (((own_by (own_us p1 16)) &&& (255 : Int32)) <<< ((16 : Int32) &&& 31))) ||| (((own_by (own_us p1 8)) &&& (255 : Int32)) <<< ((8 : Int32) &&& 31))) ||| ((own_by p1) &&& (255 : Int32)))), .unset] [(.int ((((((own_by (own_us p1 24)) &&& (255 : Int32)) <<< ((24 : Int32) &&& 31)) ||| (((own_by (own_us p1 16)) &&& (255 : Int32)) <<< ((16 : Int32) &&& 31))) ||| (((own_by (own_us p1 8)) &&& (255 : Int32)) <<< ((8 : Int32) &&& 31))) ||| ((own_by p1) &&& (255 : Int32))))]))
  refine own_go (fun _ k => XS.iloadN X144.here hx rfl (hb hby at_68) rfl k) ?_
  show own_Go p.tables e below _ (T144.setTop (mkF m 69 #[.val (.int p1), .val (.ref a1), .val (.ref b144), .val (.int ((((((own_by (own_us p1 24)) &&& (255 : Int32)) <<< ((24 : Int32) &&& 31)) ||| (((own_by (own_us p1 16)) &&& (255 : Int32)) <<< ((16 : Int32) &&& 31))) ||| (((own_by (own_us p1 8)) &&& (255 : Int32)) <<< ((8 : Int32) &&& 31))) ||| ((own_by p1) &&& (255 : Int32)))), .unset] [(.int p1), (.int ((((((own_by (own_us p1 24)) &&& (255 : Int32)) <<< ((24 : Int32) &&& 31)) ||| (((own_by (own_us p1 16)) &&& (255 : Int32)) <<< ((16 : Int32) &&& 31))) ||| (((own_by (own_us p1 8)) &&& (255 : Int32)) <<< ((8 : Int32) &&& 31))) ||| ((own_by p1) &&& (255 : Int32))))]))
  refine own_go (fun _ k => XS.icmpYes X144.here hx rfl (pc0 := 69) (pc' := 74) rfl (hb hby at_69) rfl (XT.ii_eq_t (own_back p1)) (by decide) (by decide) k) ?_
  show own_Go p.tables e below _ (T144.setTop (mkF m 74 #[.val (.int p1), .val (.ref a1), .val (.ref b144), .val (.int ((((((own_by (own_us p1 24)) &&& (255 : Int32)) <<< ((24 : Int32) &&& 31)) ||| (((own_by (own_us p1 16)) &&& (255 : Int32)) <<< ((16 : Int32) &&& 31))) ||| (((own_by (own_us p1 8)) &&& (255 : Int32)) <<< ((8 : Int32) &&& 31))) ||| ((own_by p1) &&& (255 : Int32)))), .unset] []))
  refine own_go (fun _ k => XS.aloadN X144.here hx rfl (hb hby at_74) rfl rfl k) ?_
  show own_Go p.tables e below _ (T144.setTop (mkF m 75 #[.val (.int p1), .val (.ref a1), .val (.ref b144), .val (.int ((((((own_by (own_us p1 24)) &&& (255 : Int32)) <<< ((24 : Int32) &&& 31)) ||| (((own_by (own_us p1 16)) &&& (255 : Int32)) <<< ((16 : Int32) &&& 31))) ||| (((own_by (own_us p1 8)) &&& (255 : Int32)) <<< ((8 : Int32) &&& 31))) ||| ((own_by p1) &&& (255 : Int32)))), .unset] [(.ref b144)]))
  refine own_go (fun _ k => XS.iconst X144.here hx rfl (hb hby at_75) k) ?_
  show own_Go p.tables e below _ (T144.setTop (mkF m 76 #[.val (.int p1), .val (.ref a1), .val (.ref b144), .val (.int ((((((own_by (own_us p1 24)) &&& (255 : Int32)) <<< ((24 : Int32) &&& 31)) ||| (((own_by (own_us p1 16)) &&& (255 : Int32)) <<< ((16 : Int32) &&& 31))) ||| (((own_by (own_us p1 8)) &&& (255 : Int32)) <<< ((8 : Int32) &&& 31))) ||| ((own_by p1) &&& (255 : Int32)))), .unset] [(.int (0 : Int32)), (.ref b144)]))
  refine own_go (fun _ k => XS.aloadN X144.here hx rfl (hb hby at_76) rfl rfl k) ?_
  show own_Go p.tables e below _ (T144.setTop (mkF m 77 #[.val (.int p1), .val (.ref a1), .val (.ref b144), .val (.int ((((((own_by (own_us p1 24)) &&& (255 : Int32)) <<< ((24 : Int32) &&& 31)) ||| (((own_by (own_us p1 16)) &&& (255 : Int32)) <<< ((16 : Int32) &&& 31))) ||| (((own_by (own_us p1 8)) &&& (255 : Int32)) <<< ((8 : Int32) &&& 31))) ||| ((own_by p1) &&& (255 : Int32)))), .unset] [(.ref b144), (.int (0 : Int32)), (.ref b144)]))
  refine own_go (fun _ k => XS.iconst X144.here hx rfl (hb hby at_77) k) ?_
  show own_Go p.tables e below _ (T144.setTop (mkF m 78 #[.val (.int p1), .val (.ref a1), .val (.ref b144), .val (.int ((((((own_by (own_us p1 24)) &&& (255 : Int32)) <<< ((24 : Int32) &&& 31)) ||| (((own_by (own_us p1 16)) &&& (255 : Int32)) <<< ((16 : Int32) &&& 31))) ||| (((own_by (own_us p1 8)) &&& (255 : Int32)) <<< ((8 : Int32) &&& 31))) ||| ((own_by p1) &&& (255 : Int32)))), .unset] [(.int (0 : Int32)), (.ref b144), (.int (0 : Int32)), (.ref b144)]))
  refine own_bald X144 hx hZ rfl V144 0 (by decide) (by decide) (by decide) (w := .int (own_by (own_us p1 24))) rfl (hb hby at_78) ?_
  show own_Go p.tables e below _ (T144.setTop (mkF m 79 #[.val (.int p1), .val (.ref a1), .val (.ref b144), .val (.int ((((((own_by (own_us p1 24)) &&& (255 : Int32)) <<< ((24 : Int32) &&& 31)) ||| (((own_by (own_us p1 16)) &&& (255 : Int32)) <<< ((16 : Int32) &&& 31))) ||| (((own_by (own_us p1 8)) &&& (255 : Int32)) <<< ((8 : Int32) &&& 31))) ||| ((own_by p1) &&& (255 : Int32)))), .unset] [(.int (own_by (own_us p1 24))), (.int (0 : Int32)), (.ref b144)]))
  refine own_go (fun _ k => XS.iconst X144.here hx rfl (hb hby at_79) k) ?_
  show own_Go p.tables e below _ (T144.setTop (mkF m 80 #[.val (.int p1), .val (.ref a1), .val (.ref b144), .val (.int ((((((own_by (own_us p1 24)) &&& (255 : Int32)) <<< ((24 : Int32) &&& 31)) ||| (((own_by (own_us p1 16)) &&& (255 : Int32)) <<< ((16 : Int32) &&& 31))) ||| (((own_by (own_us p1 8)) &&& (255 : Int32)) <<< ((8 : Int32) &&& 31))) ||| ((own_by p1) &&& (255 : Int32)))), .unset] [(.int (1 : Int32)), (.int (own_by (own_us p1 24))), (.int (0 : Int32)), (.ref b144)]))
  refine own_go (fun _ k => XS.ixor X144.here hx rfl (hb hby at_80) rfl k) ?_
  show own_Go p.tables e below _ (T144.setTop (mkF m 81 #[.val (.int p1), .val (.ref a1), .val (.ref b144), .val (.int ((((((own_by (own_us p1 24)) &&& (255 : Int32)) <<< ((24 : Int32) &&& 31)) ||| (((own_by (own_us p1 16)) &&& (255 : Int32)) <<< ((16 : Int32) &&& 31))) ||| (((own_by (own_us p1 8)) &&& (255 : Int32)) <<< ((8 : Int32) &&& 31))) ||| ((own_by p1) &&& (255 : Int32)))), .unset] [(.int ((own_by (own_us p1 24)) ^^^ (1 : Int32))), (.int (0 : Int32)), (.ref b144)]))
  refine own_go (fun _ k => XS.i2b X144.here hx rfl (hb hby at_81) rfl k) ?_
  show own_Go p.tables e below _ (T144.setTop (mkF m 82 #[.val (.int p1), .val (.ref a1), .val (.ref b144), .val (.int ((((((own_by (own_us p1 24)) &&& (255 : Int32)) <<< ((24 : Int32) &&& 31)) ||| (((own_by (own_us p1 16)) &&& (255 : Int32)) <<< ((16 : Int32) &&& 31))) ||| (((own_by (own_us p1 8)) &&& (255 : Int32)) <<< ((8 : Int32) &&& 31))) ||| ((own_by p1) &&& (255 : Int32)))), .unset] [(.int (((own_by (own_us p1 24)) ^^^ (1 : Int32)).toInt8.toInt32)), (.int (0 : Int32)), (.ref b144)]))
  refine own_bast X144 hx hZ rfl V144 0 (by decide) (by decide) (by decide) (hb hby at_82) ?_
  intro T149 h149 X149 e149 W149
  have E_a1_150 : Exa Z h149 a1 "com/example/handover/handover/model/Ipv4Address" := Exa.wr W149 E_a1_145
  have F_bits_151 : Fld Z h149 a1 "com/example/handover/handover/model/Ipv4Address" "bits" "I" (.int p1) := Fld.other W149 F_bits_146 (Or.inl ne148)
  have V_b144_152 : own_Av Z h149 b144 c144 .byte 4 (fun x => if x = 0 then .int ((((own_by (own_us p1 24)) ^^^ (1 : Int32)).toInt8.toInt32).toInt8.toInt32) else (own_bs p1) x) := own_Av.set V144 W149 (by decide)
  have N153 := Fr.snoc X149 NA144 ge_b144
  have Z153 : n0 ≤ h149.size := by rw [W149.size]; exact Z147
  show own_Go p.tables e below _ (T149.setTop (mkF m 83 #[.val (.int p1), .val (.ref a1), .val (.ref b144), .val (.int ((((((own_by (own_us p1 24)) &&& (255 : Int32)) <<< ((24 : Int32) &&& 31)) ||| (((own_by (own_us p1 16)) &&& (255 : Int32)) <<< ((16 : Int32) &&& 31))) ||| (((own_by (own_us p1 8)) &&& (255 : Int32)) <<< ((8 : Int32) &&& 31))) ||| ((own_by p1) &&& (255 : Int32)))), .unset] []))
  refine own_go (fun _ k => XS.aloadN X149.here hx rfl (hb hby at_83) rfl rfl k) ?_
  show own_Go p.tables e below _ (T149.setTop (mkF m 84 #[.val (.int p1), .val (.ref a1), .val (.ref b144), .val (.int ((((((own_by (own_us p1 24)) &&& (255 : Int32)) <<< ((24 : Int32) &&& 31)) ||| (((own_by (own_us p1 16)) &&& (255 : Int32)) <<< ((16 : Int32) &&& 31))) ||| (((own_by (own_us p1 8)) &&& (255 : Int32)) <<< ((8 : Int32) &&& 31))) ||| ((own_by p1) &&& (255 : Int32)))), .unset] [(.ref a1)]))
  refine own_callV X149 hx hZ (z := (⟨"com/example/handover/handover/model/Ipv4Address", "toBytes", "()[B"⟩ : MethodName)) (argsL := []) (rest := []) (W := 0) hown (hw _ (List.mem_of_getElem? (i := 16) rfl)) (hw _ (List.mem_of_getElem? (i := 17) rfl)) (hw _ (List.mem_of_getElem? (i := 19) rfl)) (hw _ (List.mem_of_getElem? (i := 18) rfl)) (hw _ (List.mem_of_getElem? (i := 20) rfl)) (hw _ (List.mem_of_getElem? (i := 2) rfl)) (by decide) (E_a1_150) (own_rm4 l Z a0 hw a1 p1 h149 n0 Z153 F_bits_151) e149 (by decide) (by decide) (by decide) (by decide) (by rw [hml]; rfl) (lenOf own_pd____B rfl) rfl (Nat.le_of_eq rfl) (hb hby at_84) ?_
  rintro _ T154 L154 X154 ⟨b154, rfl, g154, N154, K154, c154, V154⟩
  have NA154 := Fr.app N153 N154
  have E_a1_155 : Exa Z T154.heap a1 "com/example/handover/handover/model/Ipv4Address" := Exa.keep E_a1_150 K154
  have F_bits_156 : Fld Z T154.heap a1 "com/example/handover/handover/model/Ipv4Address" "bits" "I" (.int p1) := Fld.keep F_bits_151 K154 nin0
  have V_b144_157 : own_Av Z T154.heap b144 c144 .byte 4 (fun x => if x = 0 then .int ((((own_by (own_us p1 24)) ^^^ (1 : Int32)).toInt8.toInt32).toInt8.toInt32) else (own_bs p1) x) := own_Av.keep V_b144_152 K154 nin0
  have Z158 : n0 ≤ T154.heap.size := Nat.le_trans Z153 K154.1
  show own_Go p.tables e below _ (T154.setTop (mkF m 87 #[.val (.int p1), .val (.ref a1), .val (.ref b144), .val (.int ((((((own_by (own_us p1 24)) &&& (255 : Int32)) <<< ((24 : Int32) &&& 31)) ||| (((own_by (own_us p1 16)) &&& (255 : Int32)) <<< ((16 : Int32) &&& 31))) ||| (((own_by (own_us p1 8)) &&& (255 : Int32)) <<< ((8 : Int32) &&& 31))) ||| ((own_by p1) &&& (255 : Int32)))), .unset] [(.ref b154)]))
  have ne159 : a1 ≠ b154 := Nat.ne_of_lt (Nat.lt_of_lt_of_le E_a1_150.lt g154)
  have ne160 : b144 ≠ b154 := Nat.ne_of_lt (Nat.lt_of_lt_of_le V_b144_152.lt g154)
  have ge_b154 : n0 ≤ b154 := Nat.le_trans Z153 g154
  refine own_go (fun _ k => XS.astore X154.here hx rfl (hb hby at_87) rfl rfl (l' := #[.val (.int p1), .val (.ref a1), .val (.ref b144), .val (.int ((((((own_by (own_us p1 24)) &&& (255 : Int32)) <<< ((24 : Int32) &&& 31)) ||| (((own_by (own_us p1 16)) &&& (255 : Int32)) <<< ((16 : Int32) &&& 31))) ||| (((own_by (own_us p1 8)) &&& (255 : Int32)) <<< ((8 : Int32) &&& 31))) ||| ((own_by p1) &&& (255 : Int32)))), .val (.ref b154)]) rfl k) ?_
  show own_Go p.tables e below _ (T154.setTop (mkF m 89 #[.val (.int p1), .val (.ref a1), .val (.ref b144), .val (.int ((((((own_by (own_us p1 24)) &&& (255 : Int32)) <<< ((24 : Int32) &&& 31)) ||| (((own_by (own_us p1 16)) &&& (255 : Int32)) <<< ((16 : Int32) &&& 31))) ||| (((own_by (own_us p1 8)) &&& (255 : Int32)) <<< ((8 : Int32) &&& 31))) ||| ((own_by p1) &&& (255 : Int32)))), .val (.ref b154)] []))
  refine own_go (fun _ k => XS.aload X154.here hx rfl (hb hby at_89) rfl rfl k) ?_
  show own_Go p.tables e below _ (T154.setTop (mkF m 91 #[.val (.int p1), .val (.ref a1), .val (.ref b144), .val (.int ((((((own_by (own_us p1 24)) &&& (255 : Int32)) <<< ((24 : Int32) &&& 31)) ||| (((own_by (own_us p1 16)) &&& (255 : Int32)) <<< ((16 : Int32) &&& 31))) ||| (((own_by (own_us p1 8)) &&& (255 : Int32)) <<< ((8 : Int32) &&& 31))) ||| ((own_by p1) &&& (255 : Int32)))), .val (.ref b154)] [(.ref b154)]))
  refine own_go (fun _ k => XS.ifnullNo X154.here hx rfl (hb hby at_91) rfl k) ?_
  show own_Go p.tables e below _ (T154.setTop (mkF m 94 #[.val (.int p1), .val (.ref a1), .val (.ref b144), .val (.int ((((((own_by (own_us p1 24)) &&& (255 : Int32)) <<< ((24 : Int32) &&& 31)) ||| (((own_by (own_us p1 16)) &&& (255 : Int32)) <<< ((16 : Int32) &&& 31))) ||| (((own_by (own_us p1 8)) &&& (255 : Int32)) <<< ((8 : Int32) &&& 31))) ||| ((own_by p1) &&& (255 : Int32)))), .val (.ref b154)] []))
  refine own_go (fun _ k => XS.aload X154.here hx rfl (hb hby at_94) rfl rfl k) ?_
  show own_Go p.tables e below _ (T154.setTop (mkF m 96 #[.val (.int p1), .val (.ref a1), .val (.ref b144), .val (.int ((((((own_by (own_us p1 24)) &&& (255 : Int32)) <<< ((24 : Int32) &&& 31)) ||| (((own_by (own_us p1 16)) &&& (255 : Int32)) <<< ((16 : Int32) &&& 31))) ||| (((own_by (own_us p1 8)) &&& (255 : Int32)) <<< ((8 : Int32) &&& 31))) ||| ((own_by p1) &&& (255 : Int32)))), .val (.ref b154)] [(.ref b154)]))
  refine own_go (fun _ k => XS.aloadN X154.here hx rfl (hb hby at_96) rfl rfl k) ?_
  show own_Go p.tables e below _ (T154.setTop (mkF m 97 #[.val (.int p1), .val (.ref a1), .val (.ref b144), .val (.int ((((((own_by (own_us p1 24)) &&& (255 : Int32)) <<< ((24 : Int32) &&& 31)) ||| (((own_by (own_us p1 16)) &&& (255 : Int32)) <<< ((16 : Int32) &&& 31))) ||| (((own_by (own_us p1 8)) &&& (255 : Int32)) <<< ((8 : Int32) &&& 31))) ||| ((own_by p1) &&& (255 : Int32)))), .val (.ref b154)] [(.ref b144), (.ref b154)]))
  refine own_go (fun _ k => XT.acmpNo X154.here hx rfl (hb hby at_97) rfl rfl rfl (XT.aa_eq_f (fun q => (Ne.symm ne160) (Value.ref.inj q))) k) ?_
  show own_Go p.tables e below _ (T154.setTop (mkF m 100 #[.val (.int p1), .val (.ref a1), .val (.ref b144), .val (.int ((((((own_by (own_us p1 24)) &&& (255 : Int32)) <<< ((24 : Int32) &&& 31)) ||| (((own_by (own_us p1 16)) &&& (255 : Int32)) <<< ((16 : Int32) &&& 31))) ||| (((own_by (own_us p1 8)) &&& (255 : Int32)) <<< ((8 : Int32) &&& 31))) ||| ((own_by p1) &&& (255 : Int32)))), .val (.ref b154)] []))
  refine own_go (fun _ k => XS.aload X154.here hx rfl (hb hby at_100) rfl rfl k) ?_
  show own_Go p.tables e below _ (T154.setTop (mkF m 102 #[.val (.int p1), .val (.ref a1), .val (.ref b144), .val (.int ((((((own_by (own_us p1 24)) &&& (255 : Int32)) <<< ((24 : Int32) &&& 31)) ||| (((own_by (own_us p1 16)) &&& (255 : Int32)) <<< ((16 : Int32) &&& 31))) ||| (((own_by (own_us p1 8)) &&& (255 : Int32)) <<< ((8 : Int32) &&& 31))) ||| ((own_by p1) &&& (255 : Int32)))), .val (.ref b154)] [(.ref b154)]))
  refine own_alen X154 hx hZ rfl V154 (4 : Int32) (by decide) (hb hby at_102) ?_
  show own_Go p.tables e below _ (T154.setTop (mkF m 103 #[.val (.int p1), .val (.ref a1), .val (.ref b144), .val (.int ((((((own_by (own_us p1 24)) &&& (255 : Int32)) <<< ((24 : Int32) &&& 31)) ||| (((own_by (own_us p1 16)) &&& (255 : Int32)) <<< ((16 : Int32) &&& 31))) ||| (((own_by (own_us p1 8)) &&& (255 : Int32)) <<< ((8 : Int32) &&& 31))) ||| ((own_by p1) &&& (255 : Int32)))), .val (.ref b154)] [(.int (4 : Int32))]))
  refine own_go (fun _ k => XS.iconst X154.here hx rfl (hb hby at_103) k) ?_
  show own_Go p.tables e below _ (T154.setTop (mkF m 104 #[.val (.int p1), .val (.ref a1), .val (.ref b144), .val (.int ((((((own_by (own_us p1 24)) &&& (255 : Int32)) <<< ((24 : Int32) &&& 31)) ||| (((own_by (own_us p1 16)) &&& (255 : Int32)) <<< ((16 : Int32) &&& 31))) ||| (((own_by (own_us p1 8)) &&& (255 : Int32)) <<< ((8 : Int32) &&& 31))) ||| ((own_by p1) &&& (255 : Int32)))), .val (.ref b154)] [(.int (4 : Int32)), (.int (4 : Int32))]))
  refine own_go (fun _ k => XS.icmpYes X154.here hx rfl (pc0 := 104) (pc' := 109) rfl (hb hby at_104) rfl (XT.ii_eq_t (rfl)) (by decide) (by decide) k) ?_
  show own_Go p.tables e below _ (T154.setTop (mkF m 109 #[.val (.int p1), .val (.ref a1), .val (.ref b144), .val (.int ((((((own_by (own_us p1 24)) &&& (255 : Int32)) <<< ((24 : Int32) &&& 31)) ||| (((own_by (own_us p1 16)) &&& (255 : Int32)) <<< ((16 : Int32) &&& 31))) ||| (((own_by (own_us p1 8)) &&& (255 : Int32)) <<< ((8 : Int32) &&& 31))) ||| ((own_by p1) &&& (255 : Int32)))), .val (.ref b154)] []))
  refine own_go (fun _ k => XS.aload X154.here hx rfl (hb hby at_109) rfl rfl k) ?_
  show own_Go p.tables e below _ (T154.setTop (mkF m 111 #[.val (.int p1), .val (.ref a1), .val (.ref b144), .val (.int ((((((own_by (own_us p1 24)) &&& (255 : Int32)) <<< ((24 : Int32) &&& 31)) ||| (((own_by (own_us p1 16)) &&& (255 : Int32)) <<< ((16 : Int32) &&& 31))) ||| (((own_by (own_us p1 8)) &&& (255 : Int32)) <<< ((8 : Int32) &&& 31))) ||| ((own_by p1) &&& (255 : Int32)))), .val (.ref b154)] [(.ref b154)]))
  refine own_go (fun _ k => XS.iconst X154.here hx rfl (hb hby at_111) k) ?_
  show own_Go p.tables e below _ (T154.setTop (mkF m 112 #[.val (.int p1), .val (.ref a1), .val (.ref b144), .val (.int ((((((own_by (own_us p1 24)) &&& (255 : Int32)) <<< ((24 : Int32) &&& 31)) ||| (((own_by (own_us p1 16)) &&& (255 : Int32)) <<< ((16 : Int32) &&& 31))) ||| (((own_by (own_us p1 8)) &&& (255 : Int32)) <<< ((8 : Int32) &&& 31))) ||| ((own_by p1) &&& (255 : Int32)))), .val (.ref b154)] [(.int (0 : Int32)), (.ref b154)]))
  refine own_bald X154 hx hZ rfl V154 0 (by decide) (by decide) (by decide) (w := .int (own_by (own_us p1 24))) rfl (hb hby at_112) ?_
  show own_Go p.tables e below _ (T154.setTop (mkF m 113 #[.val (.int p1), .val (.ref a1), .val (.ref b144), .val (.int ((((((own_by (own_us p1 24)) &&& (255 : Int32)) <<< ((24 : Int32) &&& 31)) ||| (((own_by (own_us p1 16)) &&& (255 : Int32)) <<< ((16 : Int32) &&& 31))) ||| (((own_by (own_us p1 8)) &&& (255 : Int32)) <<< ((8 : Int32) &&& 31))) ||| ((own_by p1) &&& (255 : Int32)))), .val (.ref b154)] [(.int (own_by (own_us p1 24)))]))
  refine own_go (fun _ k => XS.iloadN X154.here hx rfl (hb hby at_113) rfl k) ?_
  show own_Go p.tables e below _ (T154.setTop (mkF m 114 #[.val (.int p1), .val (.ref a1), .val (.ref b144), .val (.int ((((((own_by (own_us p1 24)) &&& (255 : Int32)) <<< ((24 : Int32) &&& 31)) ||| (((own_by (own_us p1 16)) &&& (255 : Int32)) <<< ((16 : Int32) &&& 31))) ||| (((own_by (own_us p1 8)) &&& (255 : Int32)) <<< ((8 : Int32) &&& 31))) ||| ((own_by p1) &&& (255 : Int32)))), .val (.ref b154)] [(.int p1), (.int (own_by (own_us p1 24)))]))
  refine own_go (fun _ k => XS.bipush X154.here hx rfl (hb hby at_114) k) ?_
  show own_Go p.tables e below _ (T154.setTop (mkF m 116 #[.val (.int p1), .val (.ref a1), .val (.ref b144), .val (.int ((((((own_by (own_us p1 24)) &&& (255 : Int32)) <<< ((24 : Int32) &&& 31)) ||| (((own_by (own_us p1 16)) &&& (255 : Int32)) <<< ((16 : Int32) &&& 31))) ||| (((own_by (own_us p1 8)) &&& (255 : Int32)) <<< ((8 : Int32) &&& 31))) ||| ((own_by p1) &&& (255 : Int32)))), .val (.ref b154)] [(.int (24 : Int32)), (.int p1), (.int (own_by (own_us p1 24)))]))
  refine own_go (fun _ k => XS.iushr X154.here hx rfl (hb hby at_116) rfl k) ?_
  show own_Go p.tables e below _ (T154.setTop (mkF m 117 #[.val (.int p1), .val (.ref a1), .val (.ref b144), .val (.int ((((((own_by (own_us p1 24)) &&& (255 : Int32)) <<< ((24 : Int32) &&& 31)) ||| (((own_by (own_us p1 16)) &&& (255 : Int32)) <<< ((16 : Int32) &&& 31))) ||| (((own_by (own_us p1 8)) &&& (255 : Int32)) <<< ((8 : Int32) &&& 31))) ||| ((own_by p1) &&& (255 : Int32)))), .val (.ref b154)] [(.int ((p1.toUInt32 >>> ((24 : Int32) &&& 31).toUInt32).toInt32)), (.int (own_by (own_us p1 24)))]))
  refine own_go (fun _ k => XS.i2b X154.here hx rfl (hb hby at_117) rfl k) ?_
  show own_Go p.tables e below _ (T154.setTop (mkF m 118 #[.val (.int p1), .val (.ref a1), .val (.ref b144), .val (.int ((((((own_by (own_us p1 24)) &&& (255 : Int32)) <<< ((24 : Int32) &&& 31)) ||| (((own_by (own_us p1 16)) &&& (255 : Int32)) <<< ((16 : Int32) &&& 31))) ||| (((own_by (own_us p1 8)) &&& (255 : Int32)) <<< ((8 : Int32) &&& 31))) ||| ((own_by p1) &&& (255 : Int32)))), .val (.ref b154)] [(.int (((p1.toUInt32 >>> ((24 : Int32) &&& 31).toUInt32).toInt32).toInt8.toInt32)), (.int (own_by (own_us p1 24)))]))
  refine own_go (fun _ k => XS.icmpNo X154.here hx rfl (hb hby at_118) rfl (XT.ii_ne_f (own_by1 (own_us p1 24))) k) ?_
  show own_Go p.tables e below _ (T154.setTop (mkF m 121 #[.val (.int p1), .val (.ref a1), .val (.ref b144), .val (.int ((((((own_by (own_us p1 24)) &&& (255 : Int32)) <<< ((24 : Int32) &&& 31)) ||| (((own_by (own_us p1 16)) &&& (255 : Int32)) <<< ((16 : Int32) &&& 31))) ||| (((own_by (own_us p1 8)) &&& (255 : Int32)) <<< ((8 : Int32) &&& 31))) ||| ((own_by p1) &&& (255 : Int32)))), .val (.ref b154)] []))
  refine own_go (fun _ k => XS.iconst X154.here hx rfl (hb hby at_121) k) ?_
  show own_Go p.tables e below _ (T154.setTop (mkF m 122 #[.val (.int p1), .val (.ref a1), .val (.ref b144), .val (.int ((((((own_by (own_us p1 24)) &&& (255 : Int32)) <<< ((24 : Int32) &&& 31)) ||| (((own_by (own_us p1 16)) &&& (255 : Int32)) <<< ((16 : Int32) &&& 31))) ||| (((own_by (own_us p1 8)) &&& (255 : Int32)) <<< ((8 : Int32) &&& 31))) ||| ((own_by p1) &&& (255 : Int32)))), .val (.ref b154)] [(.int (1 : Int32))]))
  refine own_go (fun _ k => XS.goto X154.here hx rfl (pc0 := 122) (pc' := 126) rfl (hb hby at_122) (by decide) (by decide) k) ?_
  show own_Go p.tables e below _ (T154.setTop (mkF m 126 #[.val (.int p1), .val (.ref a1), .val (.ref b144), .val (.int ((((((own_by (own_us p1 24)) &&& (255 : Int32)) <<< ((24 : Int32) &&& 31)) ||| (((own_by (own_us p1 16)) &&& (255 : Int32)) <<< ((16 : Int32) &&& 31))) ||| (((own_by (own_us p1 8)) &&& (255 : Int32)) <<< ((8 : Int32) &&& 31))) ||| ((own_by p1) &&& (255 : Int32)))), .val (.ref b154)] [(.int (1 : Int32))]))
  exact own_retI X154 hx hlk hret (by simp) rfl (hb hby at_126) (⟨rfl, NA154⟩) (by decide) (by decide)
set_option maxRecDepth 65536 in
set_option maxHeartbeats 40000000 in
theorem own_comes {Post : Tables → Env → Array Value → State → Outcome → State → Prop} (hpost : ∀ tb e args s v u, (limb_1_1.after args s (.returned v) u = true ∧ limb_1_2.after args s (.returned v) u = true) → FrameEnd s (.returned v) u (Jvm.fieldLocs frame_1_writes args s ++ Jvm.arrayLocs frame_1_arrays args s ++ Jvm.staticLocs frame_1_statics s) 16 128 → Post tb e args s (.returned v) u) :
    ArmFor flags0 classFile x code maxLocals ret World_1 tables_1 room_1 Calls_1 rest_1 Pre_1 Post := by
  intro l hfl _ _ p e ha hc hk s m args below hf hA hF happ hP
  obtain ⟨hcalls, hrest, hpre⟩ := hP
  obtain ⟨-, -, -, hnamed, -, -, -, hat⟩ := (Spec.applies_iff hf).mp happ
  obtain ⟨hg, hn⟩ := and_e (Cond.before_iff.mp (show (Jvm.Cond.and given_1 narrow_1).before args s = true from hpre))
  obtain ⟨g0, g1⟩ := and_e hg
  have i0 := g1
  obtain ⟨w0, rfl⟩ : ∃ w0 : Value, args = #[w0] := by
    have hs : args.size = 1 := by simpa [Cond.value, given_1] using g0
    obtain ⟨L⟩ := args
    match L, hs with
    | [w0], _ => exact ⟨w0, rfl⟩
  have hw := fun d (hd : d ∈ tables_1) => atoms_spec (ws := Jvm.Cond.code x code maxLocals ret :: tables_1) hat d (List.mem_cons_of_mem _ hd)
  have hfit : Fit s := fun {y c} hc i hi => by
    obtain ⟨ha, rfl⟩ := Array.getElem?_eq_some_iff.mp hc
    have q := List.all_eq_true.mp ((Array.all_eq_true_iff_forall_mem.mp hF) _ (Array.getElem_mem ha)) i (List.mem_range.mpr hi)
    simpa [Array.getElem?_eq_getElem hi] using q
  obtain ⟨z0, ez0⟩ := is_v i0
  obtain rfl : w0 = (.int z0) := Option.some.inj ez0
  obtain ⟨n, o, h1, h2, h3, _, L, rfl, ⟨rfl, N⟩, hq⟩ := own_rm0 l s _ hw tables_1 z0 s.heap s.heap.size (Nat.le_refl _) p e ha hc hk s m _ below hf ((Spec.applies_iff_loose hf).mp happ).1 ⟨rfl, State.Warmed39.refl s, rfl⟩ trivial
  refine ⟨n, _, h1, h2, h3, hpost _ _ _ _ _ _ ⟨Cond.after_iff.mpr rfl, Cond.after_iff.mpr (eq_i res_at (Term.int_eval (1)) rfl)⟩ ⟨hq.1, hq.2.1, (hq.2.2.sift fun y hy => Or.inr (N y hy)).mono (by decide) (by decide)⟩⟩
theorem main_1_1 : Claimed_1_1 := own_comes fun _ _ _ _ _ _ h hF => ⟨h.1, hF⟩
theorem main_1_2 : Claimed_1_2 := own_comes fun _ _ _ _ _ _ h hF => ⟨h.2, hF⟩
end Jvm.Pilot.@@N@@
namespace Jvm.Pilot.@@N@@
open Jvm Jvm.ClassFile Sem Op Lib Jvm.Free Jvm.Stand Jvm.Pilot.@@N@@.Jvm.D
/-! MADE BY PROGRAM (witnessworld.py) out of the Statement's table words and the real class files: 11 classes; the members and pool entries that the words name. The judged class is class 1, her method 1. -/
namespace start1
open Jvm.ClassFile
def u (s : String) : CpInfo := .utf8 (stringToUtf16 s)
/-- a pool by its gaps: so many unusable entries, then the entry; so many at the end -/
def gap : Nat → List CpInfo → List CpInfo
  | 0, r => r
  | n + 1, r => .unusable :: gap n r
def poolList (es : List (Nat × CpInfo)) (last : Nat) : List CpInfo := es.foldr (fun e r => gap e.1 (e.2 :: r)) (gap last [])
def pool (es : List (Nat × CpInfo)) (last : Nat) : Array CpInfo := ⟨poolList es last⟩
def fileOf (pool : Array CpInfo) (this : Nat) (attrs : Array Attribute := #[]) (ms : Array MethodInfo := #[]) (fl : Nat := 33) (sup : Nat := 0) (ifs : Array Nat := #[]) (fds : Array FieldInfo := #[]) : ClassFile where
  minorVersion := 0
  majorVersion := 65
  constantPool := pool
  accessFlags := fl
  thisClass := this
  superClass := sup
  interfaces := ifs
  fields := fds
  methods := ms
  attributes := attrs
def plain (name : String) (sup : Option ClassId) : Class where
  name := name
  kind := .ordinary
  loader := none
  accessFlags := 33
  super := sup
  interfaces := #[]
  cf := none
  fields := #[]
  methods := #[]
  instanceTypes := #[]
  staticTypes := #[]
  resolved := #[]
  callSites := []
  init := .initialized
  statics := none
  mirror := none

def pool0 : Array CpInfo := pool [(5, u "<init>"), (0, u "()V"), (1, .class_ 10), (1, u "java/lang/Object")] 113

def k0c0 : Code := { maxStack := 0, maxLocals := 1, code := object_method_1_code, exceptionTable := #[], attributes := #[] }
def k0m0 : Method := { name := "<init>", desc := "()V", sig := { parameters := [], returnType := none }, accessFlags := 1, code := some k0c0 }
/-- java/lang/Object -/
def k0 : Class := { plain "java/lang/Object" none with
  accessFlags := 33
  interfaces := #[]
  cf := some (fileOf pool0 8 #[] #[{ accessFlags := 1, nameIndex := 5, descriptorIndex := 6, attributes := #[] }] 33 0 #[] #[])
  fields := #[]
  methods := #[k0m0]
  instanceTypes := #[]
  staticTypes := #[]
  resolved := Array.replicate 124 none
  statics := none }

def pool1 : Array CpInfo := pool [(2, .class_ 4), (1, u "java/lang/Object"), (0, u "<init>"), (0, u "()V"), (0, .class_ 8), (0, u "com/example/handover/handover/model/Ipv4Address"), (0, .methodref 7 10), (0, .nameAndType 5 11), (0, u "(I)V"), (0, .methodref 7 13), (0, .nameAndType 14 15), (0, u "toBytes"), (0, u "()[B"), (0, .class_ 17), (0, u "com/example/handover/handover/model/Ipv4AddressToBytesPinLaw"), (2, u "law"), (0, u "(I)Z")] 5

def k1m0 : Method := { name := "<init>", desc := "()V", sig := { parameters := [], returnType := none }, accessFlags := 1, code := none }
def k1c1 : Code := { maxStack := 4, maxLocals := 5, code := code, exceptionTable := #[], attributes := #[] }
def k1m1 : Method := { name := "law", desc := "(I)Z", sig := { parameters := [.int], returnType := some .boolean }, accessFlags := 9, code := some k1c1 }
/-- com/example/handover/handover/model/Ipv4AddressToBytesPinLaw -/
def k1 : Class := { plain "com/example/handover/handover/model/Ipv4AddressToBytesPinLaw" (some 0) with
  accessFlags := 49
  interfaces := #[]
  cf := some (fileOf pool1 16 #[] #[{ accessFlags := 1, nameIndex := 5, descriptorIndex := 6, attributes := #[] }, { accessFlags := 9, nameIndex := 20, descriptorIndex := 21, attributes := #[] }] 49 2 #[] #[])
  fields := #[]
  methods := #[k1m0, k1m1]
  instanceTypes := #[]
  staticTypes := #[]
  resolved := Array.replicate 27 none
  statics := none }

def pool2 : Array CpInfo := pool [(1, .methodref 2 3), (0, .class_ 4), (0, .nameAndType 5 6), (0, u "java/lang/Object"), (0, u "<init>"), (0, u "()V"), (0, .class_ 8), (0, u "java/lang/Record")] 13

def k2c0 : Code := { maxStack := 1, maxLocals := 1, code := jdk_30_method_1_code, exceptionTable := #[], attributes := #[] }
def k2m0 : Method := { name := "<init>", desc := "()V", sig := { parameters := [], returnType := none }, accessFlags := 4, code := some k2c0 }
/-- java/lang/Record -/
def k2 : Class := { plain "java/lang/Record" (some 0) with
  accessFlags := 1057
  interfaces := #[]
  cf := some (fileOf pool2 7 #[] #[{ accessFlags := 4, nameIndex := 5, descriptorIndex := 6, attributes := #[] }] 1057 2 #[] #[])
  fields := #[]
  methods := #[k2m0]
  instanceTypes := #[]
  staticTypes := #[]
  resolved := Array.replicate 22 none
  statics := none }

def pool3 : Array CpInfo := pool [(1, .class_ 2), (0, u "java/lang/Comparable"), (0, .class_ 4), (0, u "java/lang/Object")] 7

/-- java/lang/Comparable -/
def k3 : Class := { plain "java/lang/Comparable" (some 0) with
  accessFlags := 1537
  interfaces := #[]
  cf := some (fileOf pool3 1 #[] #[] 1537 3 #[] #[])
  fields := #[]
  methods := #[]
  instanceTypes := #[]
  staticTypes := #[]
  resolved := Array.replicate 12 none
  statics := none }

def pool4 : Array CpInfo := pool [(1, .methodref 2 3), (0, .class_ 4), (0, .nameAndType 5 6), (0, u "java/lang/Record"), (0, u "<init>"), (0, u "()V"), (0, .fieldref 8 9), (0, .class_ 10), (0, .nameAndType 11 12), (0, u "com/example/handover/handover/model/Ipv4Address"), (0, u "bits"), (0, u "I"), (20, u "(I)V"), (68, .class_ 103), (0, u "java/lang/Comparable"), (8, u "toBytes"), (0, u "()[B")] 44

def k4c0 : Code := { maxStack := 2, maxLocals := 2, code := prog_37_method_1_code, exceptionTable := #[], attributes := #[] }
def k4m0 : Method := { name := "<init>", desc := "(I)V", sig := { parameters := [.int], returnType := none }, accessFlags := 1, code := some k4c0 }
def k4c1 : Code := { maxStack := 5, maxLocals := 1, code := prog_37_method_5_code, exceptionTable := #[], attributes := #[] }
def k4m1 : Method := { name := "toBytes", desc := "()[B", sig := { parameters := [], returnType := some (.array .byte) }, accessFlags := 1, code := some k4c1 }
/-- com/example/handover/handover/model/Ipv4Address -/
def k4 : Class := { plain "com/example/handover/handover/model/Ipv4Address" (some 2) with
  accessFlags := 49
  interfaces := #[3]
  cf := some (fileOf pool4 8 #[] #[{ accessFlags := 1, nameIndex := 5, descriptorIndex := 33, attributes := #[] }, { accessFlags := 1, nameIndex := 112, descriptorIndex := 113, attributes := #[] }] 49 2 #[102] #[{ accessFlags := 18, nameIndex := 11, descriptorIndex := 12, attributes := #[] }])
  fields := #[{ name := "bits", type := .int, accessFlags := 18, slot := 0, constantValue := 0 }]
  methods := #[k4m0, k4m1]
  instanceTypes := #[.int]
  staticTypes := #[]
  resolved := Array.replicate 158 none
  statics := none }

def pool5 : Array CpInfo := pool [(1, u "java/lang/Cloneable"), (0, .class_ 1), (0, u "java/lang/Object"), (0, .class_ 3)] 3

/-- java/lang/Cloneable -/
def k5 : Class := { plain "java/lang/Cloneable" (some 0) with
  accessFlags := 1537
  interfaces := #[]
  cf := some (fileOf pool5 2 #[] #[] 1537 4 #[] #[])
  fields := #[]
  methods := #[]
  instanceTypes := #[]
  staticTypes := #[]
  resolved := Array.replicate 8 none
  statics := none }

def pool6 : Array CpInfo := pool [(1, u "java/io/Serializable"), (0, .class_ 1), (0, u "java/lang/Object"), (0, .class_ 3)] 3

/-- java/io/Serializable -/
def k6 : Class := { plain "java/io/Serializable" (some 0) with
  accessFlags := 1537
  interfaces := #[]
  cf := some (fileOf pool6 2 #[] #[] 1537 4 #[] #[])
  fields := #[]
  methods := #[]
  instanceTypes := #[]
  staticTypes := #[]
  resolved := Array.replicate 8 none
  statics := none }

/-- the primitive byte -/
def k7 : Class := { plain "byte" none with kind := .primitive 'B', accessFlags := 0x411 }
/-- [B -/
def k8 : Class := { plain "[B" (some 0) with kind := .array 7 .byte, interfaces := #[5, 6], accessFlags := 1041 }

/-- the primitive int -/
def k9 : Class := { plain "int" none with kind := .primitive 'I', accessFlags := 0x411 }
/-- [I -/
def k10 : Class := { plain "[I" (some 0) with kind := .array 9 .int, interfaces := #[5, 6], accessFlags := 1041 }

def heap : Heap := #[]
def classes : Array Class := #[k0, k1, k2, k3, k4, k5, k6, k7, k8, k9, k10]
def interned : List (Array UInt16 × Addr) := []
def slotsUsed : Nat := 0
def theMethod : MethodId := ⟨1, 1⟩
def args0 : Array Value := #[.int 5]
def aboutOver (below : List Frame) : State where
  vm := { classes := classes, interned := interned.toArray }
  heap := heap
  slotsUsed := slotsUsed
  threads := #[{ frames := .invoking theMethod args0 :: below }]
def below0 : List Frame := [.native { method := ⟨0, 0⟩, args := #[] }]
def about1 : State := aboutOver below0
def p0 : Program := .bare "" "" ""
def e0 : Env := launch0.env 0 0 0
theorem w_frames : about1.frames = Frame.invoking theMethod args0 :: below0 := rfl
set_option maxRecDepth 65536 in
theorem w_args : argsFit about1.vm theMethod args0 = true := by decide +kernel
set_option maxRecDepth 65536 in
theorem w_heap : heapFits about1 = true := by decide +kernel
set_option maxRecDepth 65536 in
theorem w_runnable : about1.curStatus? = some .runnable := by decide +kernel
set_option maxRecDepth 65536 in
theorem w_alone : about1.alone = true := by decide +kernel
set_option maxRecDepth 65536 in
theorem w_named : about1.methodNamed? x = some theMethod := by decide +kernel
set_option maxRecDepth 65536 in
theorem w_hears : about1.hears theMethod below0 = true := by decide +kernel
set_option maxRecDepth 65536 in
theorem w_ripe : about1.ripe theMethod args0 below0 = true := by decide +kernel
theorem w_running : about1.status = .running := rfl
set_option maxRecDepth 65536 in
theorem w_room : about1.hasRoom e0.platform room_1 = true :=
  launch0.hasRoom_least _ room_1 (by decide +kernel) (by decide +kernel) (by decide +kernel) (by decide +kernel) (by decide +kernel) (by decide +kernel)
theorem allAtoms_all (ts : List Jvm.Cond) (a : Array Jvm.Value) (st : Jvm.State) : (allAtoms ts).before a st = ts.all (fun c => c.before a st) := by
  induction ts with
  | nil => rfl
  | cons c t ih =>
    show (Jvm.Cond.and c (allAtoms t)).before a st = _
    rw [Jvm.Cond.before_and, ih, List.all_cons]
def words1 : List Jvm.Cond := Jvm.Cond.code x code maxLocals ret :: tables_1
/-- a 'code' word, met by the world's own term for the bytes: nothing is compared byte by byte -/
theorem code_word {y : MethodName} {bytes : ByteArray} {mx : Nat} {rt : Option FieldType} {a : Array Value} {s : State} {m : MethodId} {meth : Method} {c : Code} (h1 : s.methodNamed? y = some m) (h2 : s.vm.method? m = some meth) (h3 : meth.code = some c) (h4 : c.code = bytes)
    (h5 : (c.maxLocals == mx && c.exceptionTable.isEmpty && decide (c.maxStack ≤ mostOperands) && decide (meth.sig.returnType = rt) && !meth.locks && decide (parseMethodDescriptor y.desc = some meth.sig)) = true) : (Jvm.Cond.code y bytes mx rt).before a s = true := by
  simp only [Bool.and_eq_true, beq_iff_eq, Bool.not_eq_true', decide_eq_true_eq] at h5
  obtain ⟨⟨⟨⟨⟨g1, g2⟩, g3⟩, g4⟩, g5⟩, g6⟩ := h5
  simp [Cond.before, Cond.holds, Cond.value, h1, h2, h3, h4, g1, g2, g3, g4, g5, g6]
def isCode : Jvm.Cond → Bool
  | .code _ _ _ _ => true
  | _ => false
theorem all_split {L : List Jvm.Cond} {P : Jvm.Cond → Bool} (h1 : L.all (fun c => isCode c || P c) = true) (h2 : ∀ c ∈ L.filter isCode, P c = true) : L.all P = true := by
  refine List.all_eq_true.mpr fun c hc => ?_
  have h := List.all_eq_true.mp h1 c hc
  rcases Bool.eq_false_or_eq_true (isCode c) with hi | hi
  · exact h2 c (List.mem_filter.mpr ⟨hc, hi⟩)
  · simpa [hi] using h
set_option maxRecDepth 65536 in
theorem w_c0 : (Jvm.Cond.code x code maxLocals ret).before args0 about1 = true := code_word (m := ⟨1, 1⟩) (meth := k1m1) (c := k1c1) (by decide +kernel) rfl rfl rfl (by decide +kernel)
set_option maxRecDepth 65536 in
theorem w_c1 : (Jvm.Cond.code ({ cls := "com/example/handover/handover/model/Ipv4Address", name := "<init>", desc := "(I)V" } : Jvm.MethodName) prog_37_method_1_code (2 : Nat) (Option.none : Option Jvm.ClassFile.FieldType)).before args0 about1 = true := code_word (m := ⟨4, 0⟩) (meth := k4m0) (c := k4c0) (by decide +kernel) rfl rfl rfl (by decide +kernel)
set_option maxRecDepth 65536 in
theorem w_c2 : (Jvm.Cond.code ({ cls := "java/lang/Record", name := "<init>", desc := "()V" } : Jvm.MethodName) jdk_30_method_1_code (1 : Nat) (Option.none : Option Jvm.ClassFile.FieldType)).before args0 about1 = true := code_word (m := ⟨2, 0⟩) (meth := k2m0) (c := k2c0) (by decide +kernel) rfl rfl rfl (by decide +kernel)
set_option maxRecDepth 65536 in
theorem w_c3 : (Jvm.Cond.code ({ cls := "java/lang/Object", name := "<init>", desc := "()V" } : Jvm.MethodName) object_method_1_code (1 : Nat) (Option.none : Option Jvm.ClassFile.FieldType)).before args0 about1 = true := code_word (m := ⟨0, 0⟩) (meth := k0m0) (c := k0c0) (by decide +kernel) rfl rfl rfl (by decide +kernel)
set_option maxRecDepth 65536 in
theorem w_c4 : (Jvm.Cond.code ({ cls := "com/example/handover/handover/model/Ipv4Address", name := "toBytes", desc := "()[B" } : Jvm.MethodName) prog_37_method_5_code (1 : Nat) (Option.some (Jvm.ClassFile.FieldType.array Jvm.ClassFile.FieldType.byte))).before args0 about1 = true := code_word (m := ⟨4, 1⟩) (meth := k4m1) (c := k4c1) (by decide +kernel) rfl rfl rfl (by decide +kernel)
def codes1 : List Jvm.Cond := [Jvm.Cond.code x code maxLocals ret, Jvm.Cond.code ({ cls := "com/example/handover/handover/model/Ipv4Address", name := "<init>", desc := "(I)V" } : Jvm.MethodName) prog_37_method_1_code (2 : Nat) (Option.none : Option Jvm.ClassFile.FieldType), Jvm.Cond.code ({ cls := "java/lang/Record", name := "<init>", desc := "()V" } : Jvm.MethodName) jdk_30_method_1_code (1 : Nat) (Option.none : Option Jvm.ClassFile.FieldType), Jvm.Cond.code ({ cls := "java/lang/Object", name := "<init>", desc := "()V" } : Jvm.MethodName) object_method_1_code (1 : Nat) (Option.none : Option Jvm.ClassFile.FieldType), Jvm.Cond.code ({ cls := "com/example/handover/handover/model/Ipv4Address", name := "toBytes", desc := "()[B" } : Jvm.MethodName) prog_37_method_5_code (1 : Nat) (Option.some (Jvm.ClassFile.FieldType.array Jvm.ClassFile.FieldType.byte))]
set_option maxRecDepth 65536 in
theorem codes_eq : words1.filter isCode = codes1 := rfl
theorem w_codes : ∀ c ∈ words1.filter isCode, c.before args0 about1 = true := by
  rw [codes_eq]
  intro c hc
  simp only [codes1, List.mem_cons, List.not_mem_nil, or_false] at hc
  rcases hc with rfl | rfl | rfl | rfl | rfl
  · exact w_c0
  · exact w_c1
  · exact w_c2
  · exact w_c3
  · exact w_c4
set_option maxRecDepth 65536 in
theorem w_t1 : words1.all (fun c => isCode c || c.before args0 about1) = true := by decide +kernel
theorem w_tables : (allAtoms (Jvm.Cond.code x code maxLocals ret :: tables_1)).before args0 about1 = true := by
  rw [allAtoms_all]
  show words1.all (fun c => c.before args0 about1) = true
  refine all_split ?_ w_codes
  rw [w_t1]
set_option maxRecDepth 65536 in
theorem w_case : (Jvm.Cond.and given_1 narrow_1).before args0 about1 = true := by decide +kernel
theorem w_applies : (headSpec (Jvm.Cond.code x code maxLocals ret :: tables_1) room_1).applies x e0.platform about1 = true :=
  (Spec.applies_iff w_frames).mpr ⟨w_running, w_runnable, w_alone, w_named, w_hears, w_ripe, w_room, w_tables⟩
theorem atStart : AtStart classFile x code maxLocals ret World_1 tables_1 room_1 Calls_1 rest_1 Pre_1 launch0 p0 e0 about1 theMethod args0 below0 :=
  ⟨lists_1, trivial, launch0.admits_env _ _ _, launch0.least_env, fairChoices_fair.cas, fairChoices_fair.clock, w_frames, w_args, w_heap, w_applies, trivial, trivial, w_case⟩
end start1
theorem witness_1 : WitnessClaimed_1 := ⟨start1.p0, start1.e0, start1.about1, start1.theMethod, start1.args0, start1.below0, start1.atStart⟩
end Jvm.Pilot.@@N@@
