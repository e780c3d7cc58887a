import JvmDerived
import JvmDerived.Pilot.@@N@@Statement
import JvmDerived.Pilot.@@N@@Code
set_option linter.unusedVariables false
set_option linter.unusedSimpArgs false
namespace Jvm.Pilot.@@N@@
open Jvm Jvm.ClassFile Sem Op Lib Jvm.Free Jvm.Stand Jvm.LawKit Jvm.RoadKit Bundle Jvm.Pilot.@@N@@.Jvm.D

/-! own kit: the walk goes forward, from state to state, to an end that the contract names -/
section OwnKit
variable {p : Program} {l : Launch} {e : Env} {R : Room} {s : State} {m : MethodId} {args : Array Value} {below : List Frame} {meth : Method} {c : Code} {T : State} {locs : List Loc} {cells slots : Nat} {Z : State} {a0 : Array Value} {h : Heap}
def own_Go (tb : Tables) (e : Env) (below : List Frame) (F : State → Outcome → Prop) (S : State) : Prop := ∃ t o, Steps tb e below S t ∧ F t o
theorem own_go {tb : Tables} {F : State → Outcome → Prop} {S S' : State} (k : ∀ t, Steps tb e below S' t → Steps tb e below S t) (q : own_Go tb e below F S') : own_Go tb e below F S := by
  obtain ⟨t, o, a, b⟩ := q; exact ⟨t, o, k t a, b⟩
theorem own_gt {tb : Tables} {F : State → Outcome → Prop} {S S' : State} (k : Steps tb e below S S') (q : own_Go tb e below F S') : own_Go tb e below F S := own_go (fun _ r => k.trans r) q
def own_Fin (s : State) (below : List Frame) (Q : Option Value → Heap → List Loc → Prop) (nc ns : Nat) (t : State) (o : Outcome) : Prop :=
  t.status = .running ∧ Ended t below o ∧ ∃ v L, o = .returned v ∧ Q v t.heap L ∧ FrameEnd s o t L nc ns
def own_Met (l : Launch) (y : MethodName) (ws : List Jvm.Cond) (rm : Room) (Z : State) (h : Heap) (as : Array Value) (Q : Option Value → Heap → List Loc → Prop) : Prop :=
  MetFree l y (head1 ws rm) (fun a U => a = as ∧ Z.Warmed39 U.vm ∧ U.heap = h) (fun _ _ _ _ _ => True) (fun _ U o U' => ∃ v L, o = .returned v ∧ Q v U'.heap L ∧ FrameEnd U o U' L rm.cells rm.slots)
theorem own_body {y : MethodName} {bytes : ByteArray} {mx : Nat} {rt : Option FieldType} {rm : Room} {ws : List Jvm.Cond} {as : Array Value} {Q : Option Value → Heap → List Loc → Prop} (pn : plainName y.cls = true)
    (H : ∀ (p : Program) (e : Env) (s : State) (m : MethodId) (below : List Frame) (meth : Method) (c : Code) (s₁ : State), p.tables.exec = Jvm.exec → c.code = bytes → c.maxLocals = mx → s.vm.findClass y.cls = some m.cls → meth.name = y.name → meth.sig.returnType = rt → meth.locks = false → Z.Warmed39 s.vm →
      Stand p l e rm s m as below meth c s₁ [] 0 0 → s₁.heap = h → own_Go p.tables e below (own_Fin s below Q rm.cells rm.slots) (s₁.setTop (entryFrame m as mx))) :
    own_Met l y (Jvm.Cond.code y bytes mx rt :: ws) rm Z h as Q := by
  refine MetFree.of_bodySF (plainFor_of_name pn) hisR ?_
  intro p e s m args below meth c s₁ Bd hml hP hK
  obtain ⟨rfl, hZ, hh⟩ := hP
  exact H p e s m below meth c s₁ Bd.exec Bd.bytes hml (findClass_of_methodNamed Bd.named) (name_of_methodNamed Bd.named Bd.method).1 Bd.returns Bd.notSynchronized hZ (Stand.of_body Bd) (by rw [← hh, Bd.state]; rfl)
theorem own_end (X : Stand p l e R s m args below meth c T locs cells slots) {v : Option Value} {g : JFrame} {Q : Option Value → Heap → List Loc → Prop} {nc ns : Nat} (hlk : meth.locks = false) (hv : meth.sig.returnType = none → v = none)
    (st : ∀ fs, (∀ (f : JFrame) (acts : List Action), f.method = m → f.locked = none → f.entered = [] → (doReturn e (T.setTop f) acts v).1 = T.setFrames fs) → Steps p.tables e below (T.setTop g) (T.setFrames fs)) (hQ : Q v T.heap locs) (h1 : cells ≤ nc) (h2 : slots ≤ ns) :
    own_Go p.tables e below (own_Fin s below Q nc ns) (T.setTop g) := by
  obtain ⟨fs, hr, hrun, hended, hW, hsame⟩ := X.leave (v := v) hv hlk
  exact ⟨_, _, st fs hr, hrun, hended, _, _, rfl, hQ, ⟨_, rfl⟩, hW, hsame.mono h1 h2⟩
theorem own_retI (X : Stand p l e R s m args below meth c T locs cells slots) (hx : p.tables.exec = Jvm.exec) {pc : Nat} {Ls : Array Slot} {z : Int32} {t : FieldType} {rest : List Value} {Q : Option Value → Heap → List Loc → Prop} {nc ns : Nat} (hlk : meth.locks = false) (hret : meth.sig.returnType = some t) (ht : t = .int ∨ t = .boolean ∨ t = .byte ∨ t = .char ∨ t = .short) (hn : narrow t (.int z) = .int z)
    (hd : decode c.code pc = .ok (.ireturn, 1)) (hQ : Q (some (.int z)) T.heap locs) (h1 : cells ≤ nc) (h2 : slots ≤ ns) : own_Go p.tables e below (own_Fin s below Q nc ns) (T.setTop (mkF m pc Ls (.int z :: rest))) :=
  own_end X hlk (fun q => by rw [hret] at q; cases q) (fun fs hr => retOut X hx hret hn (Or.inl ⟨rfl, ht, _, rfl⟩) hd hr) hQ h1 h2
theorem own_retJ (X : Stand p l e R s m args below meth c T locs cells slots) (hx : p.tables.exec = Jvm.exec) {pc : Nat} {Ls : Array Slot} {z : Int64} {rest : List Value} {Q : Option Value → Heap → List Loc → Prop} {nc ns : Nat} (hlk : meth.locks = false) (hret : meth.sig.returnType = some .long)
    (hd : decode c.code pc = .ok (.lreturn, 1)) (hQ : Q (some (.long z)) T.heap locs) (h1 : cells ≤ nc) (h2 : slots ≤ ns) : own_Go p.tables e below (own_Fin s below Q nc ns) (T.setTop (mkF m pc Ls (.long z :: rest))) :=
  own_end X hlk (fun q => by rw [hret] at q; cases q) (fun fs hr => retOut X hx hret rfl (Or.inr (Or.inl ⟨rfl, rfl, _, rfl⟩)) hd hr) hQ h1 h2
theorem own_retA (X : Stand p l e R s m args below meth c T locs cells slots) (hx : p.tables.exec = Jvm.exec) {pc : Nat} {Ls : Array Slot} {w : Value} {t : FieldType} {rest : List Value} {Q : Option Value → Heap → List Loc → Prop} {nc ns : Nat} (hlk : meth.locks = false) (hret : meth.sig.returnType = some t) (ht : t.isReference = true) (hw : w.isRef = true)
    (hd : decode c.code pc = .ok (.areturn, 1)) (hQ : Q (some w) T.heap locs) (h1 : cells ≤ nc) (h2 : slots ≤ ns) : own_Go p.tables e below (own_Fin s below Q nc ns) (T.setTop (mkF m pc Ls (w :: rest))) :=
  own_end X hlk (fun q => by rw [hret] at q; cases q) (fun fs hr => retOut X hx hret (by cases t <;> first | (cases ht; done) | (cases w <;> first | rfl | cases hw)) (Or.inr (Or.inr (Or.inr (Or.inr ⟨rfl, ht, hw⟩)))) hd hr) hQ h1 h2
theorem own_retV (X : Stand p l e R s m args below meth c T locs cells slots) (hx : p.tables.exec = Jvm.exec) {pc : Nat} {Ls : Array Slot} {Q : Option Value → Heap → List Loc → Prop} {nc ns : Nat} (hlk : meth.locks = false) (hret : meth.sig.returnType = none)
    (hd : decode c.code pc = .ok (.return_, 1)) (hQ : Q none T.heap locs) (h1 : cells ≤ nc) (h2 : slots ≤ ns) : own_Go p.tables e below (own_Fin s below Q nc ns) (T.setTop (mkF m pc Ls [])) :=
  own_end X hlk (fun _ => rfl) (fun fs hr => X.returnOut hx hret hd hr) hQ h1 h2
theorem own_callS (X : Stand p l e R s m args below meth c T locs cells slots) (hx : p.tables.exec = Jvm.exec) (hZ : Z.Warmed39 s.vm) {own : String} {index : Nat} {y : MethodName} {bytes : ByteArray} {mx : Nat} {rt : Option FieldType} {rm : Room} {W pc : Nat} {Ls : Array Slot} {St argsL rest : List Value} {Q : Option Value → Heap → List Loc → Prop} {F : State → Outcome → Prop}
    (hown : s.vm.findClass own = some m.cls) (w1 : (Jvm.Cond.methodLink own index y).before a0 Z = true) (w2 : (Jvm.Cond.static y).before a0 Z = true) (w3 : (Jvm.Cond.initialized y.cls).before a0 Z = true) (w4 : (Jvm.Cond.code y bytes mx rt).before a0 Z = true)
    (hy : y.cls ≠ "java/lang/invoke/MethodHandle" ∧ y.cls ≠ "java/lang/invoke/VarHandle") (M : own_Met l y [Jvm.Cond.code y bytes mx rt] rm Z h argsL.toArray Q) (eT : T.heap = h) (hf : rm.frames + 1 ≤ R.frames) (hl : W + (mx + 11) + rm.locals ≤ R.locals) (hc : cells + rm.cells ≤ R.cells) (hs : slots + rm.slots ≤ R.slots)
    (hsz : Ls.size = c.maxLocals) (hlen : ∀ sig, parseMethodDescriptor y.desc = some sig → argsL.length = sig.parameters.length) (hst : St = argsL.reverse ++ rest) (hW : (rest.map fun v => v.category).sum ≤ W) (hd : decode c.code pc = .ok (.invokestatic index, 3))
    (K : ∀ v T' L, Stand p l e R s m args below meth c T' (locs ++ L) (cells + rm.cells) (slots + rm.slots) → Q v T'.heap L → own_Go p.tables e below F (T'.setTop (mkF m (pc + 3) Ls (v.toList ++ rest)))) :
    own_Go p.tables e below F (T.setTop (mkF m pc Ls St)) := by
  obtain ⟨v, _, ⟨T', L', k', n'⟩, -, X', ⟨L, hQ, l1, l2, l3⟩, st⟩ := Jvm.LawKit.callS X hx (y := y) hown (mvT hZ w1) (mvT hZ w2) (mvT hZ w3) (mvT hZ w4) hy (backOf (W := W) M hZ w4 w3 hf hl) (g := mkF m pc Ls St) rfl hsz (argsL := argsL) (rest := rest) hlen hst (by show 2 * 0 + _ ≤ _; rw [Nat.mul_zero, Nat.zero_add]; exact hW) hd (fun _ _ => ⟨rfl, eT, hc, hs⟩)
  dsimp only [Pt.U, Pt.locs, Pt.cells, Pt.slots] at X' l1 l2 l3 st hQ
  subst l1 l2 l3
  exact own_go st (K v T' L X' hQ)
theorem own_callV (X : Stand p l e R s m args below meth c T locs cells slots) (hx : p.tables.exec = Jvm.exec) (hZ : Z.Warmed39 s.vm) {own C : String} {index : Nat} {z : MethodName} {bytes : ByteArray} {mx : Nat} {rt : Option FieldType} {rm : Room} {W pc : Nat} {Ls : Array Slot} {a : Addr} {St argsL rest : List Value} {Q : Option Value → Heap → List Loc → Prop} {F : State → Outcome → Prop}
    (hown : s.vm.findClass own = some m.cls) (w1 : (Jvm.Cond.methodLink own index z).before a0 Z = true) (w2 : (Jvm.Cond.declares z).before a0 Z = true) (w3 : (Jvm.Cond.selects C z z).before a0 Z = true) (w4 : (Jvm.Cond.instanceMethod z).before a0 Z = true) (w5 : (Jvm.Cond.code z bytes mx rt).before a0 Z = true) (w6 : (Jvm.Cond.initialized z.cls).before a0 Z = true)
    (hy : z.cls ≠ "java/lang/invoke/MethodHandle" ∧ z.cls ≠ "java/lang/invoke/VarHandle") (E : Exa Z h a C) (M : own_Met l z [Jvm.Cond.code z bytes mx rt] rm Z h (.ref a :: argsL).toArray Q) (eT : T.heap = h) (hf : rm.frames + 1 ≤ R.frames) (hl : W + (mx + 11) + rm.locals ≤ R.locals) (hc : cells + rm.cells ≤ R.cells) (hs : slots + rm.slots ≤ R.slots)
    (hsz : Ls.size = c.maxLocals) (hlen : ∀ sig, parseMethodDescriptor z.desc = some sig → argsL.length = sig.parameters.length) (hst : St = argsL.reverse ++ .ref a :: rest) (hW : (rest.map fun v => v.category).sum ≤ W) (hd : decode c.code pc = .ok (.invokevirtual index, 3))
    (K : ∀ v T' L, Stand p l e R s m args below meth c T' (locs ++ L) (cells + rm.cells) (slots + rm.slots) → Q v T'.heap L → own_Go p.tables e below F (T'.setTop (mkF m (pc + 3) Ls (v.toList ++ rest)))) :
    own_Go p.tables e below F (T.setTop (mkF m pc Ls St)) := by
  obtain ⟨cq, kq, q1, q2, q3⟩ := isOf hZ eT E
  obtain ⟨v, _, ⟨T', L', k', n'⟩, -, X', ⟨L, hQ, l1, l2, l3⟩, st⟩ := X.virtualBack hx (y := z) (z := z) hown (mvT hZ w1) (mvT hZ w2) (notFace_of_selects (args := #[]) (mvT hZ w3)) (mvT hZ w3) (mvT hZ w4) hy (backOf (W := W) M hZ w5 w6 hf hl) q1 q3 (g := mkF m pc Ls St) rfl hsz (Steps.refl _) (argsL := argsL) (rest := rest) hlen hst (by show 2 * 0 + _ ≤ _; rw [Nat.mul_zero, Nat.zero_add]; exact hW) hd (fun _ _ => ⟨rfl, eT, hc, hs⟩)
  dsimp only [Pt.U, Pt.locs, Pt.cells, Pt.slots] at X' l1 l2 l3 st hQ
  subst l1 l2 l3
  exact own_gt st (K v T' L X' hQ)
theorem own_callI (X : Stand p l e R s m args below meth c T locs cells slots) (hx : p.tables.exec = Jvm.exec) (hZ : Z.Warmed39 s.vm) {own : String} {index : Nat} {y : MethodName} {bytes : ByteArray} {mx : Nat} {rm : Room} {W pc : Nat} {Ls : Array Slot} {a : Addr} {St argsL rest : List Value} {Q : Option Value → Heap → List Loc → Prop} {F : State → Outcome → Prop}
    (hown : s.vm.findClass own = some m.cls) (w1 : (Jvm.Cond.methodLink own index y).before a0 Z = true) (w2 : (Jvm.Cond.instanceMethod y).before a0 Z = true) (w3 : (Jvm.Cond.code y bytes mx none).before a0 Z = true) (w4 : (Jvm.Cond.initialized y.cls).before a0 Z = true) (hi : y.name = "<init>")
    (hy : y.cls ≠ "java/lang/invoke/MethodHandle" ∧ y.cls ≠ "java/lang/invoke/VarHandle") (M : own_Met l y [Jvm.Cond.code y bytes mx none] rm Z h (.ref a :: argsL).toArray Q) (eT : T.heap = h) (hf : rm.frames + 1 ≤ R.frames) (hl : W + (mx + 11) + rm.locals ≤ R.locals) (hc : cells + rm.cells ≤ R.cells) (hs : slots + rm.slots ≤ R.slots)
    (hsz : Ls.size = c.maxLocals) (hlen : ∀ sig, parseMethodDescriptor y.desc = some sig → argsL.length = sig.parameters.length) (hst : St = argsL.reverse ++ .ref a :: rest) (hW : (rest.map fun v => v.category).sum ≤ W) (hd : decode c.code pc = .ok (.invokespecial index, 3))
    (K : ∀ v T' L, Stand p l e R s m args below meth c T' (locs ++ L) (cells + rm.cells) (slots + rm.slots) → Q v T'.heap L → own_Go p.tables e below F (T'.setTop (mkF m (pc + 3) Ls (v.toList ++ rest)))) :
    own_Go p.tables e below F (T.setTop (mkF m pc Ls St)) := by
  obtain ⟨v, _, ⟨T', L', k', n'⟩, -, X', ⟨L, hQ, l1, l2, l3⟩, st⟩ := X.specialBack hx (y := y) hi hown (mvT hZ w1) (mvT hZ w2) (mvT hZ w3) hy (backOf (W := W) M hZ w3 w4 hf hl) (g := mkF m pc Ls St) rfl hsz (Steps.refl _) (a := a) (argsL := argsL) (rest := rest) hlen hst (by show 2 * 0 + _ ≤ _; rw [Nat.mul_zero, Nat.zero_add]; exact hW) hd (fun _ _ => ⟨rfl, eT, hc, hs⟩)
  dsimp only [Pt.U, Pt.locs, Pt.cells, Pt.slots] at X' l1 l2 l3 st hQ
  subst l1 l2 l3
  exact own_gt st (K v T' L X' hQ)
end OwnKit

/-! own kit 2: arrays by a function of the place -/
section OwnKit2
variable {p : Program} {l : Launch} {e : Env} {R : Room} {s : State} {m : MethodId} {args : Array Value} {below : List Frame} {meth : Method} {c : Code} {T : State} {locs : List Loc} {cells slots : Nat} {Z : State} {a0 : Array Value} {h h' : Heap} {a b : Addr} {k : ClassId} {ty : FieldType} {n i : Nat} {f f' : Nat → Value} {v : Value} {j : Int32} {pc : Nat} {Ls : Array Slot} {rest : List Value} {F : State → Outcome → Prop}
def own_Av (Z : State) (h : Heap) (a : Addr) (k : ClassId) (ty : FieldType) (n : Nat) (f : Nat → Value) : Prop := ∃ cl : Cell, Arr Z h a cl ty ∧ cl.cls = k ∧ cl.slots.size = n ∧ ∀ j, j < n → cl.slots[j]? = some (f j)
theorem own_Av.lt (V : own_Av Z h a k ty n f) : a < h.size := by obtain ⟨cl, A, -⟩ := V; exact A.lt
theorem own_Av.ext (E : Ext h h') (V : own_Av Z h a k ty n f) : own_Av Z h' a k ty n f := by obtain ⟨cl, A, r⟩ := V; exact ⟨cl, A.ext E, r⟩
theorem own_Av.other {sl : Nat} (W : Wr h h' b sl v) (V : own_Av Z h a k ty n f) (q : a ≠ b) : own_Av Z h' a k ty n f := by obtain ⟨cl, A, r⟩ := V; exact ⟨cl, A.other W q, r⟩
theorem own_Av.keep {ws : List Addr} (V : own_Av Z h a k ty n f) (K : Keep h h' ws) (q : a ∉ ws) : own_Av Z h' a k ty n f := by obtain ⟨cl, A, r⟩ := V; exact ⟨cl, ⟨K.2.1 a cl A.1 q, A.2⟩, r⟩
theorem own_Av.congr (V : own_Av Z h a k ty n f) (q : ∀ j, j < n → f j = f' j) : own_Av Z h a k ty n f' := by obtain ⟨cl, A, r1, r2, r3⟩ := V; exact ⟨cl, A, r1, r2, fun j hj => by rw [r3 j hj, q j hj]⟩
theorem own_Av.new {z : Int32} (A : Arr Z h a (newA k ty z) ty) (q : z.toNatClampNeg = n) : own_Av Z h a k ty n (fun _ => defaultValue ty) := ⟨_, A, rfl, (sz_new _ _ _).trans q, fun j hj => by simp [newA, q, hj]⟩
theorem own_Av.set (V : own_Av Z h a k ty n f) (W : Wr h h' a i v) (hi : i < n) : own_Av Z h' a k ty n (fun x => if x = i then v else f x) := by
  obtain ⟨cl, A, r1, r2, r3⟩ := V
  refine ⟨cl.setSlot i v, Arr.same W A, r1, (sz_set _ _ _).trans r2, fun x hx => ?_⟩
  by_cases q : x = i
  · subst q; show (cl.setSlot x v).slots[x]? = some (if x = x then v else f x); rw [if_pos rfl]; simp [Cell.setSlot, r2, hi]
  · show (cl.setSlot i v).slots[x]? = some (if x = i then v else f x); rw [if_neg q, ← r3 x hx]; exact Array.getElem?_setIfInBounds_ne (Ne.symm q)
theorem own_in (r : i < n) (hj : ¬ j < 0) (hi : j.toNatClampNeg = i) {cl : Cell} (S : cl.slots.size = n) : ¬ (j < 0 ∨ cl.slots.size ≤ j.toNatClampNeg) := fun q => q.elim hj fun q => by omega
theorem own_alen (X : Stand p l e R s m args below meth c T locs cells slots) (hx : p.tables.exec = Jvm.exec) (hZ : Z.Warmed39 s.vm) (eT : T.heap = h) (V : own_Av Z h a k ty n f) (z : Int32) (hz : n.toInt32 = z) (hd : decode c.code pc = .ok (.arraylength, 1))
    (q : own_Go p.tables e below F (T.setTop (mkF m (pc + 1) Ls (.int z :: rest)))) : own_Go p.tables e below F (T.setTop (mkF m pc Ls (.ref a :: rest))) := by
  obtain ⟨cl, A, r1, r2, r3⟩ := V
  subst hz r2
  exact own_go (fun t k => X.arraylength hx (by rw [eT]; exact A.1) (State.isArrayOf_alike hZ.alike A.2.1) (g := mkF m pc Ls (.ref a :: rest)) rfl rfl hd t k) q
theorem own_bald (X : Stand p l e R s m args below meth c T locs cells slots) (hx : p.tables.exec = Jvm.exec) (hZ : Z.Warmed39 s.vm) (eT : T.heap = h) (V : own_Av Z h a k .byte n f) (i : Nat) (hj : ¬ j < 0) (hi : j.toNatClampNeg = i) (r : i < n) {w : Value} (hw : f i = w) (hd : decode c.code pc = .ok (.baload, 1))
    (q : own_Go p.tables e below F (T.setTop (mkF m (pc + 1) Ls (w :: rest)))) : own_Go p.tables e below F (T.setTop (mkF m pc Ls (.int j :: .ref a :: rest))) := by
  obtain ⟨cl, A, r1, r2, r3⟩ := V
  subst hw
  exact own_go (fun t k => X.baloadBytes hx (by rw [eT]; exact A.1) (State.isArrayOf_alike hZ.alike A.2.1) A.2.2 (own_in r hj hi r2) (by rw [hi]; exact r3 i r) (g := mkF m pc Ls (.int j :: .ref a :: rest)) rfl rfl hd t k) q
theorem own_iald (X : Stand p l e R s m args below meth c T locs cells slots) (hx : p.tables.exec = Jvm.exec) (hZ : Z.Warmed39 s.vm) (eT : T.heap = h) (V : own_Av Z h a k .int n f) (i : Nat) (hj : ¬ j < 0) (hi : j.toNatClampNeg = i) (r : i < n) {w : Value} (hw : f i = w) (hd : decode c.code pc = .ok (.iaload, 1))
    (q : own_Go p.tables e below F (T.setTop (mkF m (pc + 1) Ls (w :: rest)))) : own_Go p.tables e below F (T.setTop (mkF m pc Ls (.int j :: .ref a :: rest))) := by
  obtain ⟨cl, A, r1, r2, r3⟩ := V
  subst hw
  exact own_go (fun t k => X.iaload hx (by rw [eT]; exact A.1) (State.isArrayOf_alike hZ.alike A.2.1) A.2.2 (own_in r hj hi r2) (by rw [hi]; exact r3 i r) (g := mkF m pc Ls (.int j :: .ref a :: rest)) rfl rfl hd t k) q
theorem own_lald (X : Stand p l e R s m args below meth c T locs cells slots) (hx : p.tables.exec = Jvm.exec) (hZ : Z.Warmed39 s.vm) (eT : T.heap = h) (V : own_Av Z h a k .long n f) (i : Nat) (hj : ¬ j < 0) (hi : j.toNatClampNeg = i) (r : i < n) {w : Value} (hw : f i = w) (hd : decode c.code pc = .ok (.laload, 1))
    (q : own_Go p.tables e below F (T.setTop (mkF m (pc + 1) Ls (w :: rest)))) : own_Go p.tables e below F (T.setTop (mkF m pc Ls (.int j :: .ref a :: rest))) := by
  obtain ⟨cl, A, r1, r2, r3⟩ := V
  subst hw
  exact own_go (fun t k => X.laload hx (by rw [eT]; exact A.1) (State.isArrayOf_alike hZ.alike A.2.1) A.2.2 (own_in r hj hi r2) (by rw [hi]; exact r3 i r) (g := mkF m pc Ls (.int j :: .ref a :: rest)) rfl rfl hd t k) q
theorem own_aald (X : Stand p l e R s m args below meth c T locs cells slots) (hx : p.tables.exec = Jvm.exec) (hZ : Z.Warmed39 s.vm) (eT : T.heap = h) (V : own_Av Z h a k ty n f) (hty : ty.isReference = true) (i : Nat) (hj : ¬ j < 0) (hi : j.toNatClampNeg = i) (r : i < n) {w : Value} (hw : f i = w) (hd : decode c.code pc = .ok (.aaload, 1))
    (q : own_Go p.tables e below F (T.setTop (mkF m (pc + 1) Ls (w :: rest)))) : own_Go p.tables e below F (T.setTop (mkF m pc Ls (.int j :: .ref a :: rest))) := by
  obtain ⟨cl, A, r1, r2, r3⟩ := V
  subst hw
  exact own_go (fun t k => X.aaload hx (by rw [eT]; exact A.1) (State.isArrayOf_alike hZ.alike A.2.1) hty A.2.2 (own_in r hj hi r2) (by rw [hi]; exact r3 i r) (g := mkF m pc Ls (.int j :: .ref a :: rest)) rfl rfl hd t k) q
theorem own_bast (X : Stand p l e R s m args below meth c T locs cells slots) (hx : p.tables.exec = Jvm.exec) (hZ : Z.Warmed39 s.vm) (eT : T.heap = h) (V : own_Av Z h a k .byte n f) (i : Nat) {x : Int32} (hj : ¬ j < 0) (hi : j.toNatClampNeg = i) (r : i < n) (hd : decode c.code pc = .ok (.bastore, 1))
    (q : ∀ T' h', Stand p l e R s m args below meth c T' (locs ++ [⟨a, i⟩]) cells slots → T'.heap = h' → Wr h h' a i (.int x.toInt8.toInt32) → own_Go p.tables e below F (T'.setTop (mkF m (pc + 1) Ls rest))) : own_Go p.tables e below F (T.setTop (mkF m pc Ls (.int x :: .int j :: .ref a :: rest))) := by
  obtain ⟨cl, A, r1, r2, r3⟩ := V
  obtain ⟨T', h', X', e', W, st⟩ := stB X hx hZ eT A (own_in r hj hi r2) (g := mkF m pc Ls (.int x :: .int j :: .ref a :: rest)) rfl rfl hd
  rw [hi] at X' W
  exact own_go st (q T' h' X' e' W)
theorem own_iast (X : Stand p l e R s m args below meth c T locs cells slots) (hx : p.tables.exec = Jvm.exec) (hZ : Z.Warmed39 s.vm) (eT : T.heap = h) (V : own_Av Z h a k .int n f) (i : Nat) {x : Int32} (hj : ¬ j < 0) (hi : j.toNatClampNeg = i) (r : i < n) (hd : decode c.code pc = .ok (.iastore, 1))
    (q : ∀ T' h', Stand p l e R s m args below meth c T' (locs ++ [⟨a, i⟩]) cells slots → T'.heap = h' → Wr h h' a i (.int x) → own_Go p.tables e below F (T'.setTop (mkF m (pc + 1) Ls rest))) : own_Go p.tables e below F (T.setTop (mkF m pc Ls (.int x :: .int j :: .ref a :: rest))) := by
  obtain ⟨cl, A, r1, r2, r3⟩ := V
  obtain ⟨T', h', X', e', W, st⟩ := stI X hx hZ eT A (own_in r hj hi r2) (g := mkF m pc Ls (.int x :: .int j :: .ref a :: rest)) rfl rfl hd
  rw [hi] at X' W
  exact own_go st (q T' h' X' e' W)
theorem own_last (X : Stand p l e R s m args below meth c T locs cells slots) (hx : p.tables.exec = Jvm.exec) (hZ : Z.Warmed39 s.vm) (eT : T.heap = h) (V : own_Av Z h a k .long n f) (i : Nat) {x : Int64} (hj : ¬ j < 0) (hi : j.toNatClampNeg = i) (r : i < n) (hd : decode c.code pc = .ok (.lastore, 1))
    (q : ∀ T' h', Stand p l e R s m args below meth c T' (locs ++ [⟨a, i⟩]) cells slots → T'.heap = h' → Wr h h' a i (.long x) → own_Go p.tables e below F (T'.setTop (mkF m (pc + 1) Ls rest))) : own_Go p.tables e below F (T.setTop (mkF m pc Ls (.long x :: .int j :: .ref a :: rest))) := by
  obtain ⟨cl, A, r1, r2, r3⟩ := V
  obtain ⟨T', h', X', e', W, st⟩ := stJ X hx hZ eT A (own_in r hj hi r2) (g := mkF m pc Ls (.long x :: .int j :: .ref a :: rest)) rfl rfl hd
  rw [hi] at X' W
  exact own_go st (q T' h' X' e' W)
theorem own_aast (X : Stand p l e R s m args below meth c T locs cells slots) (hx : p.tables.exec = Jvm.exec) (hZ : Z.Warmed39 s.vm) (eT : T.heap = h) (V : own_Av Z h a k ty n f) (hty : ty.isReference = true) (S : Sto Z h a v) (i : Nat) (hj : ¬ j < 0) (hi : j.toNatClampNeg = i) (r : i < n) (hd : decode c.code pc = .ok (.aastore, 1))
    (q : ∀ T' h', Stand p l e R s m args below meth c T' (locs ++ [⟨a, i⟩]) cells slots → T'.heap = h' → Wr h h' a i v → own_Go p.tables e below F (T'.setTop (mkF m (pc + 1) Ls rest))) : own_Go p.tables e below F (T.setTop (mkF m pc Ls (v :: .int j :: .ref a :: rest))) := by
  obtain ⟨cl, A, r1, r2, r3⟩ := V
  obtain ⟨T', h', X', e', W, st⟩ := stR X hx hZ eT A (own_in r hj hi r2) hty S (g := mkF m pc Ls (v :: .int j :: .ref a :: rest)) rfl rfl hd
  rw [hi] at X' W
  exact own_go st (q T' h' X' e' W)
end OwnKit2

/-! own kit 3: walks that may load literals cold: the walk stands over the start with warmer tables -/
section OwnKit3
variable {p : Program} {l : Launch} {e : Env} {R : Room} {s : State} {vm0 : Vm} {k0 : Nat} {m : MethodId} {args : Array Value} {below : List Frame} {meth : Method} {c : Code} {T : State} {locs : List Loc} {cells slots : Nat} {Z : State} {a0 : Array Value} {h : Heap}
def own_FinW (s : State) (below : List Frame) (Q : Option Value → Heap → List Loc → Prop) (nc ns : Nat) (t : State) (o : Outcome) : Prop :=
  t.status = .running ∧ Ended t below o ∧ ∃ v L, o = .returned v ∧ Q v t.heap L ∧ ReturnedEndW s o t L nc ns
def own_MetW (l : Launch) (y : MethodName) (ws : List Jvm.Cond) (rm : Room) (Z : State) (h : Heap) (as : Array Value) (Q : Option Value → Heap → List Loc → Prop) : Prop :=
  MetFree l y (head1 ws rm) (fun a U => a = as ∧ Z.Warmed39 U.vm ∧ U.heap = h) (fun _ _ _ _ _ => True) (fun _ U o U' => ∃ v L, o = .returned v ∧ Q v U'.heap L ∧ ReturnedEndW U o U' L rm.cells rm.slots)
theorem own_bodyW {y : MethodName} {bytes : ByteArray} {mx : Nat} {rt : Option FieldType} {rm : Room} {ws : List Jvm.Cond} {as : Array Value} {Q : Option Value → Heap → List Loc → Prop} (pn : plainName y.cls = true)
    (H : ∀ (p : Program) (e : Env) (s : State) (m : MethodId) (below : List Frame) (meth : Method) (c : Code) (s₁ : State), p.tables.exec = Jvm.exec → c.code = bytes → c.maxLocals = mx → (s.setVm s.vm).vm.findClass y.cls = some m.cls → meth.name = y.name → meth.sig.returnType = rt → meth.locks = false → Z.Warmed39 (s.setVm s.vm).vm →
      Stand p l e rm (s.setVm s.vm) m as below meth c s₁ [] 0 0 → s₁.heap = h → s.Since s.vm 0 → own_Go p.tables e below (own_FinW s below Q rm.cells rm.slots) (s₁.setTop (entryFrame m as mx))) :
    own_MetW l y (Jvm.Cond.code y bytes mx rt :: ws) rm Z h as Q := by
  refine MetFree.of_bodySF (plainFor_of_name pn) hisR ?_
  intro p e s m args below meth c s₁ Bd hml hP hK
  obtain ⟨rfl, hZ, hh⟩ := hP
  exact H p e s m below meth c s₁ Bd.exec Bd.bytes hml (findClass_of_methodNamed Bd.named) (name_of_methodNamed Bd.named Bd.method).1 Bd.returns Bd.notSynchronized hZ (Stand.of_body Bd) (by rw [← hh, Bd.state]; rfl) ((State.WarmedH.refl s).since 0)
theorem own_endW (X : Stand p l e R (s.setVm vm0) m args below meth c T locs cells slots) (hS : s.Since vm0 k0) (hk : k0 ≤ h.size) (eT : T.heap = h) {v : Option Value} {g : JFrame} {Q : Option Value → Heap → List Loc → Prop} {nc ns : Nat} (hlk : meth.locks = false) (hv : meth.sig.returnType = none → v = none)
    (st : ∀ fs, (∀ (f : JFrame) (acts : List Action), f.method = m → f.locked = none → f.entered = [] → (doReturn e (T.setTop f) acts v).1 = T.setFrames fs) → Steps p.tables e below (T.setTop g) (T.setFrames fs)) (hQ : Q v T.heap locs) (h1 : cells ≤ nc) (h2 : slots ≤ ns) :
    own_Go p.tables e below (own_FinW s below Q nc ns) (T.setTop g) := by
  obtain ⟨fs, hr, hrun, hended, hE⟩ := X.leaveW hS (by rw [eT]; exact hk) (v := v) hv hlk
  exact ⟨_, _, st fs hr, hrun, hended, _, _, rfl, hQ, hE.1, hE.2.1, hE.2.2.1, hE.2.2.2.mono h1 h2⟩
theorem own_retIW (X : Stand p l e R (s.setVm vm0) m args below meth c T locs cells slots) (hS : s.Since vm0 k0) (hk : k0 ≤ h.size) (eT : T.heap = h) (hx : p.tables.exec = Jvm.exec) {pc : Nat} {Ls : Array Slot} {z : Int32} {t : FieldType} {rest : List Value} {Q : Option Value → Heap → List Loc → Prop} {nc ns : Nat} (hlk : meth.locks = false) (hret : meth.sig.returnType = some t) (ht : t = .int ∨ t = .boolean ∨ t = .byte ∨ t = .char ∨ t = .short) (hn : narrow t (.int z) = .int z)
    (hd : decode c.code pc = .ok (.ireturn, 1)) (hQ : Q (some (.int z)) T.heap locs) (h1 : cells ≤ nc) (h2 : slots ≤ ns) : own_Go p.tables e below (own_FinW s below Q nc ns) (T.setTop (mkF m pc Ls (.int z :: rest))) :=
  own_endW X hS hk eT hlk (fun q => by rw [hret] at q; cases q) (fun fs hr => retOut X hx hret hn (Or.inl ⟨rfl, ht, _, rfl⟩) hd hr) hQ h1 h2
theorem own_retAW (X : Stand p l e R (s.setVm vm0) m args below meth c T locs cells slots) (hS : s.Since vm0 k0) (hk : k0 ≤ h.size) (eT : T.heap = h) (hx : p.tables.exec = Jvm.exec) {pc : Nat} {Ls : Array Slot} {w : Value} {t : FieldType} {rest : List Value} {Q : Option Value → Heap → List Loc → Prop} {nc ns : Nat} (hlk : meth.locks = false) (hret : meth.sig.returnType = some t) (ht : t.isReference = true) (hw : w.isRef = true)
    (hd : decode c.code pc = .ok (.areturn, 1)) (hQ : Q (some w) T.heap locs) (h1 : cells ≤ nc) (h2 : slots ≤ ns) : own_Go p.tables e below (own_FinW s below Q nc ns) (T.setTop (mkF m pc Ls (w :: rest))) :=
  own_endW X hS hk eT hlk (fun q => by rw [hret] at q; cases q) (fun fs hr => retOut X hx hret (by cases t <;> first | (cases ht; done) | (cases w <;> first | rfl | cases hw)) (Or.inr (Or.inr (Or.inr (Or.inr ⟨rfl, ht, hw⟩)))) hd hr) hQ h1 h2
theorem own_retVW (X : Stand p l e R (s.setVm vm0) m args below meth c T locs cells slots) (hS : s.Since vm0 k0) (hk : k0 ≤ h.size) (eT : T.heap = h) (hx : p.tables.exec = Jvm.exec) {pc : Nat} {Ls : Array Slot} {Q : Option Value → Heap → List Loc → Prop} {nc ns : Nat} (hlk : meth.locks = false) (hret : meth.sig.returnType = none)
    (hd : decode c.code pc = .ok (.return_, 1)) (hQ : Q none T.heap locs) (h1 : cells ≤ nc) (h2 : slots ≤ ns) : own_Go p.tables e below (own_FinW s below Q nc ns) (T.setTop (mkF m pc Ls [])) :=
  own_endW X hS hk eT hlk (fun _ => rfl) (fun fs hr => X.returnOut hx hret hd hr) hQ h1 h2
theorem own_callSW (X : Stand p l e R (s.setVm vm0) m args below meth c T locs cells slots) (hS : s.Since vm0 k0) (hk : k0 ≤ h.size) (hx : p.tables.exec = Jvm.exec) (hZ : Z.Warmed39 (s.setVm vm0).vm) {own : String} {index : Nat} {y : MethodName} {bytes : ByteArray} {mx : Nat} {rt : Option FieldType} {rm : Room} {W pc : Nat} {Ls : Array Slot} {St argsL rest : List Value} {Q : Option Value → Heap → List Loc → Prop} {F : State → Outcome → Prop}
    (hown : (s.setVm vm0).vm.findClass own = some m.cls) (w1 : (Jvm.Cond.methodLink own index y).before a0 Z = true) (w2 : (Jvm.Cond.static y).before a0 Z = true) (w3 : (Jvm.Cond.initialized y.cls).before a0 Z = true) (w4 : (Jvm.Cond.code y bytes mx rt).before a0 Z = true)
    (hy : y.cls ≠ "java/lang/invoke/MethodHandle" ∧ y.cls ≠ "java/lang/invoke/VarHandle") (M : own_MetW l y [Jvm.Cond.code y bytes mx rt] rm Z h argsL.toArray Q) (eT : T.heap = h) (hf : rm.frames + 1 ≤ R.frames) (hl : W + (mx + 11) + rm.locals ≤ R.locals) (hc : cells + rm.cells ≤ R.cells) (hs : slots + rm.slots ≤ R.slots)
    (hsz : Ls.size = c.maxLocals) (hlen : ∀ sig, parseMethodDescriptor y.desc = some sig → argsL.length = sig.parameters.length) (hst : St = argsL.reverse ++ rest) (hW : (rest.map fun v => v.category).sum ≤ W) (hd : decode c.code pc = .ok (.invokestatic index, 3))
    (K : ∀ v T' L, Stand p l e R (s.setVm T'.vm) m args below meth c T' (locs ++ L) (cells + rm.cells) (slots + rm.slots) → s.Since T'.vm T'.heap.size → Z.Warmed39 (s.setVm T'.vm).vm → (s.setVm T'.vm).vm.findClass own = some m.cls → Q v T'.heap L → own_Go p.tables e below F (T'.setTop (mkF m (pc + 3) Ls (v.toList ++ rest)))) :
    own_Go p.tables e below F (T.setTop (mkF m pc Ls St)) := by
  obtain ⟨v, _, ⟨T', L', k', n'⟩, -, X', hS', hgr, ⟨L, hQ, l1, l2, l3⟩, st⟩ := callSS X hx (y := y) hown (mvT hZ w1) (mvT hZ w2) (mvT hZ w3) (mvT hZ w4) hy (backOfS (W := W) M hZ w4 w3 hf hl) (g := mkF m pc Ls St) rfl hsz (argsL := argsL) (rest := rest) hlen hst (by show 2 * 0 + _ ≤ _; rw [Nat.mul_zero, Nat.zero_add]; exact hW) hd (fun _ _ => ⟨rfl, eT, hc, hs⟩)
  dsimp only [Pt.U, Pt.locs, Pt.cells, Pt.slots] at X' hS' hgr l1 l2 l3 st hQ
  subst l1 l2 l3
  obtain ⟨X2, h2, h3, h4⟩ := rebS hS (by rw [eT]; exact hk) X' hS' hgr hZ hown
  exact own_gt st (K v T' L X2 h2 h3 h4 hQ)
theorem own_callVW (X : Stand p l e R (s.setVm vm0) m args below meth c T locs cells slots) (hS : s.Since vm0 k0) (hk : k0 ≤ h.size) (hx : p.tables.exec = Jvm.exec) (hZ : Z.Warmed39 (s.setVm vm0).vm) {own C : String} {index : Nat} {z : MethodName} {bytes : ByteArray} {mx : Nat} {rt : Option FieldType} {rm : Room} {W pc : Nat} {Ls : Array Slot} {a : Addr} {St argsL rest : List Value} {Q : Option Value → Heap → List Loc → Prop} {F : State → Outcome → Prop}
    (hown : (s.setVm vm0).vm.findClass own = some m.cls) (w1 : (Jvm.Cond.methodLink own index z).before a0 Z = true) (w2 : (Jvm.Cond.declares z).before a0 Z = true) (w3 : (Jvm.Cond.selects C z z).before a0 Z = true) (w4 : (Jvm.Cond.instanceMethod z).before a0 Z = true) (w5 : (Jvm.Cond.code z bytes mx rt).before a0 Z = true) (w6 : (Jvm.Cond.initialized z.cls).before a0 Z = true)
    (hy : z.cls ≠ "java/lang/invoke/MethodHandle" ∧ z.cls ≠ "java/lang/invoke/VarHandle") (E : Exa Z h a C) (M : own_MetW l z [Jvm.Cond.code z bytes mx rt] rm Z h (.ref a :: argsL).toArray Q) (eT : T.heap = h) (hf : rm.frames + 1 ≤ R.frames) (hl : W + (mx + 11) + rm.locals ≤ R.locals) (hc : cells + rm.cells ≤ R.cells) (hs : slots + rm.slots ≤ R.slots)
    (hsz : Ls.size = c.maxLocals) (hlen : ∀ sig, parseMethodDescriptor z.desc = some sig → argsL.length = sig.parameters.length) (hst : St = argsL.reverse ++ .ref a :: rest) (hW : (rest.map fun v => v.category).sum ≤ W) (hd : decode c.code pc = .ok (.invokevirtual index, 3))
    (K : ∀ v T' L, Stand p l e R (s.setVm T'.vm) m args below meth c T' (locs ++ L) (cells + rm.cells) (slots + rm.slots) → s.Since T'.vm T'.heap.size → Z.Warmed39 (s.setVm T'.vm).vm → (s.setVm T'.vm).vm.findClass own = some m.cls → Q v T'.heap L → own_Go p.tables e below F (T'.setTop (mkF m (pc + 3) Ls (v.toList ++ rest)))) :
    own_Go p.tables e below F (T.setTop (mkF m pc Ls St)) := by
  obtain ⟨cq, kq, q1, q2, q3⟩ := isOf hZ eT E
  obtain ⟨v, _, ⟨T', L', k', n'⟩, -, X', hS', hgr, ⟨L, hQ, l1, l2, l3⟩, st⟩ := X.virtualBackS hx (y := z) (z := z) hown (mvT hZ w1) (mvT hZ w2) (notFace_of_selects (args := #[]) (mvT hZ w3)) (mvT hZ w3) (mvT hZ w4) hy (backOfS (W := W) M hZ w5 w6 hf hl) q1 q3 (g := mkF m pc Ls St) rfl hsz (Steps.refl _) (argsL := argsL) (rest := rest) hlen hst (by show 2 * 0 + _ ≤ _; rw [Nat.mul_zero, Nat.zero_add]; exact hW) hd (fun _ _ => ⟨rfl, eT, hc, hs⟩)
  dsimp only [Pt.U, Pt.locs, Pt.cells, Pt.slots] at X' hS' hgr l1 l2 l3 st hQ
  subst l1 l2 l3
  obtain ⟨X2, h2, h3, h4⟩ := rebS hS (by rw [eT]; exact hk) X' hS' hgr hZ hown
  exact own_gt st (K v T' L X2 h2 h3 h4 hQ)
theorem own_callIW (X : Stand p l e R (s.setVm vm0) m args below meth c T locs cells slots) (hS : s.Since vm0 k0) (hk : k0 ≤ h.size) (hx : p.tables.exec = Jvm.exec) (hZ : Z.Warmed39 (s.setVm vm0).vm) {own : String} {index : Nat} {y : MethodName} {bytes : ByteArray} {mx : Nat} {rm : Room} {W pc : Nat} {Ls : Array Slot} {a : Addr} {St argsL rest : List Value} {Q : Option Value → Heap → List Loc → Prop} {F : State → Outcome → Prop}
    (hown : (s.setVm vm0).vm.findClass own = some m.cls) (w1 : (Jvm.Cond.methodLink own index y).before a0 Z = true) (w2 : (Jvm.Cond.instanceMethod y).before a0 Z = true) (w3 : (Jvm.Cond.code y bytes mx none).before a0 Z = true) (w4 : (Jvm.Cond.initialized y.cls).before a0 Z = true) (hi : y.name = "<init>")
    (hy : y.cls ≠ "java/lang/invoke/MethodHandle" ∧ y.cls ≠ "java/lang/invoke/VarHandle") (M : own_MetW l y [Jvm.Cond.code y bytes mx none] rm Z h (.ref a :: argsL).toArray Q) (eT : T.heap = h) (hf : rm.frames + 1 ≤ R.frames) (hl : W + (mx + 11) + rm.locals ≤ R.locals) (hc : cells + rm.cells ≤ R.cells) (hs : slots + rm.slots ≤ R.slots)
    (hsz : Ls.size = c.maxLocals) (hlen : ∀ sig, parseMethodDescriptor y.desc = some sig → argsL.length = sig.parameters.length) (hst : St = argsL.reverse ++ .ref a :: rest) (hW : (rest.map fun v => v.category).sum ≤ W) (hd : decode c.code pc = .ok (.invokespecial index, 3))
    (K : ∀ v T' L, Stand p l e R (s.setVm T'.vm) m args below meth c T' (locs ++ L) (cells + rm.cells) (slots + rm.slots) → s.Since T'.vm T'.heap.size → Z.Warmed39 (s.setVm T'.vm).vm → (s.setVm T'.vm).vm.findClass own = some m.cls → Q v T'.heap L → own_Go p.tables e below F (T'.setTop (mkF m (pc + 3) Ls (v.toList ++ rest)))) :
    own_Go p.tables e below F (T.setTop (mkF m pc Ls St)) := by
  obtain ⟨v, _, ⟨T', L', k', n'⟩, -, X', hS', hgr, ⟨L, hQ, l1, l2, l3⟩, st⟩ := X.specialBackS hx (y := y) hi hown (mvT hZ w1) (mvT hZ w2) (mvT hZ w3) hy (backOfS (W := W) M hZ w3 w4 hf hl) (g := mkF m pc Ls St) rfl hsz (Steps.refl _) (a := a) (argsL := argsL) (rest := rest) hlen hst (by show 2 * 0 + _ ≤ _; rw [Nat.mul_zero, Nat.zero_add]; exact hW) hd (fun _ _ => ⟨rfl, eT, hc, hs⟩)
  dsimp only [Pt.U, Pt.locs, Pt.cells, Pt.slots] at X' hS' hgr l1 l2 l3 st hQ
  subst l1 l2 l3
  obtain ⟨X2, h2, h3, h4⟩ := rebS hS (by rw [eT]; exact hk) X' hS' hgr hZ hown
  exact own_gt st (K v T' L X2 h2 h3 h4 hQ)
theorem own_clone (X : Stand p l e R s m args below meth c T locs cells slots) (hx : p.tables.exec = Jvm.exec) (hZ : Z.Warmed39 s.vm) {own ad : String} {index : Nat} (hown : s.vm.findClass own = some m.cls)
    (w1 : (Jvm.Cond.methodLink own index ⟨ad, "clone", "()Ljava/lang/Object;"⟩).before a0 Z = true) (w2 : (Jvm.Cond.sameMethod ad "java/lang/Object" "clone" "()Ljava/lang/Object;").before a0 Z = true) (w3 : (Jvm.Cond.native ⟨"java/lang/Object", "clone", "()Ljava/lang/Object;"⟩).before a0 Z = true)
    (w4 : (Jvm.Cond.instanceMethod ⟨"java/lang/Object", "clone", "()Ljava/lang/Object;"⟩).before a0 Z = true) (w5 : (Jvm.Cond.selects ad ⟨ad, "clone", "()Ljava/lang/Object;"⟩ ⟨"java/lang/Object", "clone", "()Ljava/lang/Object;"⟩).before a0 Z = true) (w6 : (Jvm.Cond.castable ad "java/lang/Cloneable").before a0 Z = true)
    (eT : T.heap = h) {a : Addr} {k : ClassId} {ty : FieldType} {n W pc : Nat} {f : Nat → Value} {Ls : Array Slot} {rest : List Value} {F : State → Outcome → Prop} (V : own_Av Z h a k ty n f) (E : Exa Z h a ad) (hfit : ∀ j, j < n → fits ty (f j) = true) (hsz : Ls.size = c.maxLocals) (hd : decode c.code pc = .ok (.invokevirtual index, 3))
    (hf : 1 ≤ R.frames) (hW : (rest.map fun v => v.category).sum ≤ W) (hl : W + 14 ≤ R.locals) (cap : Nat) (hcap : n ≤ cap) (hc : cells + 1 ≤ R.cells) (hsl : slots + cap ≤ R.slots)
    (K : ∀ T' h', Stand p l e R s m args below meth c T' locs (cells + 1) (slots + cap) → T'.heap = h' → Ext h h' → own_Av Z h' h.size k ty n f → Exa Z h' h.size ad → own_Go p.tables e below F (T'.setTop (mkF m (pc + 3) Ls (.ref h.size :: rest)))) :
    own_Go p.tables e below F (T.setTop (mkF m pc Ls (.ref a :: rest))) := by
  obtain ⟨cl, A, r1, r2, r3⟩ := V
  have FC : FitC Z cl := fitC_of A fun i hi v hv => by rw [r2] at hi; rw [r3 i hi] at hv; cases hv; exact hfit i hi
  obtain ⟨T', h', X', e', ex, A', E', st⟩ := cloneA X hx hZ hown w1 w2 w3 w4 w5 w6 eT A E FC (g := mkF m pc Ls (.ref a :: rest)) rfl hsz rfl hd hf (W := W) (cap := cap) (by show 2 * 0 + _ ≤ _; rw [Nat.mul_zero, Nat.zero_add]; exact hW) hl (by rw [r2]; exact hcap) hc hsl
  exact own_go st (K T' h' X' e' ex ⟨cloneOf cl, A', r1, r2, r3⟩ E')
end OwnKit3

def own_bi (b : Bool) : Int32 := match b with | true => 1 | false => 0
def own_Tm (Z : State) (h : Heap) (a : Addr) (b : Bool) : Prop := (Exa Z h a "com/example/nashwaak/nashwaak/terms/Atom" ∧ b = true) ∨ (Exa Z h a "com/example/nashwaak/nashwaak/terms/Variable" ∧ b = false) ∨ (Exa Z h a "com/example/nashwaak/nashwaak/terms/Compound" ∧ Fld Z h a "com/example/nashwaak/nashwaak/terms/Compound" "ground" "Z" (.int (own_bi b)))
def own_Tms (Z : State) (h : Heap) (n : Nat) (t : Nat → Addr) (b : Nat → Bool) : Prop := ∀ j, j < n → own_Tm Z h (t j) (b j)
def own_all (b : Nat → Bool) : Nat → Bool
  | 0 => true
  | n + 1 => own_all b n && b n
section OwnTm
variable {Z : State} {h h' : Heap} {a d : Addr} {b : Bool} {sl n : Nat} {v : Value} {t : Nat → Addr} {bs : Nat → Bool} {a0 : Array Value}
theorem own_Tm.lt (F : own_Tm Z h a b) : a < h.size := by rcases F with ⟨E, -⟩ | ⟨E, -⟩ | ⟨E, -⟩ <;> exact E.lt
theorem own_Tm.ext (E : Ext h h') (F : own_Tm Z h a b) : own_Tm Z h' a b := by
  rcases F with ⟨G, q⟩ | ⟨G, q⟩ | ⟨G, q⟩
  · exact Or.inl ⟨G.ext E, q⟩
  · exact Or.inr (Or.inl ⟨G.ext E, q⟩)
  · exact Or.inr (Or.inr ⟨G.ext E, q.ext E⟩)
theorem own_Tm.other (W : Wr h h' d sl v) (F : own_Tm Z h a b) (ne : a ≠ d) : own_Tm Z h' a b := by
  rcases F with ⟨G, q⟩ | ⟨G, q⟩ | ⟨G, q⟩
  · exact Or.inl ⟨G.wr W, q⟩
  · exact Or.inr (Or.inl ⟨G.wr W, q⟩)
  · exact Or.inr (Or.inr ⟨G.wr W, q.other W (Or.inl ne)⟩)
theorem own_Tm.keep {ws : List Addr} (F : own_Tm Z h a b) (K : Keep h h' ws) (ne : a ∉ ws) : own_Tm Z h' a b := by
  rcases F with ⟨G, q⟩ | ⟨G, q⟩ | ⟨G, q⟩
  · exact Or.inl ⟨G.keep K, q⟩
  · exact Or.inr (Or.inl ⟨G.keep K, q⟩)
  · exact Or.inr (Or.inr ⟨G.keep K, q.keep K ne⟩)
theorem own_Tms.ext (E : Ext h h') (F : own_Tms Z h n t bs) : own_Tms Z h' n t bs := fun j hj => (F j hj).ext E
theorem own_Tms.other (W : Wr h h' d sl v) (F : own_Tms Z h n t bs) (ne : ∀ j, j < n → t j ≠ d) : own_Tms Z h' n t bs := fun j hj => (F j hj).other W (ne j hj)
theorem own_Tm.ins (hw : ∀ d ∈ tables_1, d.before a0 Z = true) (F : own_Tm Z h a b) : Ins Z h a "com/example/nashwaak/nashwaak/terms/Term" true := by
  rcases F with ⟨G, q⟩ | ⟨G, q⟩ | ⟨G, q⟩
  · exact Ins.of_exa G (hw _ (List.mem_of_getElem? (i := 58) rfl))
  · exact Ins.of_exa G (hw _ (List.mem_of_getElem? (i := 120) rfl))
  · exact Ins.of_exa G (hw _ (List.mem_of_getElem? (i := 123) rfl))
theorem own_sto {k : ClassId} {ty : FieldType} {f : Nat → Value} {x : Addr} (hw : ∀ d ∈ tables_1, d.before a0 Z = true) (V : own_Av Z h a k ty n f) (O : Ovr Z k "com/example/nashwaak/nashwaak/terms/Term") (F : own_Tm Z h x b) : Sto Z h a (.ref x) := by
  obtain ⟨cl, A, r, -⟩ := V; exact Sto.ofV A r O (F.ins hw)
theorem own_root {O K : String} {n : Nat} (w : (Jvm.Cond.noSuperclass O).before a0 Z = true) (wi : (Jvm.Cond.instantiable K n).before a0 Z = true) (hn : O ≠ K) : NS Z O K := by
  obtain ⟨c, k, h1, h2, h3, -⟩ := Cond.noSuperclass_spec w
  obtain ⟨t, kt, g1, -⟩ := Cond.instantiable_spec wi
  have ne : (c == t) = false := beq_false_of_ne (ids_ne h1 g1 hn)
  refine ⟨c, t, h1, g1, fun fuel => ?_⟩
  cases fuel with
  | zero => rfl
  | succ f => simp only [Vm.isSubclassAux, ne, h2, h3, Bool.false_or]
theorem own_no {C K : String} {n n' : Nat} (wc : (Jvm.Cond.instantiable C n).before a0 Z = true) (wk : (Jvm.Cond.instantiable K n').before a0 Z = true) (N : NS Z C K) (hn : C ≠ K) : ∃ c t, Z.vm.findClass C = some c ∧ Z.vm.findClass K = some t ∧ Z.vm.assignable c t = false := by
  obtain ⟨c, t, h0, g0, n3⟩ := N
  obtain ⟨c', k, h1, h2, h3, h4, -⟩ := Cond.instantiable_spec wc
  obtain ⟨t', k', g1, g2, g3, g4, -⟩ := Cond.instantiable_spec wk
  cases h0.symm.trans h1
  cases g0.symm.trans g1
  have ne : (c == t) = false := beq_false_of_ne (ids_ne h0 g0 hn)
  have gi : k'.isInterface = false := (Bool.or_eq_false_iff.mp g4).1
  refine ⟨c, t, h0, g0, ?_⟩
  have e : Z.vm.isSubclass c t = false := n3 _
  show Z.vm.assignableAux (255 + 1) c t = false
  simp only [Vm.assignableAux, ne, h2, g2, h3, g3, gi, e, Bool.false_or, Bool.false_eq_true, if_false]
theorem own_wS (hw : ∀ d ∈ tables_1, d.before a0 Z = true) : ∀ d ∈ Bundle.stringAtoms, d.before a0 Z = true := by
  intro d hd
  simp only [Bundle.stringAtoms, List.mem_cons, List.not_mem_nil, or_false] at hd
  rcases hd with rfl | rfl | rfl | rfl | rfl | rfl | rfl
  · exact hw _ (List.mem_of_getElem? (i := 5) rfl)
  · exact hw _ (List.mem_of_getElem? (i := 13) rfl)
  · exact hw _ (List.mem_of_getElem? (i := 17) rfl)
  · exact hw _ (List.mem_of_getElem? (i := 26) rfl)
  · exact hw _ (List.mem_of_getElem? (i := 28) rfl)
  · exact hw _ (List.mem_of_getElem? (i := 39) rfl)
  · exact hw _ (List.mem_of_getElem? (i := 40) rfl)
end OwnTm
theorem own_nA (Z : State) (a0 : Array Value) (hw : ∀ d ∈ tables_1, d.before a0 Z = true) {K : String} {n : Nat} (wk : (Jvm.Cond.instantiable K n).before a0 Z = true) (h1 : "java/lang/Object" ≠ K) (h2 : "com/example/nashwaak/nashwaak/terms/Term" ≠ K) (h3 : "com/example/nashwaak/nashwaak/terms/Atom" ≠ K) : ∃ c t, Z.vm.findClass "com/example/nashwaak/nashwaak/terms/Atom" = some c ∧ Z.vm.findClass K = some t ∧ Z.vm.assignable c t = false :=
  own_no (hw _ (List.mem_of_getElem? (i := 1) rfl)) wk (NS.step (hw _ (List.mem_of_getElem? (i := 85) rfl)) (NS.step (hw _ (List.mem_of_getElem? (i := 86) rfl)) (own_root (hw _ (List.mem_of_getElem? (i := 87) rfl)) wk h1) h2) h3) h3
theorem own_nV (Z : State) (a0 : Array Value) (hw : ∀ d ∈ tables_1, d.before a0 Z = true) {K : String} {n : Nat} (wk : (Jvm.Cond.instantiable K n).before a0 Z = true) (h1 : "java/lang/Object" ≠ K) (h2 : "com/example/nashwaak/nashwaak/terms/Term" ≠ K) (h3 : "com/example/nashwaak/nashwaak/terms/Variable" ≠ K) : ∃ c t, Z.vm.findClass "com/example/nashwaak/nashwaak/terms/Variable" = some c ∧ Z.vm.findClass K = some t ∧ Z.vm.assignable c t = false :=
  own_no (hw _ (List.mem_of_getElem? (i := 92) rfl)) wk (NS.step (hw _ (List.mem_of_getElem? (i := 121) rfl)) (NS.step (hw _ (List.mem_of_getElem? (i := 86) rfl)) (own_root (hw _ (List.mem_of_getElem? (i := 87) rfl)) wk h1) h2) h3) h3
theorem own_nbi (b : Bool) : narrow .boolean (.int (own_bi b)) = .int (own_bi b) := by cases b <;> rfl
theorem own_fbi (b : Bool) : fits .boolean (.int (own_bi b)) = true := by cases b <;> rfl
theorem own_i1 {b : Bool} (h : b = true) : some (Value.int 1) = some (Value.int (own_bi b)) := by rw [h]; rfl
theorem own_i0 {b : Bool} (h : b = false) : some (Value.int 0) = some (Value.int (own_bi b)) := by rw [h]; rfl
def own_lg (k : Int32) : Bool := decide (k &&& (7 : Int32) = 0 ∨ k &&& (7 : Int32) = 3 ∨ k &&& (7 : Int32) = 6)
theorem own_and7 (x : Int32) : x &&& (7 : Int32) = 0 ∨ x &&& (7 : Int32) = 1 ∨ x &&& (7 : Int32) = 2 ∨ x &&& (7 : Int32) = 3 ∨ x &&& (7 : Int32) = 4 ∨ x &&& (7 : Int32) = 5 ∨ x &&& (7 : Int32) = 6 ∨ x &&& (7 : Int32) = 7 := by
  have a1 := c_mask x 7 3 (by decide) (by decide)
  have l1 : (((2 ^ 3 : Nat) : Nat) : Int) = 8 := by decide
  rw [l1] at a1
  simp only [← Int32.toInt_inj]
  have l0 : (0 : Int32).toInt = 0 := by decide
  have l2 : (1 : Int32).toInt = 1 := by decide
  have l3 : (2 : Int32).toInt = 2 := by decide
  have l4 : (3 : Int32).toInt = 3 := by decide
  have l5 : (4 : Int32).toInt = 4 := by decide
  have l6 : (5 : Int32).toInt = 5 := by decide
  have l7 : (6 : Int32).toInt = 6 := by decide
  have l8 : (7 : Int32).toInt = 7 := by decide
  rw [l0, l2, l3, l4, l5, l6, l7, l8]
  omega
theorem own_ch (x : Int32) : ¬ (255 : Int32) < (x &&& (255 : Int32)).toUInt32.toUInt16.toUInt32.toInt32 := by
  rw [i2c_mask, Int32.lt_iff_toInt_lt]
  have a1 := c_mask x 255 8 (by decide) (by decide)
  have l1 : (((2 ^ 8 : Nat) : Nat) : Int) = 256 := by decide
  rw [l1] at a1
  have l2 : (255 : Int32).toInt = 255 := by decide
  omega
theorem own_ix (z : Int32) (n : Nat) (q : z.toInt = n) : ¬ z < 0 ∧ z.toNatClampNeg = n := by
  have e : z.toNatClampNeg = z.toInt.toNat := rfl
  refine ⟨fun r => ?_, by rw [e]; omega⟩
  rw [Int32.lt_iff_toInt_lt] at r
  have l : (0 : Int32).toInt = 0 := by decide
  omega
theorem own_of (n : Nat) (h : n < 1000) : (Int32.ofNat n).toInt = (n : Int) := Int32.toInt_ofNat_of_lt (by omega)
theorem own_inc (n : Nat) (h : n < 100) : Int32.ofNat n + 1 = Int32.ofNat (n + 1) := by
  apply Int32.toInt_inj.mp
  have a := c_iadd (Int32.ofNat n) 1
  have l : (1 : Int32).toInt = 1 := by decide
  rw [own_of n (by omega), l] at a
  have r := rng32 (Int32.ofNat n + 1)
  rw [own_of (n + 1) (by omega)]
  omega
theorem own_lt (n N : Nat) (h : n < 100) (h' : N < 100) : Int32.ofNat n < Int32.ofNat N ↔ n < N := by
  rw [Int32.lt_iff_toInt_lt, own_of n (by omega), own_of N (by omega)]; omega
theorem own_n0 (N : Nat) (h0 : 0 < N) (h' : N < 100) : ¬ Int32.ofNat N = 0 := by
  rw [← Int32.toInt_inj, own_of N (by omega)]
  have l : (0 : Int32).toInt = 0 := by decide
  omega
theorem own_d1_0 : decode jdk_42_method_139_code 0 = .ok (.getstatic 38, 3) := by decide +kernel
theorem own_d1_3 : decode jdk_42_method_139_code 3 = .ok (.ifCond .eq 23, 3) := by decide +kernel
theorem own_d1_6 : decode jdk_42_method_139_code 6 = .ok (.iload_n 0, 1) := by decide +kernel
theorem own_d1_7 : decode jdk_42_method_139_code 7 = .ok (.invokestatic 1015, 3) := by decide +kernel
theorem own_d1_10 : decode jdk_42_method_139_code 10 = .ok (.ifCond .eq 16, 3) := by decide +kernel
theorem own_d1_13 : decode jdk_42_method_139_code 13 = .ok (.new 10, 3) := by decide +kernel
theorem own_d1_16 : decode jdk_42_method_139_code 16 = .ok (.dup, 1) := by decide +kernel
theorem own_d1_17 : decode jdk_42_method_139_code 17 = .ok (.iload_n 0, 1) := by decide +kernel
theorem own_d1_18 : decode jdk_42_method_139_code 18 = .ok (.invokestatic 1018, 3) := by decide +kernel
theorem own_d1_21 : decode jdk_42_method_139_code 21 = .ok (.iconst 0, 1) := by decide +kernel
theorem own_d1_22 : decode jdk_42_method_139_code 22 = .ok (.invokespecial 209, 3) := by decide +kernel
theorem own_d1_25 : decode jdk_42_method_139_code 25 = .ok (.areturn, 1) := by decide +kernel
theorem own_d1_26 : decode jdk_42_method_139_code 26 = .ok (.new 10, 3) := by decide +kernel
theorem own_d1_29 : decode jdk_42_method_139_code 29 = .ok (.dup, 1) := by decide +kernel
theorem own_d1_30 : decode jdk_42_method_139_code 30 = .ok (.iload_n 0, 1) := by decide +kernel
theorem own_d1_31 : decode jdk_42_method_139_code 31 = .ok (.invokestatic 1021, 3) := by decide +kernel
theorem own_d1_34 : decode jdk_42_method_139_code 34 = .ok (.iconst 1, 1) := by decide +kernel
theorem own_d1_35 : decode jdk_42_method_139_code 35 = .ok (.invokespecial 209, 3) := by decide +kernel
theorem own_d1_38 : decode jdk_42_method_139_code 38 = .ok (.areturn, 1) := by decide +kernel
theorem own_pn_1 : plainName "java/lang/String" = true := by first | (simp [plainName, overriddenIn]; done) | decide +kernel
theorem own_d2_0 : decode jdk_43_method_3_code 0 = .ok (.iload_n 0, 1) := by decide +kernel
theorem own_d2_1 : decode jdk_43_method_3_code 1 = .ok (.sipush 255, 3) := by decide +kernel
theorem own_d2_4 : decode jdk_43_method_3_code 4 = .ok (.if_icmp .gt 7, 3) := by decide +kernel
theorem own_d2_7 : decode jdk_43_method_3_code 7 = .ok (.iconst 1, 1) := by decide +kernel
theorem own_d2_8 : decode jdk_43_method_3_code 8 = .ok (.goto 4, 3) := by decide +kernel
theorem own_d2_11 : decode jdk_43_method_3_code 11 = .ok (.iconst 0, 1) := by decide +kernel
theorem own_d2_12 : decode jdk_43_method_3_code 12 = .ok (.ireturn, 1) := by decide +kernel
theorem own_pn_2 : plainName "java/lang/StringLatin1" = true := by first | (simp [plainName, overriddenIn]; done) | decide +kernel
theorem own_d3_0 : decode jdk_43_method_46_code 0 = .ok (.iconst 1, 1) := by decide +kernel
theorem own_d3_1 : decode jdk_43_method_46_code 1 = .ok (.newarray .byte, 2) := by decide +kernel
theorem own_d3_3 : decode jdk_43_method_46_code 3 = .ok (.dup, 1) := by decide +kernel
theorem own_d3_4 : decode jdk_43_method_46_code 4 = .ok (.iconst 0, 1) := by decide +kernel
theorem own_d3_5 : decode jdk_43_method_46_code 5 = .ok (.iload_n 0, 1) := by decide +kernel
theorem own_d3_6 : decode jdk_43_method_46_code 6 = .ok (.i2b, 1) := by decide +kernel
theorem own_d3_7 : decode jdk_43_method_46_code 7 = .ok (.bastore, 1) := by decide +kernel
theorem own_d3_8 : decode jdk_43_method_46_code 8 = .ok (.areturn, 1) := by decide +kernel
theorem own_pn_3 : plainName "java/lang/StringLatin1" = true := by first | (simp [plainName, overriddenIn]; done) | decide +kernel
theorem own_d4_0 : decode jdk_42_method_151_code 0 = .ok (.aload_n 0, 1) := by decide +kernel
theorem own_d4_1 : decode jdk_42_method_151_code 1 = .ok (.invokespecial 1, 3) := by decide +kernel
theorem own_d4_4 : decode jdk_42_method_151_code 4 = .ok (.aload_n 0, 1) := by decide +kernel
theorem own_d4_5 : decode jdk_42_method_151_code 5 = .ok (.aload_n 1, 1) := by decide +kernel
theorem own_d4_6 : decode jdk_42_method_151_code 6 = .ok (.putfield 9, 3) := by decide +kernel
theorem own_d4_9 : decode jdk_42_method_151_code 9 = .ok (.aload_n 0, 1) := by decide +kernel
theorem own_d4_10 : decode jdk_42_method_151_code 10 = .ok (.iload_n 2, 1) := by decide +kernel
theorem own_d4_11 : decode jdk_42_method_151_code 11 = .ok (.putfield 15, 3) := by decide +kernel
theorem own_d4_14 : decode jdk_42_method_151_code 14 = .ok (.return_, 1) := by decide +kernel
theorem own_pn_4 : plainName "java/lang/String" = true := by first | (simp [plainName, overriddenIn]; done) | decide +kernel
theorem own_d6_0 : decode prog_153_method_1_code 0 = .ok (.aload_n 0, 1) := by decide +kernel
theorem own_d6_1 : decode prog_153_method_1_code 1 = .ok (.invokespecial 1, 3) := by decide +kernel
theorem own_d6_4 : decode prog_153_method_1_code 4 = .ok (.aload_n 0, 1) := by decide +kernel
theorem own_d6_5 : decode prog_153_method_1_code 5 = .ok (.aload_n 1, 1) := by decide +kernel
theorem own_d6_6 : decode prog_153_method_1_code 6 = .ok (.ldc 7, 2) := by decide +kernel
theorem own_d6_8 : decode prog_153_method_1_code 8 = .ok (.invokestatic 9, 3) := by decide +kernel
theorem own_d6_11 : decode prog_153_method_1_code 11 = .ok (.checkcast 15, 3) := by decide +kernel
theorem own_d6_14 : decode prog_153_method_1_code 14 = .ok (.putfield 17, 3) := by decide +kernel
theorem own_d6_17 : decode prog_153_method_1_code 17 = .ok (.return_, 1) := by decide +kernel
theorem own_pn_6 : plainName "com/example/nashwaak/nashwaak/terms/Atom" = true := by first | (simp [plainName, overriddenIn]; done) | decide +kernel
theorem own_d7_0 : decode prog_166_method_1_code 0 = .ok (.aload_n 0, 1) := by decide +kernel
theorem own_d7_1 : decode prog_166_method_1_code 1 = .ok (.invokespecial 1, 3) := by decide +kernel
theorem own_d7_4 : decode prog_166_method_1_code 4 = .ok (.return_, 1) := by decide +kernel
theorem own_pn_7 : plainName "com/example/nashwaak/nashwaak/terms/Term" = true := by first | (simp [plainName, overriddenIn]; done) | decide +kernel
theorem own_d8_0 : decode jdk_31_method_11_code 0 = .ok (.aload_n 0, 1) := by decide +kernel
theorem own_d8_1 : decode jdk_31_method_11_code 1 = .ok (.ifnonnull 12, 3) := by decide +kernel
theorem own_d8_4 : decode jdk_31_method_11_code 4 = .ok (.new 84, 3) := by decide +kernel
theorem own_d8_7 : decode jdk_31_method_11_code 7 = .ok (.dup, 1) := by decide +kernel
theorem own_d8_8 : decode jdk_31_method_11_code 8 = .ok (.aload_n 1, 1) := by decide +kernel
theorem own_d8_9 : decode jdk_31_method_11_code 9 = .ok (.invokespecial 87, 3) := by decide +kernel
theorem own_d8_12 : decode jdk_31_method_11_code 12 = .ok (.athrow, 1) := by decide +kernel
theorem own_d8_13 : decode jdk_31_method_11_code 13 = .ok (.aload_n 0, 1) := by decide +kernel
theorem own_d8_14 : decode jdk_31_method_11_code 14 = .ok (.areturn, 1) := by decide +kernel
theorem own_pn_8 : plainName "java/util/Objects" = true := by first | (simp [plainName, overriddenIn]; done) | decide +kernel
theorem own_d9_0 : decode method_3_code 0 = .ok (.iload_n 0, 1) := by decide +kernel
theorem own_d9_1 : decode method_3_code 1 = .ok (.bipush 7, 2) := by decide +kernel
theorem own_d9_3 : decode method_3_code 3 = .ok (.iand, 1) := by decide +kernel
theorem own_d9_4 : decode method_3_code 4 = .ok (.istore_n 2, 1) := by decide +kernel
theorem own_d9_5 : decode method_3_code 5 = .ok (.iload_n 2, 1) := by decide +kernel
theorem own_d9_6 : decode method_3_code 6 = .ok (.ifCond .ne 5, 3) := by decide +kernel
theorem own_d9_9 : decode method_3_code 9 = .ok (.aload_n 1, 1) := by decide +kernel
theorem own_d9_10 : decode method_3_code 10 = .ok (.areturn, 1) := by decide +kernel
theorem own_d9_11 : decode method_3_code 11 = .ok (.iload_n 2, 1) := by decide +kernel
theorem own_d9_12 : decode method_3_code 12 = .ok (.iconst 1, 1) := by decide +kernel
theorem own_d9_13 : decode method_3_code 13 = .ok (.if_icmp .ne 11, 3) := by decide +kernel
theorem own_d9_16 : decode method_3_code 16 = .ok (.new 7, 3) := by decide +kernel
theorem own_d9_19 : decode method_3_code 19 = .ok (.dup, 1) := by decide +kernel
theorem own_d9_20 : decode method_3_code 20 = .ok (.invokespecial 9, 3) := by decide +kernel
theorem own_d9_23 : decode method_3_code 23 = .ok (.areturn, 1) := by decide +kernel
theorem own_d9_24 : decode method_3_code 24 = .ok (.iload_n 2, 1) := by decide +kernel
theorem own_d9_25 : decode method_3_code 25 = .ok (.iconst 2, 1) := by decide +kernel
theorem own_d9_26 : decode method_3_code 26 = .ok (.if_icmp .ne 18, 3) := by decide +kernel
theorem own_d9_29 : decode method_3_code 29 = .ok (.new 7, 3) := by decide +kernel
theorem own_d9_32 : decode method_3_code 32 = .ok (.dup, 1) := by decide +kernel
theorem own_d9_33 : decode method_3_code 33 = .ok (.invokespecial 9, 3) := by decide +kernel
theorem own_d9_36 : decode method_3_code 36 = .ok (.astore_n 3, 1) := by decide +kernel
theorem own_d9_37 : decode method_3_code 37 = .ok (.aload_n 3, 1) := by decide +kernel
theorem own_d9_38 : decode method_3_code 38 = .ok (.aload_n 1, 1) := by decide +kernel
theorem own_d9_39 : decode method_3_code 39 = .ok (.invokevirtual 10, 3) := by decide +kernel
theorem own_d9_42 : decode method_3_code 42 = .ok (.aload_n 3, 1) := by decide +kernel
theorem own_d9_43 : decode method_3_code 43 = .ok (.areturn, 1) := by decide +kernel
theorem own_d9_44 : decode method_3_code 44 = .ok (.iload_n 2, 1) := by decide +kernel
theorem own_d9_45 : decode method_3_code 45 = .ok (.iconst 3, 1) := by decide +kernel
theorem own_d9_46 : decode method_3_code 46 = .ok (.isub, 1) := by decide +kernel
theorem own_d9_47 : decode method_3_code 47 = .ok (.istore_n 3, 1) := by decide +kernel
theorem own_d9_48 : decode method_3_code 48 = .ok (.iload_n 3, 1) := by decide +kernel
theorem own_d9_49 : decode method_3_code 49 = .ok (.ifCond .ne 9, 3) := by decide +kernel
theorem own_d9_52 : decode method_3_code 52 = .ok (.aload_n 1, 1) := by decide +kernel
theorem own_d9_53 : decode method_3_code 53 = .ok (.astore 4, 2) := by decide +kernel
theorem own_d9_55 : decode method_3_code 55 = .ok (.goto 99, 3) := by decide +kernel
theorem own_d9_58 : decode method_3_code 58 = .ok (.iload_n 3, 1) := by decide +kernel
theorem own_d9_59 : decode method_3_code 59 = .ok (.iconst 1, 1) := by decide +kernel
theorem own_d9_60 : decode method_3_code 60 = .ok (.if_icmp .ne 15, 3) := by decide +kernel
theorem own_d9_63 : decode method_3_code 63 = .ok (.new 7, 3) := by decide +kernel
theorem own_d9_66 : decode method_3_code 66 = .ok (.dup, 1) := by decide +kernel
theorem own_d9_67 : decode method_3_code 67 = .ok (.invokespecial 9, 3) := by decide +kernel
theorem own_d9_70 : decode method_3_code 70 = .ok (.astore 4, 2) := by decide +kernel
theorem own_d9_72 : decode method_3_code 72 = .ok (.goto 82, 3) := by decide +kernel
theorem own_d9_75 : decode method_3_code 75 = .ok (.iload_n 3, 1) := by decide +kernel
theorem own_d9_76 : decode method_3_code 76 = .ok (.iconst 2, 1) := by decide +kernel
theorem own_d9_77 : decode method_3_code 77 = .ok (.if_icmp .ne 25, 3) := by decide +kernel
theorem own_d9_80 : decode method_3_code 80 = .ok (.new 7, 3) := by decide +kernel
theorem own_d9_83 : decode method_3_code 83 = .ok (.dup, 1) := by decide +kernel
theorem own_d9_84 : decode method_3_code 84 = .ok (.invokespecial 9, 3) := by decide +kernel
theorem own_d9_87 : decode method_3_code 87 = .ok (.astore 5, 2) := by decide +kernel
theorem own_d9_89 : decode method_3_code 89 = .ok (.aload 5, 2) := by decide +kernel
theorem own_d9_91 : decode method_3_code 91 = .ok (.aload_n 1, 1) := by decide +kernel
theorem own_d9_92 : decode method_3_code 92 = .ok (.invokevirtual 10, 3) := by decide +kernel
theorem own_d9_95 : decode method_3_code 95 = .ok (.aload 5, 2) := by decide +kernel
theorem own_d9_97 : decode method_3_code 97 = .ok (.astore 4, 2) := by decide +kernel
theorem own_d9_99 : decode method_3_code 99 = .ok (.goto 55, 3) := by decide +kernel
theorem own_d9_102 : decode method_3_code 102 = .ok (.iload_n 3, 1) := by decide +kernel
theorem own_d9_103 : decode method_3_code 103 = .ok (.iconst 3, 1) := by decide +kernel
theorem own_d9_104 : decode method_3_code 104 = .ok (.if_icmp .ne 25, 3) := by decide +kernel
theorem own_d9_107 : decode method_3_code 107 = .ok (.new 14, 3) := by decide +kernel
theorem own_d9_110 : decode method_3_code 110 = .ok (.dup, 1) := by decide +kernel
theorem own_d9_111 : decode method_3_code 111 = .ok (.ldc 16, 2) := by decide +kernel
theorem own_d9_113 : decode method_3_code 113 = .ok (.iconst 1, 1) := by decide +kernel
theorem own_d9_114 : decode method_3_code 114 = .ok (.anewarray 18, 3) := by decide +kernel
theorem own_d9_117 : decode method_3_code 117 = .ok (.dup, 1) := by decide +kernel
theorem own_d9_118 : decode method_3_code 118 = .ok (.iconst 0, 1) := by decide +kernel
theorem own_d9_119 : decode method_3_code 119 = .ok (.aload_n 1, 1) := by decide +kernel
theorem own_d9_120 : decode method_3_code 120 = .ok (.aastore, 1) := by decide +kernel
theorem own_d9_121 : decode method_3_code 121 = .ok (.invokespecial 20, 3) := by decide +kernel
theorem own_d9_124 : decode method_3_code 124 = .ok (.astore 4, 2) := by decide +kernel
theorem own_d9_126 : decode method_3_code 126 = .ok (.goto 28, 3) := by decide +kernel
theorem own_d9_129 : decode method_3_code 129 = .ok (.new 14, 3) := by decide +kernel
theorem own_d9_132 : decode method_3_code 132 = .ok (.dup, 1) := by decide +kernel
theorem own_d9_133 : decode method_3_code 133 = .ok (.ldc 16, 2) := by decide +kernel
theorem own_d9_135 : decode method_3_code 135 = .ok (.iconst 1, 1) := by decide +kernel
theorem own_d9_136 : decode method_3_code 136 = .ok (.anewarray 18, 3) := by decide +kernel
theorem own_d9_139 : decode method_3_code 139 = .ok (.dup, 1) := by decide +kernel
theorem own_d9_140 : decode method_3_code 140 = .ok (.iconst 0, 1) := by decide +kernel
theorem own_d9_141 : decode method_3_code 141 = .ok (.new 7, 3) := by decide +kernel
theorem own_d9_144 : decode method_3_code 144 = .ok (.dup, 1) := by decide +kernel
theorem own_d9_145 : decode method_3_code 145 = .ok (.invokespecial 9, 3) := by decide +kernel
theorem own_d9_148 : decode method_3_code 148 = .ok (.aastore, 1) := by decide +kernel
theorem own_d9_149 : decode method_3_code 149 = .ok (.invokespecial 20, 3) := by decide +kernel
theorem own_d9_152 : decode method_3_code 152 = .ok (.astore 4, 2) := by decide +kernel
theorem own_d9_154 : decode method_3_code 154 = .ok (.new 14, 3) := by decide +kernel
theorem own_d9_157 : decode method_3_code 157 = .ok (.dup, 1) := by decide +kernel
theorem own_d9_158 : decode method_3_code 158 = .ok (.ldc 16, 2) := by decide +kernel
theorem own_d9_160 : decode method_3_code 160 = .ok (.iconst 1, 1) := by decide +kernel
theorem own_d9_161 : decode method_3_code 161 = .ok (.anewarray 18, 3) := by decide +kernel
theorem own_d9_164 : decode method_3_code 164 = .ok (.dup, 1) := by decide +kernel
theorem own_d9_165 : decode method_3_code 165 = .ok (.iconst 0, 1) := by decide +kernel
theorem own_d9_166 : decode method_3_code 166 = .ok (.aload 4, 2) := by decide +kernel
theorem own_d9_168 : decode method_3_code 168 = .ok (.aastore, 1) := by decide +kernel
theorem own_d9_169 : decode method_3_code 169 = .ok (.invokespecial 20, 3) := by decide +kernel
theorem own_d9_172 : decode method_3_code 172 = .ok (.areturn, 1) := by decide +kernel
theorem own_pn_9 : plainName "com/example/nashwaak/nashwaak/terms/CompoundIsWrittenGroundPinLaw" = true := by first | (simp [plainName, overriddenIn]; done) | decide +kernel
theorem own_d10_0 : decode prog_155_method_1_code 0 = .ok (.aload_n 0, 1) := by decide +kernel
theorem own_d10_1 : decode prog_155_method_1_code 1 = .ok (.aload_n 2, 1) := by decide +kernel
theorem own_d10_2 : decode prog_155_method_1_code 2 = .ok (.invokevirtual 1, 3) := by decide +kernel
theorem own_d10_5 : decode prog_155_method_1_code 5 = .ok (.checkcast 2, 3) := by decide +kernel
theorem own_d10_8 : decode prog_155_method_1_code 8 = .ok (.aload_n 1, 1) := by decide +kernel
theorem own_d10_9 : decode prog_155_method_1_code 9 = .ok (.invokespecial 7, 3) := by decide +kernel
theorem own_d10_12 : decode prog_155_method_1_code 12 = .ok (.return_, 1) := by decide +kernel
theorem own_pn_10 : plainName "com/example/nashwaak/nashwaak/terms/Compound" = true := by first | (simp [plainName, overriddenIn]; done) | decide +kernel
theorem own_d11_0 : decode prog_155_method_2_code 0 = .ok (.aload_n 0, 1) := by decide +kernel
theorem own_d11_1 : decode prog_155_method_2_code 1 = .ok (.invokespecial 13, 3) := by decide +kernel
theorem own_d11_4 : decode prog_155_method_2_code 4 = .ok (.aload_n 2, 1) := by decide +kernel
theorem own_d11_5 : decode prog_155_method_2_code 5 = .ok (.ldc 18, 2) := by decide +kernel
theorem own_d11_7 : decode prog_155_method_2_code 7 = .ok (.invokestatic 20, 3) := by decide +kernel
theorem own_d11_10 : decode prog_155_method_2_code 10 = .ok (.pop, 1) := by decide +kernel
theorem own_d11_11 : decode prog_155_method_2_code 11 = .ok (.aload_n 1, 1) := by decide +kernel
theorem own_d11_12 : decode prog_155_method_2_code 12 = .ok (.arraylength, 1) := by decide +kernel
theorem own_d11_13 : decode prog_155_method_2_code 13 = .ok (.ifCond .ne 17, 3) := by decide +kernel
theorem own_d11_16 : decode prog_155_method_2_code 16 = .ok (.new 26, 3) := by decide +kernel
theorem own_d11_19 : decode prog_155_method_2_code 19 = .ok (.dup, 1) := by decide +kernel
theorem own_d11_20 : decode prog_155_method_2_code 20 = .ok (.aload_n 2, 1) := by decide +kernel
theorem own_d11_21 : decode prog_155_method_2_code 21 = .ok (.invokedynamic 28, 5) := by decide +kernel
theorem own_d11_26 : decode prog_155_method_2_code 26 = .ok (.invokespecial 32, 3) := by decide +kernel
theorem own_d11_29 : decode prog_155_method_2_code 29 = .ok (.athrow, 1) := by decide +kernel
theorem own_d11_30 : decode prog_155_method_2_code 30 = .ok (.aload_n 0, 1) := by decide +kernel
theorem own_d11_31 : decode prog_155_method_2_code 31 = .ok (.aload_n 2, 1) := by decide +kernel
theorem own_d11_32 : decode prog_155_method_2_code 32 = .ok (.putfield 35, 3) := by decide +kernel
theorem own_d11_35 : decode prog_155_method_2_code 35 = .ok (.aload_n 0, 1) := by decide +kernel
theorem own_d11_36 : decode prog_155_method_2_code 36 = .ok (.aload_n 1, 1) := by decide +kernel
theorem own_d11_37 : decode prog_155_method_2_code 37 = .ok (.putfield 38, 3) := by decide +kernel
theorem own_d11_40 : decode prog_155_method_2_code 40 = .ok (.iconst 1, 1) := by decide +kernel
theorem own_d11_41 : decode prog_155_method_2_code 41 = .ok (.istore_n 3, 1) := by decide +kernel
theorem own_d11_42 : decode prog_155_method_2_code 42 = .ok (.aload_n 0, 1) := by decide +kernel
theorem own_d11_43 : decode prog_155_method_2_code 43 = .ok (.getfield 38, 3) := by decide +kernel
theorem own_d11_46 : decode prog_155_method_2_code 46 = .ok (.astore 4, 2) := by decide +kernel
theorem own_d11_48 : decode prog_155_method_2_code 48 = .ok (.aload 4, 2) := by decide +kernel
theorem own_d11_50 : decode prog_155_method_2_code 50 = .ok (.arraylength, 1) := by decide +kernel
theorem own_d11_51 : decode prog_155_method_2_code 51 = .ok (.istore 5, 2) := by decide +kernel
theorem own_d11_53 : decode prog_155_method_2_code 53 = .ok (.iconst 0, 1) := by decide +kernel
theorem own_d11_54 : decode prog_155_method_2_code 54 = .ok (.istore 6, 2) := by decide +kernel
theorem own_d11_56 : decode prog_155_method_2_code 56 = .ok (.iload 6, 2) := by decide +kernel
theorem own_d11_58 : decode prog_155_method_2_code 58 = .ok (.iload 5, 2) := by decide +kernel
theorem own_d11_60 : decode prog_155_method_2_code 60 = .ok (.if_icmp .ge 53, 3) := by decide +kernel
theorem own_d11_63 : decode prog_155_method_2_code 63 = .ok (.aload 4, 2) := by decide +kernel
theorem own_d11_65 : decode prog_155_method_2_code 65 = .ok (.iload 6, 2) := by decide +kernel
theorem own_d11_67 : decode prog_155_method_2_code 67 = .ok (.aaload, 1) := by decide +kernel
theorem own_d11_68 : decode prog_155_method_2_code 68 = .ok (.astore 7, 2) := by decide +kernel
theorem own_d11_70 : decode prog_155_method_2_code 70 = .ok (.aload 7, 2) := by decide +kernel
theorem own_d11_72 : decode prog_155_method_2_code 72 = .ok (.ifnonnull 17, 3) := by decide +kernel
theorem own_d11_75 : decode prog_155_method_2_code 75 = .ok (.new 41, 3) := by decide +kernel
theorem own_d11_78 : decode prog_155_method_2_code 78 = .ok (.dup, 1) := by decide +kernel
theorem own_d11_79 : decode prog_155_method_2_code 79 = .ok (.aload_n 2, 1) := by decide +kernel
theorem own_d11_80 : decode prog_155_method_2_code 80 = .ok (.invokedynamic 43, 5) := by decide +kernel
theorem own_d11_85 : decode prog_155_method_2_code 85 = .ok (.invokespecial 44, 3) := by decide +kernel
theorem own_d11_88 : decode prog_155_method_2_code 88 = .ok (.athrow, 1) := by decide +kernel
theorem own_d11_89 : decode prog_155_method_2_code 89 = .ok (.iload_n 3, 1) := by decide +kernel
theorem own_d11_90 : decode prog_155_method_2_code 90 = .ok (.ifCond .eq 15, 3) := by decide +kernel
theorem own_d11_93 : decode prog_155_method_2_code 93 = .ok (.aload 7, 2) := by decide +kernel
theorem own_d11_95 : decode prog_155_method_2_code 95 = .ok (.invokestatic 45, 3) := by decide +kernel
theorem own_d11_98 : decode prog_155_method_2_code 98 = .ok (.ifCond .eq 7, 3) := by decide +kernel
theorem own_d11_101 : decode prog_155_method_2_code 101 = .ok (.iconst 1, 1) := by decide +kernel
theorem own_d11_102 : decode prog_155_method_2_code 102 = .ok (.goto 4, 3) := by decide +kernel
theorem own_d11_105 : decode prog_155_method_2_code 105 = .ok (.iconst 0, 1) := by decide +kernel
theorem own_d11_106 : decode prog_155_method_2_code 106 = .ok (.istore_n 3, 1) := by decide +kernel
theorem own_d11_107 : decode prog_155_method_2_code 107 = .ok (.iinc 6 1, 3) := by decide +kernel
theorem own_d11_110 : decode prog_155_method_2_code 110 = .ok (.goto (-54), 3) := by decide +kernel
theorem own_d11_113 : decode prog_155_method_2_code 113 = .ok (.aload_n 0, 1) := by decide +kernel
theorem own_d11_114 : decode prog_155_method_2_code 114 = .ok (.iload_n 3, 1) := by decide +kernel
theorem own_d11_115 : decode prog_155_method_2_code 115 = .ok (.putfield 49, 3) := by decide +kernel
theorem own_d11_118 : decode prog_155_method_2_code 118 = .ok (.return_, 1) := by decide +kernel
theorem own_pn_11 : plainName "com/example/nashwaak/nashwaak/terms/Compound" = true := by first | (simp [plainName, overriddenIn]; done) | decide +kernel
theorem own_d12_0 : decode prog_155_method_10_code 0 = .ok (.aload_n 0, 1) := by decide +kernel
theorem own_d12_1 : decode prog_155_method_10_code 1 = .ok (.instanceof 8, 3) := by decide +kernel
theorem own_d12_4 : decode prog_155_method_10_code 4 = .ok (.ifCond .eq 15, 3) := by decide +kernel
theorem own_d12_7 : decode prog_155_method_10_code 7 = .ok (.aload_n 0, 1) := by decide +kernel
theorem own_d12_8 : decode prog_155_method_10_code 8 = .ok (.checkcast 8, 3) := by decide +kernel
theorem own_d12_11 : decode prog_155_method_10_code 11 = .ok (.astore_n 1, 1) := by decide +kernel
theorem own_d12_12 : decode prog_155_method_10_code 12 = .ok (.aload_n 1, 1) := by decide +kernel
theorem own_d12_13 : decode prog_155_method_10_code 13 = .ok (.getfield 49, 3) := by decide +kernel
theorem own_d12_16 : decode prog_155_method_10_code 16 = .ok (.goto 15, 3) := by decide +kernel
theorem own_d12_19 : decode prog_155_method_10_code 19 = .ok (.aload_n 0, 1) := by decide +kernel
theorem own_d12_20 : decode prog_155_method_10_code 20 = .ok (.instanceof 56, 3) := by decide +kernel
theorem own_d12_23 : decode prog_155_method_10_code 23 = .ok (.ifCond .ne 7, 3) := by decide +kernel
theorem own_d12_26 : decode prog_155_method_10_code 26 = .ok (.iconst 1, 1) := by decide +kernel
theorem own_d12_27 : decode prog_155_method_10_code 27 = .ok (.goto 4, 3) := by decide +kernel
theorem own_d12_30 : decode prog_155_method_10_code 30 = .ok (.iconst 0, 1) := by decide +kernel
theorem own_d12_31 : decode prog_155_method_10_code 31 = .ok (.ireturn, 1) := by decide +kernel
theorem own_pn_12 : plainName "com/example/nashwaak/nashwaak/terms/Compound" = true := by first | (simp [plainName, overriddenIn]; done) | decide +kernel
theorem own_d13_0 : decode prog_170_method_1_code 0 = .ok (.aload_n 0, 1) := by decide +kernel
theorem own_d13_1 : decode prog_170_method_1_code 1 = .ok (.iconst (-1), 1) := by decide +kernel
theorem own_d13_2 : decode prog_170_method_1_code 2 = .ok (.iconst 0, 1) := by decide +kernel
theorem own_d13_3 : decode prog_170_method_1_code 3 = .ok (.invokespecial 1, 3) := by decide +kernel
theorem own_d13_6 : decode prog_170_method_1_code 6 = .ok (.return_, 1) := by decide +kernel
theorem own_pn_13 : plainName "com/example/nashwaak/nashwaak/terms/Variable" = true := by first | (simp [plainName, overriddenIn]; done) | decide +kernel
theorem own_d14_0 : decode prog_170_method_2_code 0 = .ok (.aload_n 0, 1) := by decide +kernel
theorem own_d14_1 : decode prog_170_method_2_code 1 = .ok (.invokespecial 7, 3) := by decide +kernel
theorem own_d14_4 : decode prog_170_method_2_code 4 = .ok (.aload_n 0, 1) := by decide +kernel
theorem own_d14_5 : decode prog_170_method_2_code 5 = .ok (.iload_n 1, 1) := by decide +kernel
theorem own_d14_6 : decode prog_170_method_2_code 6 = .ok (.putfield 12, 3) := by decide +kernel
theorem own_d14_9 : decode prog_170_method_2_code 9 = .ok (.aload_n 0, 1) := by decide +kernel
theorem own_d14_10 : decode prog_170_method_2_code 10 = .ok (.iload_n 2, 1) := by decide +kernel
theorem own_d14_11 : decode prog_170_method_2_code 11 = .ok (.putfield 16, 3) := by decide +kernel
theorem own_d14_14 : decode prog_170_method_2_code 14 = .ok (.return_, 1) := by decide +kernel
theorem own_pn_14 : plainName "com/example/nashwaak/nashwaak/terms/Variable" = true := by first | (simp [plainName, overriddenIn]; done) | decide +kernel
theorem own_d15_0 : decode prog_170_method_5_code 0 = .ok (.aload_n 0, 1) := by decide +kernel
theorem own_d15_1 : decode prog_170_method_5_code 1 = .ok (.getfield 19, 3) := by decide +kernel
theorem own_d15_4 : decode prog_170_method_5_code 4 = .ok (.ifnull 13, 3) := by decide +kernel
theorem own_d15_7 : decode prog_170_method_5_code 7 = .ok (.new 23, 3) := by decide +kernel
theorem own_d15_10 : decode prog_170_method_5_code 10 = .ok (.dup, 1) := by decide +kernel
theorem own_d15_11 : decode prog_170_method_5_code 11 = .ok (.ldc 25, 2) := by decide +kernel
theorem own_d15_13 : decode prog_170_method_5_code 13 = .ok (.invokespecial 27, 3) := by decide +kernel
theorem own_d15_16 : decode prog_170_method_5_code 16 = .ok (.athrow, 1) := by decide +kernel
theorem own_d15_17 : decode prog_170_method_5_code 17 = .ok (.aload_n 0, 1) := by decide +kernel
theorem own_d15_18 : decode prog_170_method_5_code 18 = .ok (.aload_n 1, 1) := by decide +kernel
theorem own_d15_19 : decode prog_170_method_5_code 19 = .ok (.ldc 30, 2) := by decide +kernel
theorem own_d15_21 : decode prog_170_method_5_code 21 = .ok (.invokestatic 32, 3) := by decide +kernel
theorem own_d15_24 : decode prog_170_method_5_code 24 = .ok (.checkcast 8, 3) := by decide +kernel
theorem own_d15_27 : decode prog_170_method_5_code 27 = .ok (.putfield 19, 3) := by decide +kernel
theorem own_d15_30 : decode prog_170_method_5_code 30 = .ok (.return_, 1) := by decide +kernel
theorem own_pn_15 : plainName "com/example/nashwaak/nashwaak/terms/Variable" = true := by first | (simp [plainName, overriddenIn]; done) | decide +kernel
theorem own_d16_0 : decode method_2_code 0 = .ok (.iload_n 0, 1) := by decide +kernel
theorem own_d16_1 : decode method_2_code 1 = .ok (.bipush 7, 2) := by decide +kernel
theorem own_d16_3 : decode method_2_code 3 = .ok (.iand, 1) := by decide +kernel
theorem own_d16_4 : decode method_2_code 4 = .ok (.istore_n 1, 1) := by decide +kernel
theorem own_d16_5 : decode method_2_code 5 = .ok (.iload_n 1, 1) := by decide +kernel
theorem own_d16_6 : decode method_2_code 6 = .ok (.ifCond .eq 14, 3) := by decide +kernel
theorem own_d16_9 : decode method_2_code 9 = .ok (.iload_n 1, 1) := by decide +kernel
theorem own_d16_10 : decode method_2_code 10 = .ok (.iconst 3, 1) := by decide +kernel
theorem own_d16_11 : decode method_2_code 11 = .ok (.if_icmp .eq 9, 3) := by decide +kernel
theorem own_d16_14 : decode method_2_code 14 = .ok (.iload_n 1, 1) := by decide +kernel
theorem own_d16_15 : decode method_2_code 15 = .ok (.bipush 6, 2) := by decide +kernel
theorem own_d16_17 : decode method_2_code 17 = .ok (.if_icmp .ne 7, 3) := by decide +kernel
theorem own_d16_20 : decode method_2_code 20 = .ok (.iconst 1, 1) := by decide +kernel
theorem own_d16_21 : decode method_2_code 21 = .ok (.goto 4, 3) := by decide +kernel
theorem own_d16_24 : decode method_2_code 24 = .ok (.iconst 0, 1) := by decide +kernel
theorem own_d16_25 : decode method_2_code 25 = .ok (.ireturn, 1) := by decide +kernel
theorem own_pn_16 : plainName "com/example/nashwaak/nashwaak/terms/CompoundIsWrittenGroundPinLaw" = true := by first | (simp [plainName, overriddenIn]; done) | decide +kernel
theorem own_pn_0 : plainName "com/example/nashwaak/nashwaak/terms/CompoundIsWrittenGroundPinLaw" = true := by first | (simp [plainName, overriddenIn]; done) | decide +kernel
theorem own_pd___V : parseMethodDescriptor "()V" = some ⟨[], none⟩ := by decide +kernel
theorem own_pd__C_Ljava_lang_String_ : parseMethodDescriptor "(C)Ljava/lang/String;" = some ⟨[.char], (some (.object "java/lang/String"))⟩ := by decide +kernel
theorem own_pd__C_Z : parseMethodDescriptor "(C)Z" = some ⟨[.char], (some .boolean)⟩ := by decide +kernel
theorem own_pd__C__B : parseMethodDescriptor "(C)[B" = some ⟨[.char], (some (.array .byte))⟩ := by decide +kernel
theorem own_pd__I_Z : parseMethodDescriptor "(I)Z" = some ⟨[.int], (some .boolean)⟩ := by decide +kernel
theorem own_pd__II_V : parseMethodDescriptor "(II)V" = some ⟨[.int, .int], none⟩ := by decide +kernel
theorem own_pd__ILcom_example_nashwaak_nashwaak_terms_Atom__Lcom_example_nashwaak_nashwaak_terms_Term_ : parseMethodDescriptor "(ILcom/example/nashwaak/nashwaak/terms/Atom;)Lcom/example/nashwaak/nashwaak/terms/Term;" = some ⟨[.int, (.object "com/example/nashwaak/nashwaak/terms/Atom")], (some (.object "com/example/nashwaak/nashwaak/terms/Term"))⟩ := by decide +kernel
theorem own_pd__Lcom_example_nashwaak_nashwaak_terms_Term__V : parseMethodDescriptor "(Lcom/example/nashwaak/nashwaak/terms/Term;)V" = some ⟨[(.object "com/example/nashwaak/nashwaak/terms/Term")], none⟩ := by decide +kernel
theorem own_pd__Lcom_example_nashwaak_nashwaak_terms_Term__Z : parseMethodDescriptor "(Lcom/example/nashwaak/nashwaak/terms/Term;)Z" = some ⟨[(.object "com/example/nashwaak/nashwaak/terms/Term")], (some .boolean)⟩ := by decide +kernel
theorem own_pd__Ljava_lang_Object_Ljava_lang_String__Ljava_lang_Object_ : parseMethodDescriptor "(Ljava/lang/Object;Ljava/lang/String;)Ljava/lang/Object;" = some ⟨[(.object "java/lang/Object"), (.object "java/lang/String")], (some (.object "java/lang/Object"))⟩ := by decide +kernel
theorem own_pd__Ljava_lang_String__V : parseMethodDescriptor "(Ljava/lang/String;)V" = some ⟨[(.object "java/lang/String")], none⟩ := by decide +kernel
theorem own_pd__Ljava_lang_String__Lcom_example_nashwaak_nashwaak_terms_Term__V : parseMethodDescriptor "(Ljava/lang/String;[Lcom/example/nashwaak/nashwaak/terms/Term;)V" = some ⟨[(.object "java/lang/String"), (.array (.object "com/example/nashwaak/nashwaak/terms/Term"))], none⟩ := by decide +kernel
theorem own_pd___BB_V : parseMethodDescriptor "([BB)V" = some ⟨[(.array .byte), .byte], none⟩ := by decide +kernel
theorem own_pd___Lcom_example_nashwaak_nashwaak_terms_Term_Ljava_lang_String__V : parseMethodDescriptor "([Lcom/example/nashwaak/nashwaak/terms/Term;Ljava/lang/String;)V" = some ⟨[(.array (.object "com/example/nashwaak/nashwaak/terms/Term")), (.object "java/lang/String")], none⟩ := by decide +kernel
theorem own_rm7_ef (m : MethodId) (a5 : Addr)  : entryFrame m #[(.ref a5)] 1 = mkF m 0 #[.val (.ref a5)] [] := by first | (simp [entryFrame, mkF, argsToLocals, Value.category, maxLocals]; done) | rfl
set_option maxRecDepth 65536 in
set_option maxHeartbeats 40000000 in
theorem own_rm7 (l : Launch) (Z : State) (a0 : Array Value) (hw : ∀ d ∈ tables_1, d.before a0 Z = true) (a5 : Addr) (h0 : Heap) (n0 : Nat) (Z0 : n0 ≤ h0.size)  :
    own_Met l (⟨"com/example/nashwaak/nashwaak/terms/Term", "<init>", "()V"⟩ : MethodName) (Jvm.Cond.code (⟨"com/example/nashwaak/nashwaak/terms/Term", "<init>", "()V"⟩ : MethodName) prog_166_method_1_code 1 none :: []) ({ frames := 1, cells := 0, slots := 0, locals := 12 } : Room) Z h0 #[(.ref a5)] (fun v h L => v = none ∧ Fr n0 L ∧ h = h0) := by
  refine own_body (pn := own_pn_7) ?_
  intro p e s m below meth c s₁ hx hby hml hown hnm hret hlk hZ X0 e0
  have N0 := Fr.nil n0
  refine own_go (fun _ kont => castTop (own_rm7_ef m a5 ) kont) ?_
  show own_Go p.tables e below _ (s₁.setTop (mkF m 0 #[.val (.ref a5)] []))
  refine own_go (fun _ kont => XS.aloadN X0.here hx rfl (hb hby own_d7_0) rfl rfl kont) ?_
  show own_Go p.tables e below _ (s₁.setTop (mkF m 1 #[.val (.ref a5)] [(.ref a5)]))
  obtain ⟨T101, X101, e101, st101⟩ := initO X0 hx hZ hown (hw _ (List.mem_of_getElem? (i := 37) rfl)) (hw _ (List.mem_of_getElem? (i := 23) rfl)) (hw _ (List.mem_of_getElem? (i := 24) rfl)) e0 (g := (mkF m 1 #[.val (.ref a5)] [(.ref a5)])) rfl (by rw [hml]; rfl) rfl (hb hby own_d7_1) (by decide) (W := 0) (by show 2 * 0 + _ ≤ _; exact Nat.le_of_eq rfl) (by decide)
  refine own_go st101 ?_
  show own_Go p.tables e below _ (T101.setTop (mkF m 4 #[.val (.ref a5)] []))
  exact own_retV X101 hx hlk hret (hb hby own_d7_4) (⟨rfl, N0, e101⟩) (by decide) (by decide)
theorem own_rm8_ef (m : MethodId) (a5 : Addr) (b5 : Addr)  : entryFrame m #[(.ref a5), (.ref b5)] 2 = mkF m 0 #[.val (.ref a5), .val (.ref b5)] [] := by first | (simp [entryFrame, mkF, argsToLocals, Value.category, maxLocals]; done) | rfl
set_option maxRecDepth 65536 in
set_option maxHeartbeats 40000000 in
theorem own_rm8 (l : Launch) (Z : State) (a0 : Array Value) (hw : ∀ d ∈ tables_1, d.before a0 Z = true) (a5 : Addr) (b5 : Addr) (h0 : Heap) (n0 : Nat) (Z0 : n0 ≤ h0.size)  :
    own_Met l (⟨"java/util/Objects", "requireNonNull", "(Ljava/lang/Object;Ljava/lang/String;)Ljava/lang/Object;"⟩ : MethodName) (Jvm.Cond.code (⟨"java/util/Objects", "requireNonNull", "(Ljava/lang/Object;Ljava/lang/String;)Ljava/lang/Object;"⟩ : MethodName) jdk_31_method_11_code 2 (some (.object "java/lang/Object")) :: []) ({ frames := 0, cells := 0, slots := 0, locals := 0 } : Room) Z h0 #[(.ref a5), (.ref b5)] (fun v h L => v = some (.ref a5) ∧ Fr n0 L ∧ h = h0) := by
  refine own_body (pn := own_pn_8) ?_
  intro p e s m below meth c s₁ hx hby hml hown hnm hret hlk hZ X0 e0
  have N0 := Fr.nil n0
  refine own_go (fun _ kont => castTop (own_rm8_ef m a5 b5 ) kont) ?_
  show own_Go p.tables e below _ (s₁.setTop (mkF m 0 #[.val (.ref a5), .val (.ref b5)] []))
  refine own_go (fun _ kont => XS.aloadN X0.here hx rfl (hb hby own_d8_0) rfl rfl kont) ?_
  show own_Go p.tables e below _ (s₁.setTop (mkF m 1 #[.val (.ref a5), .val (.ref b5)] [(.ref a5)]))
  refine own_go (fun _ kont => XS.ifnonnullYes X0.here hx rfl (pc0 := 1) (pc' := 13) rfl (hb hby own_d8_1) rfl (by decide) (by decide) kont) ?_
  show own_Go p.tables e below _ (s₁.setTop (mkF m 13 #[.val (.ref a5), .val (.ref b5)] []))
  refine own_go (fun _ kont => XS.aloadN X0.here hx rfl (hb hby own_d8_13) rfl rfl kont) ?_
  show own_Go p.tables e below _ (s₁.setTop (mkF m 14 #[.val (.ref a5), .val (.ref b5)] [(.ref a5)]))
  exact own_retA X0 hx hlk hret rfl rfl (hb hby own_d8_14) (⟨rfl, N0, e0⟩) (by decide) (by decide)
theorem own_rm2_ef (m : MethodId) (p1 : Int32)  : entryFrame m #[(.int p1)] 1 = mkF m 0 #[.val (.int p1)] [] := by first | (simp [entryFrame, mkF, argsToLocals, Value.category, maxLocals]; done) | rfl
set_option maxRecDepth 65536 in
set_option maxHeartbeats 40000000 in
theorem own_rm2 (l : Launch) (Z : State) (a0 : Array Value) (hw : ∀ d ∈ tables_1, d.before a0 Z = true) (p1 : Int32) (h0 : Heap) (n0 : Nat) (Z0 : n0 ≤ h0.size) (hc : ¬ 255 < p1) :
    own_Met l (⟨"java/lang/StringLatin1", "canEncode", "(C)Z"⟩ : MethodName) (Jvm.Cond.code (⟨"java/lang/StringLatin1", "canEncode", "(C)Z"⟩ : MethodName) jdk_43_method_3_code 1 (some .boolean) :: []) ({ frames := 0, cells := 0, slots := 0, locals := 0 } : Room) Z h0 #[(.int p1)] (fun v h L => v = some (.int 1) ∧ Fr n0 L ∧ h = h0) := by
  refine own_body (pn := own_pn_2) ?_
  intro p e s m below meth c s₁ hx hby hml hown hnm hret hlk hZ X0 e0
  have N0 := Fr.nil n0
  refine own_go (fun _ kont => castTop (own_rm2_ef m p1 ) kont) ?_
  show own_Go p.tables e below _ (s₁.setTop (mkF m 0 #[.val (.int p1)] []))
  refine own_go (fun _ kont => XS.iloadN X0.here hx rfl (hb hby own_d2_0) rfl kont) ?_
  show own_Go p.tables e below _ (s₁.setTop (mkF m 1 #[.val (.int p1)] [(.int p1)]))
  refine own_go (fun _ kont => XS.sipush X0.here hx rfl (hb hby own_d2_1) kont) ?_
  show own_Go p.tables e below _ (s₁.setTop (mkF m 4 #[.val (.int p1)] [(.int (255 : Int32)), (.int p1)]))
  refine own_go (fun _ kont => XS.icmpNo X0.here hx rfl (hb hby own_d2_4) rfl (XT.ii_gt_f (hc)) kont) ?_
  show own_Go p.tables e below _ (s₁.setTop (mkF m 7 #[.val (.int p1)] []))
  refine own_go (fun _ kont => XS.iconst X0.here hx rfl (hb hby own_d2_7) kont) ?_
  show own_Go p.tables e below _ (s₁.setTop (mkF m 8 #[.val (.int p1)] [(.int (1 : Int32))]))
  refine own_go (fun _ kont => XS.goto X0.here hx rfl (pc0 := 8) (pc' := 12) rfl (hb hby own_d2_8) (by decide) (by decide) kont) ?_
  show own_Go p.tables e below _ (s₁.setTop (mkF m 12 #[.val (.int p1)] [(.int (1 : Int32))]))
  exact own_retI X0 hx hlk hret (by simp) rfl (hb hby own_d2_12) (⟨rfl, N0, e0⟩) (by decide) (by decide)
theorem own_rm3_ef (m : MethodId) (p1 : Int32)  : entryFrame m #[(.int p1)] 1 = mkF m 0 #[.val (.int p1)] [] := by first | (simp [entryFrame, mkF, argsToLocals, Value.category, maxLocals]; done) | rfl
set_option maxRecDepth 65536 in
set_option maxHeartbeats 40000000 in
theorem own_rm3 (l : Launch) (Z : State) (a0 : Array Value) (hw : ∀ d ∈ tables_1, d.before a0 Z = true) (p1 : Int32) (h0 : Heap) (n0 : Nat) (Z0 : n0 ≤ h0.size)  :
    own_Met l (⟨"java/lang/StringLatin1", "toBytes", "(C)[B"⟩ : MethodName) (Jvm.Cond.code (⟨"java/lang/StringLatin1", "toBytes", "(C)[B"⟩ : MethodName) jdk_43_method_46_code 1 (some (.array .byte)) :: []) ({ frames := 0, cells := 1, slots := 1, locals := 0 } : Room) Z h0 #[(.int p1)] (fun v h L => ∃ r, v = some (.ref r) ∧ h0.size ≤ r ∧ Fr n0 L ∧ Keep h0 h []) := by
  refine own_body (pn := own_pn_3) ?_
  intro p e s m below meth c s₁ hx hby hml hown hnm hret hlk hZ X0 e0
  have N0 := Fr.nil n0
  refine own_go (fun _ kont => castTop (own_rm3_ef m p1 ) kont) ?_
  show own_Go p.tables e below _ (s₁.setTop (mkF m 0 #[.val (.int p1)] []))
  have K0 : Keep h0 h0 [] := Keep.refl _ _
  refine own_go (fun _ kont => XS.iconst X0.here hx rfl (hb hby own_d3_0) kont) ?_
  show own_Go p.tables e below _ (s₁.setTop (mkF m 1 #[.val (.int p1)] [(.int (1 : Int32))]))
  obtain ⟨T102, h102, cA102, X102, e102, E102, A102, B102, st102⟩ := newPE X0 hx hZ (hw _ (List.mem_of_getElem? (i := 17) rfl)) e0 (g := (mkF m 1 #[.val (.int p1)] [(.int (1 : Int32))])) rfl (hb hby own_d3_1) rfl (by decide) (cap := 1) (by decide) (by decide) (by decide) (by decide) rfl
  obtain ⟨b1, g102⟩ : ∃ z, z = h0.size := ⟨_, rfl⟩
  rw [← g102] at A102 B102 st102
  have ge_b1 : n0 ≤ b1 := by rw [g102]; exact Z0
  have kb_b1 : h0.size ≤ b1 := by rw [g102]; exact K0.1
  have Z103 : n0 ≤ h102.size := Nat.le_trans Z0 E102.1
  have K103 : Keep h0 h102 [] := Keep.ext K0 E102
  have E_b1_104 : Exa Z h102 b1 "[B" := B102
  have V_b1_105 : own_Av Z h102 b1 cA102 .byte 1 (fun _ => defaultValue .byte) := own_Av.new (ty := .byte) A102 (by decide)
  refine own_go st102 ?_
  show own_Go p.tables e below _ (T102.setTop (mkF m 3 #[.val (.int p1)] [(.ref b1)]))
  refine own_go (fun _ kont => XS.dup X102.here hx rfl (hb hby own_d3_3) rfl rfl kont) ?_
  show own_Go p.tables e below _ (T102.setTop (mkF m 4 #[.val (.int p1)] [(.ref b1), (.ref b1)]))
  refine own_go (fun _ kont => XS.iconst X102.here hx rfl (hb hby own_d3_4) kont) ?_
  show own_Go p.tables e below _ (T102.setTop (mkF m 5 #[.val (.int p1)] [(.int (0 : Int32)), (.ref b1), (.ref b1)]))
  refine own_go (fun _ kont => XS.iloadN X102.here hx rfl (hb hby own_d3_5) rfl kont) ?_
  show own_Go p.tables e below _ (T102.setTop (mkF m 6 #[.val (.int p1)] [(.int p1), (.int (0 : Int32)), (.ref b1), (.ref b1)]))
  refine own_go (fun _ kont => XS.i2b X102.here hx rfl (hb hby own_d3_6) rfl kont) ?_
  show own_Go p.tables e below _ (T102.setTop (mkF m 7 #[.val (.int p1)] [(.int (p1.toInt8.toInt32)), (.int (0 : Int32)), (.ref b1), (.ref b1)]))
  refine own_bast X102 hx hZ e102 V_b1_105 0 (by decide) (by decide) (by decide) (hb hby own_d3_7) ?_
  intro T106 h106 X106 e106 W106
  have E_b1_107 : Exa Z h106 b1 "[B" := Exa.wr W106 E_b1_104
  have V_b1_108 : own_Av Z h106 b1 cA102 .byte 1 (fun x => if x = 0 then .int ((p1.toInt8.toInt32).toInt8.toInt32) else (fun _ => defaultValue .byte) x) := own_Av.set V_b1_105 W106 (by decide)
  have N109 := Fr.snoc X106 N0 ge_b1
  have Z109 : n0 ≤ h106.size := by rw [W106.size]; exact Z103
  have K109 : Keep h0 h106 [] := Keep.wr K103 W106 (Or.inr kb_b1)
  show own_Go p.tables e below _ (T106.setTop (mkF m 8 #[.val (.int p1)] [(.ref b1)]))
  exact own_retA X106 hx hlk hret rfl rfl (hb hby own_d3_8) (by rw [e106]; exact ⟨_, rfl, kb_b1, N109, K109⟩) (by decide) (by decide)
theorem own_rm4_ef (m : MethodId) (a5 : Addr) (b5 : Addr)  : entryFrame m #[(.ref a5), (.ref b5), (.int (0 : Int32))] 3 = mkF m 0 #[.val (.ref a5), .val (.ref b5), .val (.int (0 : Int32))] [] := by first | (simp [entryFrame, mkF, argsToLocals, Value.category, maxLocals]; done) | rfl
set_option maxRecDepth 65536 in
set_option maxHeartbeats 40000000 in
theorem own_rm4 (l : Launch) (Z : State) (a0 : Array Value) (hw : ∀ d ∈ tables_1, d.before a0 Z = true) (a5 : Addr) (b5 : Addr) (h0 : Heap) (n0 : Nat) (Z0 : n0 ≤ h0.size) (F1 : Fld Z h0 a5 "java/lang/String" "value" "[B" (.null)) (F2 : Fld Z h0 a5 "java/lang/String" "coder" "B" (.int (0 : Int32))) (E1 : Exa Z h0 a5 "java/lang/String") (g1 : n0 ≤ a5) :
    own_Met l (⟨"java/lang/String", "<init>", "([BB)V"⟩ : MethodName) (Jvm.Cond.code (⟨"java/lang/String", "<init>", "([BB)V"⟩ : MethodName) jdk_42_method_151_code 3 none :: []) ({ frames := 1, cells := 0, slots := 0, locals := 12 } : Room) Z h0 #[(.ref a5), (.ref b5), (.int (0 : Int32))] (fun v h L => v = none ∧ Fr n0 L ∧ Keep h0 h [a5]) := by
  refine own_body (pn := own_pn_4) ?_
  intro p e s m below meth c s₁ hx hby hml hown hnm hret hlk hZ X0 e0
  have N0 := Fr.nil n0
  refine own_go (fun _ kont => castTop (own_rm4_ef m a5 b5 ) kont) ?_
  show own_Go p.tables e below _ (s₁.setTop (mkF m 0 #[.val (.ref a5), .val (.ref b5), .val (.int (0 : Int32))] []))
  have K0 : Keep h0 h0 [a5] := Keep.refl _ _
  refine own_go (fun _ kont => XS.aloadN X0.here hx rfl (hb hby own_d4_0) rfl rfl kont) ?_
  show own_Go p.tables e below _ (s₁.setTop (mkF m 1 #[.val (.ref a5), .val (.ref b5), .val (.int (0 : Int32))] [(.ref a5)]))
  obtain ⟨T110, X110, e110, st110⟩ := initO X0 hx hZ hown (hw _ (List.mem_of_getElem? (i := 22) rfl)) (hw _ (List.mem_of_getElem? (i := 23) rfl)) (hw _ (List.mem_of_getElem? (i := 24) rfl)) e0 (g := (mkF m 1 #[.val (.ref a5), .val (.ref b5), .val (.int (0 : Int32))] [(.ref a5)])) rfl (by rw [hml]; rfl) rfl (hb hby own_d4_1) (by decide) (W := 0) (by show 2 * 0 + _ ≤ _; exact Nat.le_of_eq rfl) (by decide)
  refine own_go st110 ?_
  show own_Go p.tables e below _ (T110.setTop (mkF m 4 #[.val (.ref a5), .val (.ref b5), .val (.int (0 : Int32))] []))
  refine own_go (fun _ kont => XS.aloadN X110.here hx rfl (hb hby own_d4_4) rfl rfl kont) ?_
  show own_Go p.tables e below _ (T110.setTop (mkF m 5 #[.val (.ref a5), .val (.ref b5), .val (.int (0 : Int32))] [(.ref a5)]))
  refine own_go (fun _ kont => XS.aloadN X110.here hx rfl (hb hby own_d4_5) rfl rfl kont) ?_
  show own_Go p.tables e below _ (T110.setTop (mkF m 6 #[.val (.ref a5), .val (.ref b5), .val (.int (0 : Int32))] [(.ref b5), (.ref a5)]))
  obtain ⟨T111, h111, X111, e111, W111, st111⟩ := putF X110 hx hZ hown (host := "") (Or.inl (hw _ (List.mem_of_getElem? (i := 25) rfl))) Via.refl e110 F1 E1 (Or.inr ⟨(hw _ (List.mem_of_getElem? (i := 26) rfl)), rfl, hnm⟩) (hw _ (List.mem_of_getElem? (i := 13) rfl)) (ty := (.array .byte)) (by decide) rfl rfl (g := (mkF m 6 #[.val (.ref a5), .val (.ref b5), .val (.int (0 : Int32))] [(.ref b5), (.ref a5)])) rfl rfl (hb hby own_d4_6)
  have Fv_112 : Fld Z h111 a5 "java/lang/String" "value" "[B" (.ref b5) := Fld.same W111 F1
  have Fc_113 : Fld Z h111 a5 "java/lang/String" "coder" "B" (.int (0 : Int32)) := Fld.other W111 F2 (Or.inr (slot_ne (t := .byte) (t' := (.array .byte)) (Or.inr (hw _ (List.mem_of_getElem? (i := 28) rfl))) (Or.inr (hw _ (List.mem_of_getElem? (i := 26) rfl))) (by decide) (by decide) (by decide)))
  have E_a5_114 : Exa Z h111 a5 "java/lang/String" := Exa.wr W111 E1
  have N115 := Fr.snoc X111 N0 g1
  have Z115 : n0 ≤ h111.size := by rw [W111.size]; exact Z0
  have K115 : Keep h0 h111 [a5] := Keep.wr K0 W111 (Or.inl (by simp))
  refine own_go st111 ?_
  show own_Go p.tables e below _ (T111.setTop (mkF m 9 #[.val (.ref a5), .val (.ref b5), .val (.int (0 : Int32))] []))
  refine own_go (fun _ kont => XS.aloadN X111.here hx rfl (hb hby own_d4_9) rfl rfl kont) ?_
  show own_Go p.tables e below _ (T111.setTop (mkF m 10 #[.val (.ref a5), .val (.ref b5), .val (.int (0 : Int32))] [(.ref a5)]))
  refine own_go (fun _ kont => XS.iloadN X111.here hx rfl (hb hby own_d4_10) rfl kont) ?_
  show own_Go p.tables e below _ (T111.setTop (mkF m 11 #[.val (.ref a5), .val (.ref b5), .val (.int (0 : Int32))] [(.int (0 : Int32)), (.ref a5)]))
  obtain ⟨T116, h116, X116, e116, W116, st116⟩ := putF X111 hx hZ hown (host := "") (Or.inl (hw _ (List.mem_of_getElem? (i := 27) rfl))) Via.refl e111 Fc_113 E_a5_114 (Or.inr ⟨(hw _ (List.mem_of_getElem? (i := 28) rfl)), rfl, hnm⟩) (hw _ (List.mem_of_getElem? (i := 13) rfl)) (ty := .byte) (by decide) rfl rfl (g := (mkF m 11 #[.val (.ref a5), .val (.ref b5), .val (.int (0 : Int32))] [(.int (0 : Int32)), (.ref a5)])) rfl rfl (hb hby own_d4_11)
  have Fv_117 : Fld Z h116 a5 "java/lang/String" "value" "[B" (.ref b5) := Fld.other W116 Fv_112 (Or.inr (slot_ne (t := (.array .byte)) (t' := .byte) (Or.inr (hw _ (List.mem_of_getElem? (i := 26) rfl))) (Or.inr (hw _ (List.mem_of_getElem? (i := 28) rfl))) (by decide) (by decide) (by decide)))
  have Fc_118 : Fld Z h116 a5 "java/lang/String" "coder" "B" (.int (0 : Int32)) := Fld.same W116 Fc_113
  have E_a5_119 : Exa Z h116 a5 "java/lang/String" := Exa.wr W116 E_a5_114
  have N120 := Fr.snoc X116 N115 g1
  have Z120 : n0 ≤ h116.size := by rw [W116.size]; exact Z115
  have K120 : Keep h0 h116 [a5] := Keep.wr K115 W116 (Or.inl (by simp))
  refine own_go st116 ?_
  show own_Go p.tables e below _ (T116.setTop (mkF m 14 #[.val (.ref a5), .val (.ref b5), .val (.int (0 : Int32))] []))
  exact own_retV X116 hx hlk hret (hb hby own_d4_14) (by rw [e116]; exact ⟨rfl, N120, K120⟩) (by decide) (by decide)
theorem own_rm1_ef (m : MethodId) (p1 : Int32)  : entryFrame m #[(.int p1)] 1 = mkF m 0 #[.val (.int p1)] [] := by first | (simp [entryFrame, mkF, argsToLocals, Value.category, maxLocals]; done) | rfl
set_option maxRecDepth 65536 in
set_option maxHeartbeats 40000000 in
theorem own_rm1 (l : Launch) (Z : State) (a0 : Array Value) (hw : ∀ d ∈ tables_1, d.before a0 Z = true) (p1 : Int32) (h0 : Heap) (n0 : Nat) (Z0 : n0 ≤ h0.size) (hc : ¬ 255 < p1) (cs : Int32) (CS : Sta Z h0 "java/lang/String" "COMPACT_STRINGS" "Z" (.int cs)) (cz : ¬ cs = 0) :
    own_Met l (⟨"java/lang/String", "valueOf", "(C)Ljava/lang/String;"⟩ : MethodName) (Jvm.Cond.code (⟨"java/lang/String", "valueOf", "(C)Ljava/lang/String;"⟩ : MethodName) jdk_42_method_139_code 1 (some (.object "java/lang/String")) :: []) ({ frames := 2, cells := 2, slots := 5, locals := 27 } : Room) Z h0 #[(.int p1)] (fun v h L => ∃ r, v = some (.ref r) ∧ Exa Z h r "java/lang/String" ∧ h0.size ≤ r ∧ Fr n0 L ∧ Keep h0 h []) := by
  refine own_body (pn := own_pn_1) ?_
  intro p e s m below meth c s₁ hx hby hml hown hnm hret hlk hZ X0 e0
  have N0 := Fr.nil n0
  refine own_go (fun _ kont => castTop (own_rm1_ef m p1 ) kont) ?_
  show own_Go p.tables e below _ (s₁.setTop (mkF m 0 #[.val (.int p1)] []))
  have K0 : Keep h0 h0 [] := Keep.refl _ _
  obtain ⟨T121, X121, e121, st121⟩ := getS X0 hx hZ hown (host := "") (hw _ (List.mem_of_getElem? (i := 7) rfl)) Via.refl e0 CS (g := (mkF m 0 #[.val (.int p1)] [])) rfl (hb hby own_d1_0)
  refine own_go st121 ?_
  show own_Go p.tables e below _ (T121.setTop (mkF m 3 #[.val (.int p1)] [(.int cs)]))
  refine own_go (fun _ kont => XS.ifNo X121.here hx rfl (hb hby own_d1_3) rfl (XT.i0_eq_f (cz)) kont) ?_
  show own_Go p.tables e below _ (T121.setTop (mkF m 6 #[.val (.int p1)] []))
  refine own_go (fun _ kont => XS.iloadN X121.here hx rfl (hb hby own_d1_6) rfl kont) ?_
  show own_Go p.tables e below _ (T121.setTop (mkF m 7 #[.val (.int p1)] [(.int p1)]))
  refine own_callS X121 hx hZ (y := (⟨"java/lang/StringLatin1", "canEncode", "(C)Z"⟩ : MethodName)) (argsL := [(.int p1)]) (rest := []) (W := 0) hown (hw _ (List.mem_of_getElem? (i := 8) rfl)) (hw _ (List.mem_of_getElem? (i := 9) rfl)) (hw _ (List.mem_of_getElem? (i := 10) rfl)) (hw _ (List.mem_of_getElem? (i := 11) rfl)) (by decide) (own_rm2 l Z a0 hw p1 h0 n0 Z0 hc) e121 (by decide) (by decide) (by decide) (by decide) (by rw [hml]; rfl) (lenOf own_pd__C_Z rfl) rfl (Nat.le_of_eq rfl) (hb hby own_d1_7) ?_
  rintro _ T122 L122 X122 ⟨rfl, N122, e122⟩
  have NA122 := Fr.app N0 N122
  show own_Go p.tables e below _ (T122.setTop (mkF m 10 #[.val (.int p1)] [(.int (1 : Int32))]))
  refine own_go (fun _ kont => XS.ifNo X122.here hx rfl (hb hby own_d1_10) rfl (XT.i0_eq_f (by decide)) kont) ?_
  show own_Go p.tables e below _ (T122.setTop (mkF m 13 #[.val (.int p1)] []))
  obtain ⟨T123, h123, X123, e123, E123, A123, D123, -, st123⟩ := newO X122 hx hZ hown (hw _ (List.mem_of_getElem? (i := 12) rfl)) (hw _ (List.mem_of_getElem? (i := 13) rfl)) (hw _ (List.mem_of_getElem? (i := 5) rfl)) e122 (g := (mkF m 13 #[.val (.int p1)] [])) rfl (hb hby own_d1_13) (by decide) (by decide)
  obtain ⟨s1, g123⟩ : ∃ z, z = h0.size := ⟨_, rfl⟩
  rw [← g123] at A123 D123 st123
  have ge_s1 : n0 ≤ s1 := by rw [g123]; exact Z0
  have kb_s1 : h0.size ≤ s1 := by rw [g123]; exact K0.1
  have Z124 : n0 ≤ h123.size := Nat.le_trans Z0 E123.1
  have K124 : Keep h0 h123 [] := Keep.ext K0 E123
  have E_s1_125 : Exa Z h123 s1 "java/lang/String" := A123
  have F_s1_value_126 : Fld Z h123 s1 "java/lang/String" "value" "[B" (.null) := D123 (Or.inr (hw _ (List.mem_of_getElem? (i := 26) rfl))) (ty := (.array .byte)) (by decide)
  have F_s1_coder_127 : Fld Z h123 s1 "java/lang/String" "coder" "B" (.int (0 : Int32)) := D123 (Or.inr (hw _ (List.mem_of_getElem? (i := 28) rfl))) (ty := .byte) (by decide)
  refine own_go st123 ?_
  show own_Go p.tables e below _ (T123.setTop (mkF m 16 #[.val (.int p1)] [(.ref s1)]))
  refine own_go (fun _ kont => XS.dup X123.here hx rfl (hb hby own_d1_16) rfl rfl kont) ?_
  show own_Go p.tables e below _ (T123.setTop (mkF m 17 #[.val (.int p1)] [(.ref s1), (.ref s1)]))
  refine own_go (fun _ kont => XS.iloadN X123.here hx rfl (hb hby own_d1_17) rfl kont) ?_
  show own_Go p.tables e below _ (T123.setTop (mkF m 18 #[.val (.int p1)] [(.int p1), (.ref s1), (.ref s1)]))
  refine own_callS X123 hx hZ (y := (⟨"java/lang/StringLatin1", "toBytes", "(C)[B"⟩ : MethodName)) (argsL := [(.int p1)]) (rest := [(.ref s1), (.ref s1)]) (W := 2) hown (hw _ (List.mem_of_getElem? (i := 14) rfl)) (hw _ (List.mem_of_getElem? (i := 15) rfl)) (hw _ (List.mem_of_getElem? (i := 10) rfl)) (hw _ (List.mem_of_getElem? (i := 16) rfl)) (by decide) (own_rm3 l Z a0 hw p1 h123 n0 Z124) e123 (by decide) (by decide) (by decide) (by decide) (by rw [hml]; rfl) (lenOf own_pd__C__B rfl) rfl (Nat.le_of_eq rfl) (hb hby own_d1_18) ?_
  rintro _ T128 L128 X128 ⟨r128, rfl, g128, N128, K128⟩
  have NA128 := Fr.app NA122 N128
  have E_s1_129 : Exa Z T128.heap s1 "java/lang/String" := Exa.keep E_s1_125 K128
  have F_s1_value_130 : Fld Z T128.heap s1 "java/lang/String" "value" "[B" (.null) := Fld.keep F_s1_value_126 K128 nin0
  have F_s1_coder_131 : Fld Z T128.heap s1 "java/lang/String" "coder" "B" (.int (0 : Int32)) := Fld.keep F_s1_coder_127 K128 nin0
  have Z132 : n0 ≤ T128.heap.size := Nat.le_trans Z124 K128.1
  have K132_ : Keep h0 T128.heap [] := Keep.trans K124 K128 all0
  show own_Go p.tables e below _ (T128.setTop (mkF m 21 #[.val (.int p1)] [(.ref r128), (.ref s1), (.ref s1)]))
  refine own_go (fun _ kont => XS.iconst X128.here hx rfl (hb hby own_d1_21) kont) ?_
  show own_Go p.tables e below _ (T128.setTop (mkF m 22 #[.val (.int p1)] [(.int (0 : Int32)), (.ref r128), (.ref s1), (.ref s1)]))
  refine own_callI X128 hx hZ (y := (⟨"java/lang/String", "<init>", "([BB)V"⟩ : MethodName)) (argsL := [(.ref r128), (.int (0 : Int32))]) (rest := [(.ref s1)]) (W := 1) hown (hw _ (List.mem_of_getElem? (i := 18) rfl)) (hw _ (List.mem_of_getElem? (i := 19) rfl)) (hw _ (List.mem_of_getElem? (i := 21) rfl)) (hw _ (List.mem_of_getElem? (i := 5) rfl)) rfl (by decide) (own_rm4 l Z a0 hw s1 r128 T128.heap n0 Z132 F_s1_value_130 F_s1_coder_131 E_s1_129 ge_s1) rfl (by decide) (by decide) (by decide) (by decide) (by rw [hml]; rfl) (lenOf own_pd___BB_V rfl) rfl (Nat.le_of_eq rfl) (hb hby own_d1_22) ?_
  rintro _ T133 L133 X133 ⟨rfl, N133, K133⟩
  have NA133 := Fr.app NA128 N133
  have E_s1_134 : Exa Z T133.heap s1 "java/lang/String" := Exa.keep E_s1_129 K133
  have Z135 : n0 ≤ T133.heap.size := Nat.le_trans Z132 K133.1
  have K135_ : Keep h0 T133.heap [] := Keep.trans K132_ K133 (allS (Or.inr kb_s1) all0)
  show own_Go p.tables e below _ (T133.setTop (mkF m 25 #[.val (.int p1)] [(.ref s1)]))
  exact own_retA X133 hx hlk hret rfl rfl (hb hby own_d1_25) (⟨_, rfl, E_s1_134, kb_s1, NA133, K135_⟩) (by decide) (by decide)
theorem own_rm6_ef (m : MethodId) (a5 : Addr) (s5 : Addr)  : entryFrame m #[(.ref a5), (.ref s5)] 2 = mkF m 0 #[.val (.ref a5), .val (.ref s5)] [] := by first | (simp [entryFrame, mkF, argsToLocals, Value.category, maxLocals]; done) | rfl
set_option maxRecDepth 65536 in
set_option maxHeartbeats 40000000 in
theorem own_rm6 (l : Launch) (Z : State) (a0 : Array Value) (hw : ∀ d ∈ tables_1, d.before a0 Z = true) (a5 : Addr) (s5 : Addr) (h0 : Heap) (n0 : Nat) (Z0 : n0 ≤ h0.size) (F1 : Fld Z h0 a5 "com/example/nashwaak/nashwaak/terms/Atom" "name" "Ljava/lang/String;" (.null)) (E1 : Exa Z h0 a5 "com/example/nashwaak/nashwaak/terms/Atom") (g1 : n0 ≤ a5) (E2 : Exa Z h0 s5 "java/lang/String") :
    own_MetW l (⟨"com/example/nashwaak/nashwaak/terms/Atom", "<init>", "(Ljava/lang/String;)V"⟩ : MethodName) (Jvm.Cond.code (⟨"com/example/nashwaak/nashwaak/terms/Atom", "<init>", "(Ljava/lang/String;)V"⟩ : MethodName) prog_153_method_1_code 2 none :: []) ({ frames := 2, cells := 2, slots := 20, locals := 24 } : Room) Z h0 #[(.ref a5), (.ref s5)] (fun v h L => v = none ∧ Fr n0 L ∧ Keep h0 h [a5]) := by
  refine own_bodyW (pn := own_pn_6) ?_
  intro p e s m below meth c s₁ hx hby hml hown hnm hret hlk hZ X0 e0 hS
  have hk : 0 ≤ h0.size := Nat.zero_le _
  have N0 := Fr.nil n0
  refine own_go (fun _ kont => castTop (own_rm6_ef m a5 s5 ) kont) ?_
  show own_Go p.tables e below _ (s₁.setTop (mkF m 0 #[.val (.ref a5), .val (.ref s5)] []))
  have K0 : Keep h0 h0 [a5] := Keep.refl _ _
  have wS := own_wS hw
  refine own_go (fun _ kont => XS.aloadN X0.here hx rfl (hb hby own_d6_0) rfl rfl kont) ?_
  show own_Go p.tables e below _ (s₁.setTop (mkF m 1 #[.val (.ref a5), .val (.ref s5)] [(.ref a5)]))
  refine own_callI X0 hx hZ (y := (⟨"com/example/nashwaak/nashwaak/terms/Term", "<init>", "()V"⟩ : MethodName)) (argsL := []) (rest := []) (W := 0) hown (hw _ (List.mem_of_getElem? (i := 32) rfl)) (hw _ (List.mem_of_getElem? (i := 33) rfl)) (hw _ (List.mem_of_getElem? (i := 36) rfl)) (hw _ (List.mem_of_getElem? (i := 35) rfl)) rfl (by decide) (own_rm7 l Z a0 hw a5 h0 n0 Z0) e0 (by decide) (by decide) (by decide) (by decide) (by rw [hml]; rfl) (lenOf own_pd___V rfl) rfl (Nat.le_of_eq rfl) (hb hby own_d6_1) ?_
  rintro _ T136 L136 X136 ⟨rfl, N136, e136⟩
  have NA136 := Fr.app N0 N136
  show own_Go p.tables e below _ (T136.setTop (mkF m 4 #[.val (.ref a5), .val (.ref s5)] []))
  refine own_go (fun _ kont => XS.aloadN X136.here hx rfl (hb hby own_d6_4) rfl rfl kont) ?_
  show own_Go p.tables e below _ (T136.setTop (mkF m 5 #[.val (.ref a5), .val (.ref s5)] [(.ref a5)]))
  refine own_go (fun _ kont => XS.aloadN X136.here hx rfl (hb hby own_d6_5) rfl rfl kont) ?_
  show own_Go p.tables e below _ (T136.setTop (mkF m 6 #[.val (.ref a5), .val (.ref s5)] [(.ref s5), (.ref a5)]))
  obtain ⟨u137, T137, h137, kz137, X137, e137, E137, hS, hk, hZ, hown, st137⟩ := ldcS X136 hx hZ hown (hw _ (List.mem_of_getElem? (i := 38) rfl)) wS e136 hS hk (g := (mkF m 6 #[.val (.ref a5), .val (.ref s5)] [(.ref s5), (.ref a5)])) rfl (hb hby own_d6_6) (n := 16) (by decide) (by decide) (by decide) (by decide)
  have Fn_138 : Fld Z h137 a5 "com/example/nashwaak/nashwaak/terms/Atom" "name" "Ljava/lang/String;" (.null) := Fld.ext E137 F1
  have E_a5_139 : Exa Z h137 a5 "com/example/nashwaak/nashwaak/terms/Atom" := Exa.ext E137 E1
  have E_s5_140 : Exa Z h137 s5 "java/lang/String" := Exa.ext E137 E2
  have Z141 : n0 ≤ h137.size := Nat.le_trans Z0 E137.1
  have K141 : Keep h0 h137 [a5] := Keep.ext K0 E137
  refine own_go st137 ?_
  show own_Go p.tables e below _ (T137.setTop (mkF m 8 #[.val (.ref a5), .val (.ref s5)] [(.ref u137), (.ref s5), (.ref a5)]))
  refine own_callS X137 hx hZ (y := (⟨"java/util/Objects", "requireNonNull", "(Ljava/lang/Object;Ljava/lang/String;)Ljava/lang/Object;"⟩ : MethodName)) (argsL := [(.ref s5), (.ref u137)]) (rest := [(.ref a5)]) (W := 1) hown (hw _ (List.mem_of_getElem? (i := 41) rfl)) (hw _ (List.mem_of_getElem? (i := 42) rfl)) (hw _ (List.mem_of_getElem? (i := 43) rfl)) (hw _ (List.mem_of_getElem? (i := 44) rfl)) (by decide) (own_rm8 l Z a0 hw s5 u137 h137 n0 Z141) e137 (by decide) (by decide) (by decide) (by decide) (by rw [hml]; rfl) (lenOf own_pd__Ljava_lang_Object_Ljava_lang_String__Ljava_lang_Object_ rfl) rfl (Nat.le_of_eq rfl) (hb hby own_d6_8) ?_
  rintro _ T142 L142 X142 ⟨rfl, N142, e142⟩
  have NA142 := Fr.app NA136 N142
  show own_Go p.tables e below _ (T142.setTop (mkF m 11 #[.val (.ref a5), .val (.ref s5)] [(.ref s5), (.ref a5)]))
  obtain ⟨T143, X143, e143, st143⟩ := castY X142 hx hZ hown (hw _ (List.mem_of_getElem? (i := 45) rfl)) e142 (Ins.of_exa E_s5_140 (hw _ (List.mem_of_getElem? (i := 20) rfl))) (g := (mkF m 11 #[.val (.ref a5), .val (.ref s5)] [(.ref s5), (.ref a5)])) rfl rfl (hb hby own_d6_11)
  refine own_go st143 ?_
  show own_Go p.tables e below _ (T143.setTop (mkF m 14 #[.val (.ref a5), .val (.ref s5)] [(.ref s5), (.ref a5)]))
  obtain ⟨T144, h144, X144, e144, W144, st144⟩ := putF X143 hx hZ hown (host := "") (Or.inl (hw _ (List.mem_of_getElem? (i := 46) rfl))) Via.refl e143 Fn_138 E_a5_139 (Or.inr ⟨(hw _ (List.mem_of_getElem? (i := 47) rfl)), rfl, hnm⟩) (hw _ (List.mem_of_getElem? (i := 1) rfl)) (ty := (.object "java/lang/String")) (by decide) rfl rfl (g := (mkF m 14 #[.val (.ref a5), .val (.ref s5)] [(.ref s5), (.ref a5)])) rfl rfl (hb hby own_d6_14)
  have Fn_145 : Fld Z h144 a5 "com/example/nashwaak/nashwaak/terms/Atom" "name" "Ljava/lang/String;" (.ref s5) := Fld.same W144 Fn_138
  have E_a5_146 : Exa Z h144 a5 "com/example/nashwaak/nashwaak/terms/Atom" := Exa.wr W144 E_a5_139
  have E_s5_147 : Exa Z h144 s5 "java/lang/String" := Exa.wr W144 E_s5_140
  have N148 := Fr.snoc X144 NA142 g1
  have Z148 : n0 ≤ h144.size := by rw [W144.size]; exact Z141
  have hk148 := Nat.le_trans hk (Nat.le_of_eq W144.size.symm)
  have K148 : Keep h0 h144 [a5] := Keep.wr K141 W144 (Or.inl (by simp))
  refine own_go st144 ?_
  show own_Go p.tables e below _ (T144.setTop (mkF m 17 #[.val (.ref a5), .val (.ref s5)] []))
  exact own_retVW X144 hS hk148 e144 hx hlk hret  (hb hby own_d6_17) (by rw [e144]; exact ⟨rfl, N148, K148⟩) (by decide) (by decide)
theorem own_rm14_ef (m : MethodId) (a5 : Addr) (x5 : Int32) (y5 : Int32)  : entryFrame m #[(.ref a5), (.int x5), (.int y5)] 3 = mkF m 0 #[.val (.ref a5), .val (.int x5), .val (.int y5)] [] := by first | (simp [entryFrame, mkF, argsToLocals, Value.category, maxLocals]; done) | rfl
set_option maxRecDepth 65536 in
set_option maxHeartbeats 40000000 in
theorem own_rm14 (l : Launch) (Z : State) (a0 : Array Value) (hw : ∀ d ∈ tables_1, d.before a0 Z = true) (a5 : Addr) (x5 : Int32) (y5 : Int32) (h0 : Heap) (n0 : Nat) (Z0 : n0 ≤ h0.size) (F0 : Fld Z h0 a5 "com/example/nashwaak/nashwaak/terms/Variable" "number" "I" (.int (0 : Int32))) (F1 : Fld Z h0 a5 "com/example/nashwaak/nashwaak/terms/Variable" "level" "I" (.int (0 : Int32))) (F2 : Fld Z h0 a5 "com/example/nashwaak/nashwaak/terms/Variable" "binding" "Lcom/example/nashwaak/nashwaak/terms/Term;" (.null)) (E1 : Exa Z h0 a5 "com/example/nashwaak/nashwaak/terms/Variable") (g1 : n0 ≤ a5) :
    own_Met l (⟨"com/example/nashwaak/nashwaak/terms/Variable", "<init>", "(II)V"⟩ : MethodName) (Jvm.Cond.code (⟨"com/example/nashwaak/nashwaak/terms/Variable", "<init>", "(II)V"⟩ : MethodName) prog_170_method_2_code 3 none :: []) ({ frames := 2, cells := 0, slots := 0, locals := 24 } : Room) Z h0 #[(.ref a5), (.int x5), (.int y5)] (fun v h L => v = none ∧ Fr n0 L ∧ Keep h0 h [a5] ∧ Fld Z h a5 "com/example/nashwaak/nashwaak/terms/Variable" "binding" "Lcom/example/nashwaak/nashwaak/terms/Term;" (.null)) := by
  refine own_body (pn := own_pn_14) ?_
  intro p e s m below meth c s₁ hx hby hml hown hnm hret hlk hZ X0 e0
  have N0 := Fr.nil n0
  refine own_go (fun _ kont => castTop (own_rm14_ef m a5 x5 y5 ) kont) ?_
  show own_Go p.tables e below _ (s₁.setTop (mkF m 0 #[.val (.ref a5), .val (.int x5), .val (.int y5)] []))
  have K0 : Keep h0 h0 [a5] := Keep.refl _ _
  refine own_go (fun _ kont => XS.aloadN X0.here hx rfl (hb hby own_d14_0) rfl rfl kont) ?_
  show own_Go p.tables e below _ (s₁.setTop (mkF m 1 #[.val (.ref a5), .val (.int x5), .val (.int y5)] [(.ref a5)]))
  refine own_callI X0 hx hZ (y := (⟨"com/example/nashwaak/nashwaak/terms/Term", "<init>", "()V"⟩ : MethodName)) (argsL := []) (rest := []) (W := 0) hown (hw _ (List.mem_of_getElem? (i := 100) rfl)) (hw _ (List.mem_of_getElem? (i := 33) rfl)) (hw _ (List.mem_of_getElem? (i := 36) rfl)) (hw _ (List.mem_of_getElem? (i := 35) rfl)) rfl (by decide) (own_rm7 l Z a0 hw a5 h0 n0 Z0) e0 (by decide) (by decide) (by decide) (by decide) (by rw [hml]; rfl) (lenOf own_pd___V rfl) rfl (Nat.le_of_eq rfl) (hb hby own_d14_1) ?_
  rintro _ T149 L149 X149 ⟨rfl, N149, e149⟩
  have NA149 := Fr.app N0 N149
  show own_Go p.tables e below _ (T149.setTop (mkF m 4 #[.val (.ref a5), .val (.int x5), .val (.int y5)] []))
  refine own_go (fun _ kont => XS.aloadN X149.here hx rfl (hb hby own_d14_4) rfl rfl kont) ?_
  show own_Go p.tables e below _ (T149.setTop (mkF m 5 #[.val (.ref a5), .val (.int x5), .val (.int y5)] [(.ref a5)]))
  refine own_go (fun _ kont => XS.iloadN X149.here hx rfl (hb hby own_d14_5) rfl kont) ?_
  show own_Go p.tables e below _ (T149.setTop (mkF m 6 #[.val (.ref a5), .val (.int x5), .val (.int y5)] [(.int x5), (.ref a5)]))
  obtain ⟨T150, h150, X150, e150, W150, st150⟩ := putF X149 hx hZ hown (host := "") (Or.inl (hw _ (List.mem_of_getElem? (i := 101) rfl))) Via.refl e149 F0 E1 (Or.inr ⟨(hw _ (List.mem_of_getElem? (i := 102) rfl)), rfl, hnm⟩) (hw _ (List.mem_of_getElem? (i := 92) rfl)) (ty := .int) (by decide) rfl rfl (g := (mkF m 6 #[.val (.ref a5), .val (.int x5), .val (.int y5)] [(.int x5), (.ref a5)])) rfl rfl (hb hby own_d14_6)
  have F_number_151 : Fld Z h150 a5 "com/example/nashwaak/nashwaak/terms/Variable" "number" "I" (.int x5) := Fld.same W150 F0
  have F_level_152 : Fld Z h150 a5 "com/example/nashwaak/nashwaak/terms/Variable" "level" "I" (.int (0 : Int32)) := Fld.other W150 F1 (Or.inr (slot_ne (t := .int) (t' := .int) (Or.inr (hw _ (List.mem_of_getElem? (i := 104) rfl))) (Or.inr (hw _ (List.mem_of_getElem? (i := 102) rfl))) (by decide) (by decide) (by decide)))
  have F_binding_153 : Fld Z h150 a5 "com/example/nashwaak/nashwaak/terms/Variable" "binding" "Lcom/example/nashwaak/nashwaak/terms/Term;" (.null) := Fld.other W150 F2 (Or.inr (slot_ne (t := (.object "com/example/nashwaak/nashwaak/terms/Term")) (t' := .int) (Or.inl (hw _ (List.mem_of_getElem? (i := 111) rfl))) (Or.inr (hw _ (List.mem_of_getElem? (i := 102) rfl))) (by decide) (by decide) (by decide)))
  have E_a5_154 : Exa Z h150 a5 "com/example/nashwaak/nashwaak/terms/Variable" := Exa.wr W150 E1
  have N155 := Fr.snoc X150 NA149 g1
  have Z155 : n0 ≤ h150.size := by rw [W150.size]; exact Z0
  have K155 : Keep h0 h150 [a5] := Keep.wr K0 W150 (Or.inl (by simp))
  refine own_go st150 ?_
  show own_Go p.tables e below _ (T150.setTop (mkF m 9 #[.val (.ref a5), .val (.int x5), .val (.int y5)] []))
  refine own_go (fun _ kont => XS.aloadN X150.here hx rfl (hb hby own_d14_9) rfl rfl kont) ?_
  show own_Go p.tables e below _ (T150.setTop (mkF m 10 #[.val (.ref a5), .val (.int x5), .val (.int y5)] [(.ref a5)]))
  refine own_go (fun _ kont => XS.iloadN X150.here hx rfl (hb hby own_d14_10) rfl kont) ?_
  show own_Go p.tables e below _ (T150.setTop (mkF m 11 #[.val (.ref a5), .val (.int x5), .val (.int y5)] [(.int y5), (.ref a5)]))
  obtain ⟨T156, h156, X156, e156, W156, st156⟩ := putF X150 hx hZ hown (host := "") (Or.inl (hw _ (List.mem_of_getElem? (i := 103) rfl))) Via.refl e150 F_level_152 E_a5_154 (Or.inr ⟨(hw _ (List.mem_of_getElem? (i := 104) rfl)), rfl, hnm⟩) (hw _ (List.mem_of_getElem? (i := 92) rfl)) (ty := .int) (by decide) rfl rfl (g := (mkF m 11 #[.val (.ref a5), .val (.int x5), .val (.int y5)] [(.int y5), (.ref a5)])) rfl rfl (hb hby own_d14_11)
  have F_number_157 : Fld Z h156 a5 "com/example/nashwaak/nashwaak/terms/Variable" "number" "I" (.int x5) := Fld.other W156 F_number_151 (Or.inr (slot_ne (t := .int) (t' := .int) (Or.inr (hw _ (List.mem_of_getElem? (i := 102) rfl))) (Or.inr (hw _ (List.mem_of_getElem? (i := 104) rfl))) (by decide) (by decide) (by decide)))
  have F_level_158 : Fld Z h156 a5 "com/example/nashwaak/nashwaak/terms/Variable" "level" "I" (.int y5) := Fld.same W156 F_level_152
  have F_binding_159 : Fld Z h156 a5 "com/example/nashwaak/nashwaak/terms/Variable" "binding" "Lcom/example/nashwaak/nashwaak/terms/Term;" (.null) := Fld.other W156 F_binding_153 (Or.inr (slot_ne (t := (.object "com/example/nashwaak/nashwaak/terms/Term")) (t' := .int) (Or.inl (hw _ (List.mem_of_getElem? (i := 111) rfl))) (Or.inr (hw _ (List.mem_of_getElem? (i := 104) rfl))) (by decide) (by decide) (by decide)))
  have E_a5_160 : Exa Z h156 a5 "com/example/nashwaak/nashwaak/terms/Variable" := Exa.wr W156 E_a5_154
  have N161 := Fr.snoc X156 N155 g1
  have Z161 : n0 ≤ h156.size := by rw [W156.size]; exact Z155
  have K161 : Keep h0 h156 [a5] := Keep.wr K155 W156 (Or.inl (by simp))
  refine own_go st156 ?_
  show own_Go p.tables e below _ (T156.setTop (mkF m 14 #[.val (.ref a5), .val (.int x5), .val (.int y5)] []))
  exact own_retV X156 hx hlk hret (hb hby own_d14_14) (by rw [e156]; exact ⟨rfl, N161, K161, F_binding_159⟩) (by decide) (by decide)
theorem own_rm13_ef (m : MethodId) (a5 : Addr)  : entryFrame m #[(.ref a5)] 1 = mkF m 0 #[.val (.ref a5)] [] := by first | (simp [entryFrame, mkF, argsToLocals, Value.category, maxLocals]; done) | rfl
set_option maxRecDepth 65536 in
set_option maxHeartbeats 40000000 in
theorem own_rm13 (l : Launch) (Z : State) (a0 : Array Value) (hw : ∀ d ∈ tables_1, d.before a0 Z = true) (a5 : Addr) (h0 : Heap) (n0 : Nat) (Z0 : n0 ≤ h0.size) (F0 : Fld Z h0 a5 "com/example/nashwaak/nashwaak/terms/Variable" "number" "I" (.int (0 : Int32))) (F1 : Fld Z h0 a5 "com/example/nashwaak/nashwaak/terms/Variable" "level" "I" (.int (0 : Int32))) (F2 : Fld Z h0 a5 "com/example/nashwaak/nashwaak/terms/Variable" "binding" "Lcom/example/nashwaak/nashwaak/terms/Term;" (.null)) (E1 : Exa Z h0 a5 "com/example/nashwaak/nashwaak/terms/Variable") (g1 : n0 ≤ a5) :
    own_Met l (⟨"com/example/nashwaak/nashwaak/terms/Variable", "<init>", "()V"⟩ : MethodName) (Jvm.Cond.code (⟨"com/example/nashwaak/nashwaak/terms/Variable", "<init>", "()V"⟩ : MethodName) prog_170_method_1_code 1 none :: []) ({ frames := 3, cells := 0, slots := 0, locals := 38 } : Room) Z h0 #[(.ref a5)] (fun v h L => v = none ∧ Fr n0 L ∧ Keep h0 h [a5] ∧ Fld Z h a5 "com/example/nashwaak/nashwaak/terms/Variable" "binding" "Lcom/example/nashwaak/nashwaak/terms/Term;" (.null)) := by
  refine own_body (pn := own_pn_13) ?_
  intro p e s m below meth c s₁ hx hby hml hown hnm hret hlk hZ X0 e0
  have N0 := Fr.nil n0
  refine own_go (fun _ kont => castTop (own_rm13_ef m a5 ) kont) ?_
  show own_Go p.tables e below _ (s₁.setTop (mkF m 0 #[.val (.ref a5)] []))
  refine own_go (fun _ kont => XS.aloadN X0.here hx rfl (hb hby own_d13_0) rfl rfl kont) ?_
  show own_Go p.tables e below _ (s₁.setTop (mkF m 1 #[.val (.ref a5)] [(.ref a5)]))
  refine own_go (fun _ kont => XS.iconst X0.here hx rfl (hb hby own_d13_1) kont) ?_
  show own_Go p.tables e below _ (s₁.setTop (mkF m 2 #[.val (.ref a5)] [(.int (-1 : Int32)), (.ref a5)]))
  refine own_go (fun _ kont => XS.iconst X0.here hx rfl (hb hby own_d13_2) kont) ?_
  show own_Go p.tables e below _ (s₁.setTop (mkF m 3 #[.val (.ref a5)] [(.int (0 : Int32)), (.int (-1 : Int32)), (.ref a5)]))
  refine own_callI X0 hx hZ (y := (⟨"com/example/nashwaak/nashwaak/terms/Variable", "<init>", "(II)V"⟩ : MethodName)) (argsL := [(.int (-1 : Int32)), (.int (0 : Int32))]) (rest := []) (W := 0) hown (hw _ (List.mem_of_getElem? (i := 97) rfl)) (hw _ (List.mem_of_getElem? (i := 98) rfl)) (hw _ (List.mem_of_getElem? (i := 99) rfl)) (hw _ (List.mem_of_getElem? (i := 93) rfl)) rfl (by decide) (own_rm14 l Z a0 hw a5 (-1 : Int32) (0 : Int32) h0 n0 Z0 F0 F1 F2 E1 g1) e0 (by decide) (by decide) (by decide) (by decide) (by rw [hml]; rfl) (lenOf own_pd__II_V rfl) rfl (Nat.le_of_eq rfl) (hb hby own_d13_3) ?_
  rintro _ T162 L162 X162 ⟨rfl, N1, q⟩
  show own_Go p.tables e below _ (T162.setTop (mkF m 6 #[.val (.ref a5)] []))
  exact own_retV X162 hx hlk hret (hb hby own_d13_6) (⟨rfl, Fr.app N0 N1, q⟩) (by decide) (by decide)
theorem own_rm15_ef (m : MethodId) (a5 : Addr) (t5 : Addr)  : entryFrame m #[(.ref a5), (.ref t5)] 2 = mkF m 0 #[.val (.ref a5), .val (.ref t5)] [] := by first | (simp [entryFrame, mkF, argsToLocals, Value.category, maxLocals]; done) | rfl
set_option maxRecDepth 65536 in
set_option maxHeartbeats 40000000 in
theorem own_rm15 (l : Launch) (Z : State) (a0 : Array Value) (hw : ∀ d ∈ tables_1, d.before a0 Z = true) (a5 : Addr) (t5 : Addr) (h0 : Heap) (n0 : Nat) (Z0 : n0 ≤ h0.size) (b5 : Bool) (F1 : Fld Z h0 a5 "com/example/nashwaak/nashwaak/terms/Variable" "binding" "Lcom/example/nashwaak/nashwaak/terms/Term;" (.null)) (E1 : Exa Z h0 a5 "com/example/nashwaak/nashwaak/terms/Variable") (g1 : n0 ≤ a5) (T5 : own_Tm Z h0 t5 b5) (n5 : t5 ≠ a5) :
    own_MetW l (⟨"com/example/nashwaak/nashwaak/terms/Variable", "bind", "(Lcom/example/nashwaak/nashwaak/terms/Term;)V"⟩ : MethodName) (Jvm.Cond.code (⟨"com/example/nashwaak/nashwaak/terms/Variable", "bind", "(Lcom/example/nashwaak/nashwaak/terms/Term;)V"⟩ : MethodName) prog_170_method_5_code 2 none :: []) ({ frames := 1, cells := 2, slots := 24, locals := 14 } : Room) Z h0 #[(.ref a5), (.ref t5)] (fun v h L => v = none ∧ Fr n0 L ∧ Keep h0 h [a5]) := by
  refine own_bodyW (pn := own_pn_15) ?_
  intro p e s m below meth c s₁ hx hby hml hown hnm hret hlk hZ X0 e0 hS
  have hk : 0 ≤ h0.size := Nat.zero_le _
  have N0 := Fr.nil n0
  refine own_go (fun _ kont => castTop (own_rm15_ef m a5 t5 ) kont) ?_
  show own_Go p.tables e below _ (s₁.setTop (mkF m 0 #[.val (.ref a5), .val (.ref t5)] []))
  have K0 : Keep h0 h0 [a5] := Keep.refl _ _
  have wS := own_wS hw
  refine own_go (fun _ kont => XS.aloadN X0.here hx rfl (hb hby own_d15_0) rfl rfl kont) ?_
  show own_Go p.tables e below _ (s₁.setTop (mkF m 1 #[.val (.ref a5), .val (.ref t5)] [(.ref a5)]))
  obtain ⟨T163, X163, e163, st163⟩ := getF X0 hx hZ hown (host := "") (Or.inl (hw _ (List.mem_of_getElem? (i := 110) rfl))) Via.refl e0 F1 (g := (mkF m 1 #[.val (.ref a5), .val (.ref t5)] [(.ref a5)])) rfl rfl (hb hby own_d15_1)
  refine own_go st163 ?_
  show own_Go p.tables e below _ (T163.setTop (mkF m 4 #[.val (.ref a5), .val (.ref t5)] [(.null)]))
  refine own_go (fun _ kont => XS.ifnullYes X163.here hx rfl (pc0 := 4) (pc' := 17) rfl (hb hby own_d15_4) rfl (by decide) (by decide) kont) ?_
  show own_Go p.tables e below _ (T163.setTop (mkF m 17 #[.val (.ref a5), .val (.ref t5)] []))
  refine own_go (fun _ kont => XS.aloadN X163.here hx rfl (hb hby own_d15_17) rfl rfl kont) ?_
  show own_Go p.tables e below _ (T163.setTop (mkF m 18 #[.val (.ref a5), .val (.ref t5)] [(.ref a5)]))
  refine own_go (fun _ kont => XS.aloadN X163.here hx rfl (hb hby own_d15_18) rfl rfl kont) ?_
  show own_Go p.tables e below _ (T163.setTop (mkF m 19 #[.val (.ref a5), .val (.ref t5)] [(.ref t5), (.ref a5)]))
  obtain ⟨u164, T164, h164, kz164, X164, e164, E164, hS, hk, hZ, hown, st164⟩ := ldcS X163 hx hZ hown (hw _ (List.mem_of_getElem? (i := 112) rfl)) wS e163 hS hk (g := (mkF m 19 #[.val (.ref a5), .val (.ref t5)] [(.ref t5), (.ref a5)])) rfl (hb hby own_d15_19) (n := 20) (by decide) (by decide) (by decide) (by decide)
  have Fb_165 : Fld Z h164 a5 "com/example/nashwaak/nashwaak/terms/Variable" "binding" "Lcom/example/nashwaak/nashwaak/terms/Term;" (.null) := Fld.ext E164 F1
  have E_a5_166 : Exa Z h164 a5 "com/example/nashwaak/nashwaak/terms/Variable" := Exa.ext E164 E1
  have T_t5_167 : own_Tm Z h164 t5 b5 := own_Tm.ext E164 T5
  have Z168 : n0 ≤ h164.size := Nat.le_trans Z0 E164.1
  have K168 : Keep h0 h164 [a5] := Keep.ext K0 E164
  refine own_go st164 ?_
  show own_Go p.tables e below _ (T164.setTop (mkF m 21 #[.val (.ref a5), .val (.ref t5)] [(.ref u164), (.ref t5), (.ref a5)]))
  refine own_callS X164 hx hZ (y := (⟨"java/util/Objects", "requireNonNull", "(Ljava/lang/Object;Ljava/lang/String;)Ljava/lang/Object;"⟩ : MethodName)) (argsL := [(.ref t5), (.ref u164)]) (rest := [(.ref a5)]) (W := 1) hown (hw _ (List.mem_of_getElem? (i := 113) rfl)) (hw _ (List.mem_of_getElem? (i := 42) rfl)) (hw _ (List.mem_of_getElem? (i := 43) rfl)) (hw _ (List.mem_of_getElem? (i := 44) rfl)) (by decide) (own_rm8 l Z a0 hw t5 u164 h164 n0 Z168) e164 (by decide) (by decide) (by decide) (by decide) (by rw [hml]; rfl) (lenOf own_pd__Ljava_lang_Object_Ljava_lang_String__Ljava_lang_Object_ rfl) rfl (Nat.le_of_eq rfl) (hb hby own_d15_21) ?_
  rintro _ T169 L169 X169 ⟨rfl, N169, e169⟩
  have NA169 := Fr.app N0 N169
  show own_Go p.tables e below _ (T169.setTop (mkF m 24 #[.val (.ref a5), .val (.ref t5)] [(.ref t5), (.ref a5)]))
  obtain ⟨T170, X170, e170, st170⟩ := castY X169 hx hZ hown (hw _ (List.mem_of_getElem? (i := 114) rfl)) e169 (own_Tm.ins hw T_t5_167) (g := (mkF m 24 #[.val (.ref a5), .val (.ref t5)] [(.ref t5), (.ref a5)])) rfl rfl (hb hby own_d15_24)
  refine own_go st170 ?_
  show own_Go p.tables e below _ (T170.setTop (mkF m 27 #[.val (.ref a5), .val (.ref t5)] [(.ref t5), (.ref a5)]))
  obtain ⟨T171, h171, X171, e171, W171, st171⟩ := putF X170 hx hZ hown (host := "") (Or.inl (hw _ (List.mem_of_getElem? (i := 110) rfl))) Via.refl e170 Fb_165 E_a5_166 (Or.inl (hw _ (List.mem_of_getElem? (i := 111) rfl))) (hw _ (List.mem_of_getElem? (i := 92) rfl)) (ty := (.object "com/example/nashwaak/nashwaak/terms/Term")) (by decide) rfl rfl (g := (mkF m 27 #[.val (.ref a5), .val (.ref t5)] [(.ref t5), (.ref a5)])) rfl rfl (hb hby own_d15_27)
  have Fb_172 : Fld Z h171 a5 "com/example/nashwaak/nashwaak/terms/Variable" "binding" "Lcom/example/nashwaak/nashwaak/terms/Term;" (.ref t5) := Fld.same W171 Fb_165
  have E_a5_173 : Exa Z h171 a5 "com/example/nashwaak/nashwaak/terms/Variable" := Exa.wr W171 E_a5_166
  have T_t5_174 : own_Tm Z h171 t5 b5 := own_Tm.other W171 T_t5_167 n5
  have N175 := Fr.snoc X171 NA169 g1
  have Z175 : n0 ≤ h171.size := by rw [W171.size]; exact Z168
  have hk175 := Nat.le_trans hk (Nat.le_of_eq W171.size.symm)
  have K175 : Keep h0 h171 [a5] := Keep.wr K168 W171 (Or.inl (by simp))
  refine own_go st171 ?_
  show own_Go p.tables e below _ (T171.setTop (mkF m 30 #[.val (.ref a5), .val (.ref t5)] []))
  exact own_retVW X171 hS hk175 e171 hx hlk hret  (hb hby own_d15_30) (by rw [e171]; exact ⟨rfl, N175, K175⟩) (by decide) (by decide)
theorem own_rm12_ef (m : MethodId) (a5 : Addr)  : entryFrame m #[(.ref a5)] 2 = mkF m 0 #[.val (.ref a5), .unset] [] := by first | (simp [entryFrame, mkF, argsToLocals, Value.category, maxLocals]; done) | rfl
set_option maxRecDepth 65536 in
set_option maxHeartbeats 40000000 in
theorem own_rm12 (l : Launch) (Z : State) (a0 : Array Value) (hw : ∀ d ∈ tables_1, d.before a0 Z = true) (a5 : Addr) (h0 : Heap) (n0 : Nat) (Z0 : n0 ≤ h0.size) (b5 : Bool) (T5 : own_Tm Z h0 a5 b5) :
    own_Met l (⟨"com/example/nashwaak/nashwaak/terms/Compound", "isWrittenGround", "(Lcom/example/nashwaak/nashwaak/terms/Term;)Z"⟩ : MethodName) (Jvm.Cond.code (⟨"com/example/nashwaak/nashwaak/terms/Compound", "isWrittenGround", "(Lcom/example/nashwaak/nashwaak/terms/Term;)Z"⟩ : MethodName) prog_155_method_10_code 2 (some .boolean) :: []) ({ frames := 0, cells := 0, slots := 0, locals := 0 } : Room) Z h0 #[(.ref a5)] (fun v h L => v = some (.int (own_bi b5)) ∧ Fr n0 L ∧ h = h0) := by
  refine own_body (pn := own_pn_12) ?_
  intro p e s m below meth c s₁ hx hby hml hown hnm hret hlk hZ X0 e0
  have N0 := Fr.nil n0
  refine own_go (fun _ kont => castTop (own_rm12_ef m a5 ) kont) ?_
  show own_Go p.tables e below _ (s₁.setTop (mkF m 0 #[.val (.ref a5), .unset] []))
  refine own_go (fun _ kont => XS.aloadN X0.here hx rfl (hb hby own_d12_0) rfl rfl kont) ?_
  show own_Go p.tables e below _ (s₁.setTop (mkF m 1 #[.val (.ref a5), .unset] [(.ref a5)]))
  rcases T5 with ⟨E1, rfl⟩ | ⟨E1, rfl⟩ | ⟨E1, F1⟩
  · skip
    obtain ⟨T176, X176, e176, st176⟩ := instNo X0 hx hZ hown (hw _ (List.mem_of_getElem? (i := 84) rfl)) e0 E1 (own_nA Z a0 hw (hw _ (List.mem_of_getElem? (i := 53) rfl)) (by decide) (by decide) (by decide)) (g := (mkF m 1 #[.val (.ref a5), .unset] [(.ref a5)])) rfl rfl (hb hby own_d12_1)
    refine own_go st176 ?_
    show own_Go p.tables e below _ (T176.setTop (mkF m 4 #[.val (.ref a5), .unset] [(.int (0 : Int32))]))
    refine own_go (fun _ kont => XS.ifYes X176.here hx rfl (pc0 := 4) (pc' := 19) rfl (hb hby own_d12_4) rfl (XT.i0_eq_t (rfl)) (by decide) (by decide) kont) ?_
    show own_Go p.tables e below _ (T176.setTop (mkF m 19 #[.val (.ref a5), .unset] []))
    refine own_go (fun _ kont => XS.aloadN X176.here hx rfl (hb hby own_d12_19) rfl rfl kont) ?_
    show own_Go p.tables e below _ (T176.setTop (mkF m 20 #[.val (.ref a5), .unset] [(.ref a5)]))
    obtain ⟨T177, X177, e177, st177⟩ := instNo X176 hx hZ hown (hw _ (List.mem_of_getElem? (i := 88) rfl)) e176 E1 (own_nA Z a0 hw (hw _ (List.mem_of_getElem? (i := 92) rfl)) (by decide) (by decide) (by decide)) (g := (mkF m 20 #[.val (.ref a5), .unset] [(.ref a5)])) rfl rfl (hb hby own_d12_20)
    refine own_go st177 ?_
    show own_Go p.tables e below _ (T177.setTop (mkF m 23 #[.val (.ref a5), .unset] [(.int (0 : Int32))]))
    refine own_go (fun _ kont => XS.ifNo X177.here hx rfl (hb hby own_d12_23) rfl (XT.i0_ne_f (rfl)) kont) ?_
    show own_Go p.tables e below _ (T177.setTop (mkF m 26 #[.val (.ref a5), .unset] []))
    refine own_go (fun _ kont => XS.iconst X177.here hx rfl (hb hby own_d12_26) kont) ?_
    show own_Go p.tables e below _ (T177.setTop (mkF m 27 #[.val (.ref a5), .unset] [(.int (1 : Int32))]))
    refine own_go (fun _ kont => XS.goto X177.here hx rfl (pc0 := 27) (pc' := 31) rfl (hb hby own_d12_27) (by decide) (by decide) kont) ?_
    show own_Go p.tables e below _ (T177.setTop (mkF m 31 #[.val (.ref a5), .unset] [(.int (1 : Int32))]))
    exact own_retI X177 hx hlk hret (by simp) rfl (hb hby own_d12_31) (⟨rfl, N0, e177⟩) (by decide) (by decide)
  · skip
    obtain ⟨T178, X178, e178, st178⟩ := instNo X0 hx hZ hown (hw _ (List.mem_of_getElem? (i := 84) rfl)) e0 E1 (own_nV Z a0 hw (hw _ (List.mem_of_getElem? (i := 53) rfl)) (by decide) (by decide) (by decide)) (g := (mkF m 1 #[.val (.ref a5), .unset] [(.ref a5)])) rfl rfl (hb hby own_d12_1)
    refine own_go st178 ?_
    show own_Go p.tables e below _ (T178.setTop (mkF m 4 #[.val (.ref a5), .unset] [(.int (0 : Int32))]))
    refine own_go (fun _ kont => XS.ifYes X178.here hx rfl (pc0 := 4) (pc' := 19) rfl (hb hby own_d12_4) rfl (XT.i0_eq_t (rfl)) (by decide) (by decide) kont) ?_
    show own_Go p.tables e below _ (T178.setTop (mkF m 19 #[.val (.ref a5), .unset] []))
    refine own_go (fun _ kont => XS.aloadN X178.here hx rfl (hb hby own_d12_19) rfl rfl kont) ?_
    show own_Go p.tables e below _ (T178.setTop (mkF m 20 #[.val (.ref a5), .unset] [(.ref a5)]))
    obtain ⟨T179, X179, e179, st179⟩ := instY X178 hx hZ hown (hw _ (List.mem_of_getElem? (i := 88) rfl)) e178 (Ins.self E1) (g := (mkF m 20 #[.val (.ref a5), .unset] [(.ref a5)])) rfl rfl (hb hby own_d12_20)
    refine own_go st179 ?_
    show own_Go p.tables e below _ (T179.setTop (mkF m 23 #[.val (.ref a5), .unset] [(.int (1 : Int32))]))
    refine own_go (fun _ kont => XS.ifYes X179.here hx rfl (pc0 := 23) (pc' := 30) rfl (hb hby own_d12_23) rfl (XT.i0_ne_t (by decide)) (by decide) (by decide) kont) ?_
    show own_Go p.tables e below _ (T179.setTop (mkF m 30 #[.val (.ref a5), .unset] []))
    refine own_go (fun _ kont => XS.iconst X179.here hx rfl (hb hby own_d12_30) kont) ?_
    show own_Go p.tables e below _ (T179.setTop (mkF m 31 #[.val (.ref a5), .unset] [(.int (0 : Int32))]))
    exact own_retI X179 hx hlk hret (by simp) rfl (hb hby own_d12_31) (⟨rfl, N0, e179⟩) (by decide) (by decide)
  · skip
    obtain ⟨T180, X180, e180, st180⟩ := instY X0 hx hZ hown (hw _ (List.mem_of_getElem? (i := 84) rfl)) e0 (Ins.self E1) (g := (mkF m 1 #[.val (.ref a5), .unset] [(.ref a5)])) rfl rfl (hb hby own_d12_1)
    refine own_go st180 ?_
    show own_Go p.tables e below _ (T180.setTop (mkF m 4 #[.val (.ref a5), .unset] [(.int (1 : Int32))]))
    refine own_go (fun _ kont => XS.ifNo X180.here hx rfl (hb hby own_d12_4) rfl (XT.i0_eq_f (by decide)) kont) ?_
    show own_Go p.tables e below _ (T180.setTop (mkF m 7 #[.val (.ref a5), .unset] []))
    refine own_go (fun _ kont => XS.aloadN X180.here hx rfl (hb hby own_d12_7) rfl rfl kont) ?_
    show own_Go p.tables e below _ (T180.setTop (mkF m 8 #[.val (.ref a5), .unset] [(.ref a5)]))
    obtain ⟨T181, X181, e181, st181⟩ := castY X180 hx hZ hown (hw _ (List.mem_of_getElem? (i := 84) rfl)) e180 (Ins.self E1) (g := (mkF m 8 #[.val (.ref a5), .unset] [(.ref a5)])) rfl rfl (hb hby own_d12_8)
    refine own_go st181 ?_
    show own_Go p.tables e below _ (T181.setTop (mkF m 11 #[.val (.ref a5), .unset] [(.ref a5)]))
    refine own_go (fun _ kont => XS.astoreN X181.here hx rfl (hb hby own_d12_11) rfl rfl (l' := #[.val (.ref a5), .val (.ref a5)]) rfl kont) ?_
    show own_Go p.tables e below _ (T181.setTop (mkF m 12 #[.val (.ref a5), .val (.ref a5)] []))
    refine own_go (fun _ kont => XS.aloadN X181.here hx rfl (hb hby own_d12_12) rfl rfl kont) ?_
    show own_Go p.tables e below _ (T181.setTop (mkF m 13 #[.val (.ref a5), .val (.ref a5)] [(.ref a5)]))
    obtain ⟨T182, X182, e182, st182⟩ := getF X181 hx hZ hown (host := "") (Or.inl (hw _ (List.mem_of_getElem? (i := 89) rfl))) Via.refl e181 F1 (g := (mkF m 13 #[.val (.ref a5), .val (.ref a5)] [(.ref a5)])) rfl rfl (hb hby own_d12_13)
    refine own_go st182 ?_
    show own_Go p.tables e below _ (T182.setTop (mkF m 16 #[.val (.ref a5), .val (.ref a5)] [(.int (own_bi b5))]))
    refine own_go (fun _ kont => XS.goto X182.here hx rfl (pc0 := 16) (pc' := 31) rfl (hb hby own_d12_16) (by decide) (by decide) kont) ?_
    show own_Go p.tables e below _ (T182.setTop (mkF m 31 #[.val (.ref a5), .val (.ref a5)] [(.int (own_bi b5))]))
    exact own_retI X182 hx hlk hret (by simp) (own_nbi b5) (hb hby own_d12_31) (⟨rfl, N0, e182⟩) (by decide) (by decide)
theorem own_rm11_ef (m : MethodId) (a5 : Addr) (r5 : Addr) (s5 : Addr)  : entryFrame m #[(.ref a5), (.ref r5), (.ref s5)] 8 = mkF m 0 #[.val (.ref a5), .val (.ref r5), .val (.ref s5), .unset, .unset, .unset, .unset, .unset] [] := by first | (simp [entryFrame, mkF, argsToLocals, Value.category, maxLocals]; done) | rfl
set_option maxRecDepth 65536 in
set_option maxHeartbeats 40000000 in
theorem own_rm11 (l : Launch) (Z : State) (a0 : Array Value) (hw : ∀ d ∈ tables_1, d.before a0 Z = true) (a5 : Addr) (r5 : Addr) (s5 : Addr) (h0 : Heap) (n0 : Nat) (Z0 : n0 ≤ h0.size) (n : Nat) (kE : ClassId) (f : Nat → Value) (t : Nat → Addr) (bs : Nat → Bool) (F0 : Fld Z h0 a5 "com/example/nashwaak/nashwaak/terms/Compound" "name" "Ljava/lang/String;" (.null)) (F1 : Fld Z h0 a5 "com/example/nashwaak/nashwaak/terms/Compound" "args" "[Lcom/example/nashwaak/nashwaak/terms/Term;" (.null)) (F2 : Fld Z h0 a5 "com/example/nashwaak/nashwaak/terms/Compound" "ground" "Z" (.int (0 : Int32))) (E1 : Exa Z h0 a5 "com/example/nashwaak/nashwaak/terms/Compound") (g1 : n0 ≤ a5) (V1 : own_Av Z h0 r5 kE (.object "com/example/nashwaak/nashwaak/terms/Term") n f) (hf : ∀ j, j < n → f j = .ref (t j)) (T1 : own_Tms Z h0 n t bs) (p0 : 0 < n) (p2 : n ≤ 2) (na : r5 ≠ a5) (nt : ∀ j, j < n → t j ≠ a5) :
    own_MetW l (⟨"com/example/nashwaak/nashwaak/terms/Compound", "<init>", "([Lcom/example/nashwaak/nashwaak/terms/Term;Ljava/lang/String;)V"⟩ : MethodName) (Jvm.Cond.code (⟨"com/example/nashwaak/nashwaak/terms/Compound", "<init>", "([Lcom/example/nashwaak/nashwaak/terms/Term;Ljava/lang/String;)V"⟩ : MethodName) prog_155_method_2_code 8 none :: []) ({ frames := 2, cells := 2, slots := 20, locals := 24 } : Room) Z h0 #[(.ref a5), (.ref r5), (.ref s5)] (fun v h L => v = none ∧ Fr n0 L ∧ Keep h0 h [a5] ∧ own_Tm Z h a5 (own_all bs n)) := by
  refine own_bodyW (pn := own_pn_11) ?_
  intro p e s m below meth c s₁ hx hby hml hown hnm hret hlk hZ X0 e0 hS
  have hk : 0 ≤ h0.size := Nat.zero_le _
  have N0 := Fr.nil n0
  refine own_go (fun _ kont => castTop (own_rm11_ef m a5 r5 s5 ) kont) ?_
  show own_Go p.tables e below _ (s₁.setTop (mkF m 0 #[.val (.ref a5), .val (.ref r5), .val (.ref s5), .unset, .unset, .unset, .unset, .unset] []))
  have K0 : Keep h0 h0 [a5] := Keep.refl _ _
  have wS := own_wS hw
  refine own_go (fun _ kont => XS.aloadN X0.here hx rfl (hb hby own_d11_0) rfl rfl kont) ?_
  show own_Go p.tables e below _ (s₁.setTop (mkF m 1 #[.val (.ref a5), .val (.ref r5), .val (.ref s5), .unset, .unset, .unset, .unset, .unset] [(.ref a5)]))
  refine own_callI X0 hx hZ (y := (⟨"com/example/nashwaak/nashwaak/terms/Term", "<init>", "()V"⟩ : MethodName)) (argsL := []) (rest := []) (W := 0) hown (hw _ (List.mem_of_getElem? (i := 74) rfl)) (hw _ (List.mem_of_getElem? (i := 33) rfl)) (hw _ (List.mem_of_getElem? (i := 36) rfl)) (hw _ (List.mem_of_getElem? (i := 35) rfl)) rfl (by decide) (own_rm7 l Z a0 hw a5 h0 n0 Z0) e0 (by decide) (by decide) (by decide) (by decide) (by rw [hml]; rfl) (lenOf own_pd___V rfl) rfl (Nat.le_of_eq rfl) (hb hby own_d11_1) ?_
  rintro _ T183 L183 X183 ⟨rfl, N183, e183⟩
  have NA183 := Fr.app N0 N183
  show own_Go p.tables e below _ (T183.setTop (mkF m 4 #[.val (.ref a5), .val (.ref r5), .val (.ref s5), .unset, .unset, .unset, .unset, .unset] []))
  refine own_go (fun _ kont => XS.aloadN X183.here hx rfl (hb hby own_d11_4) rfl rfl kont) ?_
  show own_Go p.tables e below _ (T183.setTop (mkF m 5 #[.val (.ref a5), .val (.ref r5), .val (.ref s5), .unset, .unset, .unset, .unset, .unset] [(.ref s5)]))
  obtain ⟨u184, T184, h184, kz184, X184, e184, E184, hS, hk, hZ, hown, st184⟩ := ldcS X183 hx hZ hown (hw _ (List.mem_of_getElem? (i := 75) rfl)) wS e183 hS hk (g := (mkF m 5 #[.val (.ref a5), .val (.ref r5), .val (.ref s5), .unset, .unset, .unset, .unset, .unset] [(.ref s5)])) rfl (hb hby own_d11_5) (n := 16) (by decide) (by decide) (by decide) (by decide)
  have F_name_185 : Fld Z h184 a5 "com/example/nashwaak/nashwaak/terms/Compound" "name" "Ljava/lang/String;" (.null) := Fld.ext E184 F0
  have F_args_186 : Fld Z h184 a5 "com/example/nashwaak/nashwaak/terms/Compound" "args" "[Lcom/example/nashwaak/nashwaak/terms/Term;" (.null) := Fld.ext E184 F1
  have F_ground_187 : Fld Z h184 a5 "com/example/nashwaak/nashwaak/terms/Compound" "ground" "Z" (.int (0 : Int32)) := Fld.ext E184 F2
  have E_a5_188 : Exa Z h184 a5 "com/example/nashwaak/nashwaak/terms/Compound" := Exa.ext E184 E1
  have V_189 : own_Av Z h184 r5 kE (.object "com/example/nashwaak/nashwaak/terms/Term") n (f) := own_Av.ext E184 V1
  have Ts_190 : own_Tms Z h184 n t bs := own_Tms.ext E184 T1
  have Z191 : n0 ≤ h184.size := Nat.le_trans Z0 E184.1
  have K191 : Keep h0 h184 [a5] := Keep.ext K0 E184
  refine own_go st184 ?_
  show own_Go p.tables e below _ (T184.setTop (mkF m 7 #[.val (.ref a5), .val (.ref r5), .val (.ref s5), .unset, .unset, .unset, .unset, .unset] [(.ref u184), (.ref s5)]))
  refine own_callS X184 hx hZ (y := (⟨"java/util/Objects", "requireNonNull", "(Ljava/lang/Object;Ljava/lang/String;)Ljava/lang/Object;"⟩ : MethodName)) (argsL := [(.ref s5), (.ref u184)]) (rest := []) (W := 0) hown (hw _ (List.mem_of_getElem? (i := 76) rfl)) (hw _ (List.mem_of_getElem? (i := 42) rfl)) (hw _ (List.mem_of_getElem? (i := 43) rfl)) (hw _ (List.mem_of_getElem? (i := 44) rfl)) (by decide) (own_rm8 l Z a0 hw s5 u184 h184 n0 Z191) e184 (by decide) (by decide) (by decide) (by decide) (by rw [hml]; rfl) (lenOf own_pd__Ljava_lang_Object_Ljava_lang_String__Ljava_lang_Object_ rfl) rfl (Nat.le_of_eq rfl) (hb hby own_d11_7) ?_
  rintro _ T192 L192 X192 ⟨rfl, N192, e192⟩
  have NA192 := Fr.app NA183 N192
  show own_Go p.tables e below _ (T192.setTop (mkF m 10 #[.val (.ref a5), .val (.ref r5), .val (.ref s5), .unset, .unset, .unset, .unset, .unset] [(.ref s5)]))
  refine own_go (fun _ kont => XS.pop X192.here hx rfl (hb hby own_d11_10) rfl rfl kont) ?_
  show own_Go p.tables e below _ (T192.setTop (mkF m 11 #[.val (.ref a5), .val (.ref r5), .val (.ref s5), .unset, .unset, .unset, .unset, .unset] []))
  refine own_go (fun _ kont => XS.aloadN X192.here hx rfl (hb hby own_d11_11) rfl rfl kont) ?_
  show own_Go p.tables e below _ (T192.setTop (mkF m 12 #[.val (.ref a5), .val (.ref r5), .val (.ref s5), .unset, .unset, .unset, .unset, .unset] [(.ref r5)]))
  refine own_alen X192 hx hZ e192 V_189 (Int32.ofNat n) rfl (hb hby own_d11_12) ?_
  show own_Go p.tables e below _ (T192.setTop (mkF m 13 #[.val (.ref a5), .val (.ref r5), .val (.ref s5), .unset, .unset, .unset, .unset, .unset] [(.int (Int32.ofNat n))]))
  refine own_go (fun _ kont => XS.ifYes X192.here hx rfl (pc0 := 13) (pc' := 30) rfl (hb hby own_d11_13) rfl (XT.i0_ne_t (own_n0 n p0 (by omega))) (by decide) (by decide) kont) ?_
  show own_Go p.tables e below _ (T192.setTop (mkF m 30 #[.val (.ref a5), .val (.ref r5), .val (.ref s5), .unset, .unset, .unset, .unset, .unset] []))
  refine own_go (fun _ kont => XS.aloadN X192.here hx rfl (hb hby own_d11_30) rfl rfl kont) ?_
  show own_Go p.tables e below _ (T192.setTop (mkF m 31 #[.val (.ref a5), .val (.ref r5), .val (.ref s5), .unset, .unset, .unset, .unset, .unset] [(.ref a5)]))
  refine own_go (fun _ kont => XS.aloadN X192.here hx rfl (hb hby own_d11_31) rfl rfl kont) ?_
  show own_Go p.tables e below _ (T192.setTop (mkF m 32 #[.val (.ref a5), .val (.ref r5), .val (.ref s5), .unset, .unset, .unset, .unset, .unset] [(.ref s5), (.ref a5)]))
  obtain ⟨T193, h193, X193, e193, W193, st193⟩ := putF X192 hx hZ hown (host := "") (Or.inl (hw _ (List.mem_of_getElem? (i := 77) rfl))) Via.refl e192 F_name_185 E_a5_188 (Or.inr ⟨(hw _ (List.mem_of_getElem? (i := 78) rfl)), rfl, hnm⟩) (hw _ (List.mem_of_getElem? (i := 53) rfl)) (ty := (.object "java/lang/String")) (by decide) rfl rfl (g := (mkF m 32 #[.val (.ref a5), .val (.ref r5), .val (.ref s5), .unset, .unset, .unset, .unset, .unset] [(.ref s5), (.ref a5)])) rfl rfl (hb hby own_d11_32)
  have F_name_194 : Fld Z h193 a5 "com/example/nashwaak/nashwaak/terms/Compound" "name" "Ljava/lang/String;" (.ref s5) := Fld.same W193 F_name_185
  have F_args_195 : Fld Z h193 a5 "com/example/nashwaak/nashwaak/terms/Compound" "args" "[Lcom/example/nashwaak/nashwaak/terms/Term;" (.null) := Fld.other W193 F_args_186 (Or.inr (slot_ne (t := (.array (.object "com/example/nashwaak/nashwaak/terms/Term"))) (t' := (.object "java/lang/String")) (Or.inr (hw _ (List.mem_of_getElem? (i := 80) rfl))) (Or.inr (hw _ (List.mem_of_getElem? (i := 78) rfl))) (by decide) (by decide) (by decide)))
  have F_ground_196 : Fld Z h193 a5 "com/example/nashwaak/nashwaak/terms/Compound" "ground" "Z" (.int (0 : Int32)) := Fld.other W193 F_ground_187 (Or.inr (slot_ne (t := .boolean) (t' := (.object "java/lang/String")) (Or.inr (hw _ (List.mem_of_getElem? (i := 90) rfl))) (Or.inr (hw _ (List.mem_of_getElem? (i := 78) rfl))) (by decide) (by decide) (by decide)))
  have E_a5_197 : Exa Z h193 a5 "com/example/nashwaak/nashwaak/terms/Compound" := Exa.wr W193 E_a5_188
  have V_198 : own_Av Z h193 r5 kE (.object "com/example/nashwaak/nashwaak/terms/Term") n (f) := own_Av.other W193 V_189 na
  have Ts_199 : own_Tms Z h193 n t bs := own_Tms.other W193 Ts_190 nt
  have N200 := Fr.snoc X193 NA192 g1
  have Z200 : n0 ≤ h193.size := by rw [W193.size]; exact Z191
  have hk200 := Nat.le_trans hk (Nat.le_of_eq W193.size.symm)
  have K200 : Keep h0 h193 [a5] := Keep.wr K191 W193 (Or.inl (by simp))
  refine own_go st193 ?_
  show own_Go p.tables e below _ (T193.setTop (mkF m 35 #[.val (.ref a5), .val (.ref r5), .val (.ref s5), .unset, .unset, .unset, .unset, .unset] []))
  refine own_go (fun _ kont => XS.aloadN X193.here hx rfl (hb hby own_d11_35) rfl rfl kont) ?_
  show own_Go p.tables e below _ (T193.setTop (mkF m 36 #[.val (.ref a5), .val (.ref r5), .val (.ref s5), .unset, .unset, .unset, .unset, .unset] [(.ref a5)]))
  refine own_go (fun _ kont => XS.aloadN X193.here hx rfl (hb hby own_d11_36) rfl rfl kont) ?_
  show own_Go p.tables e below _ (T193.setTop (mkF m 37 #[.val (.ref a5), .val (.ref r5), .val (.ref s5), .unset, .unset, .unset, .unset, .unset] [(.ref r5), (.ref a5)]))
  obtain ⟨T201, h201, X201, e201, W201, st201⟩ := putF X193 hx hZ hown (host := "") (Or.inl (hw _ (List.mem_of_getElem? (i := 79) rfl))) Via.refl e193 F_args_195 E_a5_197 (Or.inr ⟨(hw _ (List.mem_of_getElem? (i := 80) rfl)), rfl, hnm⟩) (hw _ (List.mem_of_getElem? (i := 53) rfl)) (ty := (.array (.object "com/example/nashwaak/nashwaak/terms/Term"))) (by decide) rfl rfl (g := (mkF m 37 #[.val (.ref a5), .val (.ref r5), .val (.ref s5), .unset, .unset, .unset, .unset, .unset] [(.ref r5), (.ref a5)])) rfl rfl (hb hby own_d11_37)
  have F_name_202 : Fld Z h201 a5 "com/example/nashwaak/nashwaak/terms/Compound" "name" "Ljava/lang/String;" (.ref s5) := Fld.other W201 F_name_194 (Or.inr (slot_ne (t := (.object "java/lang/String")) (t' := (.array (.object "com/example/nashwaak/nashwaak/terms/Term"))) (Or.inr (hw _ (List.mem_of_getElem? (i := 78) rfl))) (Or.inr (hw _ (List.mem_of_getElem? (i := 80) rfl))) (by decide) (by decide) (by decide)))
  have F_args_203 : Fld Z h201 a5 "com/example/nashwaak/nashwaak/terms/Compound" "args" "[Lcom/example/nashwaak/nashwaak/terms/Term;" (.ref r5) := Fld.same W201 F_args_195
  have F_ground_204 : Fld Z h201 a5 "com/example/nashwaak/nashwaak/terms/Compound" "ground" "Z" (.int (0 : Int32)) := Fld.other W201 F_ground_196 (Or.inr (slot_ne (t := .boolean) (t' := (.array (.object "com/example/nashwaak/nashwaak/terms/Term"))) (Or.inr (hw _ (List.mem_of_getElem? (i := 90) rfl))) (Or.inr (hw _ (List.mem_of_getElem? (i := 80) rfl))) (by decide) (by decide) (by decide)))
  have E_a5_205 : Exa Z h201 a5 "com/example/nashwaak/nashwaak/terms/Compound" := Exa.wr W201 E_a5_197
  have V_206 : own_Av Z h201 r5 kE (.object "com/example/nashwaak/nashwaak/terms/Term") n (f) := own_Av.other W201 V_198 na
  have Ts_207 : own_Tms Z h201 n t bs := own_Tms.other W201 Ts_199 nt
  have N208 := Fr.snoc X201 N200 g1
  have Z208 : n0 ≤ h201.size := by rw [W201.size]; exact Z200
  have hk208 := Nat.le_trans hk200 (Nat.le_of_eq W201.size.symm)
  have K208 : Keep h0 h201 [a5] := Keep.wr K200 W201 (Or.inl (by simp))
  refine own_go st201 ?_
  show own_Go p.tables e below _ (T201.setTop (mkF m 40 #[.val (.ref a5), .val (.ref r5), .val (.ref s5), .unset, .unset, .unset, .unset, .unset] []))
  refine own_go (fun _ kont => XS.iconst X201.here hx rfl (hb hby own_d11_40) kont) ?_
  show own_Go p.tables e below _ (T201.setTop (mkF m 41 #[.val (.ref a5), .val (.ref r5), .val (.ref s5), .unset, .unset, .unset, .unset, .unset] [(.int (1 : Int32))]))
  refine own_go (fun _ kont => XS.istoreN X201.here hx rfl (hb hby own_d11_41) rfl (l' := #[.val (.ref a5), .val (.ref r5), .val (.ref s5), .val (.int (1 : Int32)), .unset, .unset, .unset, .unset]) rfl kont) ?_
  show own_Go p.tables e below _ (T201.setTop (mkF m 42 #[.val (.ref a5), .val (.ref r5), .val (.ref s5), .val (.int (1 : Int32)), .unset, .unset, .unset, .unset] []))
  refine own_go (fun _ kont => XS.aloadN X201.here hx rfl (hb hby own_d11_42) rfl rfl kont) ?_
  show own_Go p.tables e below _ (T201.setTop (mkF m 43 #[.val (.ref a5), .val (.ref r5), .val (.ref s5), .val (.int (1 : Int32)), .unset, .unset, .unset, .unset] [(.ref a5)]))
  obtain ⟨T209, X209, e209, st209⟩ := getF X201 hx hZ hown (host := "") (Or.inl (hw _ (List.mem_of_getElem? (i := 79) rfl))) Via.refl e201 F_args_203 (g := (mkF m 43 #[.val (.ref a5), .val (.ref r5), .val (.ref s5), .val (.int (1 : Int32)), .unset, .unset, .unset, .unset] [(.ref a5)])) rfl rfl (hb hby own_d11_43)
  refine own_go st209 ?_
  show own_Go p.tables e below _ (T209.setTop (mkF m 46 #[.val (.ref a5), .val (.ref r5), .val (.ref s5), .val (.int (1 : Int32)), .unset, .unset, .unset, .unset] [(.ref r5)]))
  refine own_go (fun _ kont => XS.astore X209.here hx rfl (hb hby own_d11_46) rfl rfl (l' := #[.val (.ref a5), .val (.ref r5), .val (.ref s5), .val (.int (1 : Int32)), .val (.ref r5), .unset, .unset, .unset]) rfl kont) ?_
  show own_Go p.tables e below _ (T209.setTop (mkF m 48 #[.val (.ref a5), .val (.ref r5), .val (.ref s5), .val (.int (1 : Int32)), .val (.ref r5), .unset, .unset, .unset] []))
  refine own_go (fun _ kont => XS.aload X209.here hx rfl (hb hby own_d11_48) rfl rfl kont) ?_
  show own_Go p.tables e below _ (T209.setTop (mkF m 50 #[.val (.ref a5), .val (.ref r5), .val (.ref s5), .val (.int (1 : Int32)), .val (.ref r5), .unset, .unset, .unset] [(.ref r5)]))
  refine own_alen X209 hx hZ e209 V_206 (Int32.ofNat n) rfl (hb hby own_d11_50) ?_
  show own_Go p.tables e below _ (T209.setTop (mkF m 51 #[.val (.ref a5), .val (.ref r5), .val (.ref s5), .val (.int (1 : Int32)), .val (.ref r5), .unset, .unset, .unset] [(.int (Int32.ofNat n))]))
  refine own_go (fun _ kont => XS.istore X209.here hx rfl (hb hby own_d11_51) rfl (l' := #[.val (.ref a5), .val (.ref r5), .val (.ref s5), .val (.int (1 : Int32)), .val (.ref r5), .val (.int (Int32.ofNat n)), .unset, .unset]) rfl kont) ?_
  show own_Go p.tables e below _ (T209.setTop (mkF m 53 #[.val (.ref a5), .val (.ref r5), .val (.ref s5), .val (.int (1 : Int32)), .val (.ref r5), .val (.int (Int32.ofNat n)), .unset, .unset] []))
  refine own_go (fun _ kont => XS.iconst X209.here hx rfl (hb hby own_d11_53) kont) ?_
  show own_Go p.tables e below _ (T209.setTop (mkF m 54 #[.val (.ref a5), .val (.ref r5), .val (.ref s5), .val (.int (1 : Int32)), .val (.ref r5), .val (.int (Int32.ofNat n)), .unset, .unset] [(.int (0 : Int32))]))
  refine own_go (fun _ kont => XS.istore X209.here hx rfl (hb hby own_d11_54) rfl (l' := #[.val (.ref a5), .val (.ref r5), .val (.ref s5), .val (.int (1 : Int32)), .val (.ref r5), .val (.int (Int32.ofNat n)), .val (.int (0 : Int32)), .unset]) rfl kont) ?_
  show own_Go p.tables e below _ (T209.setTop (mkF m 56 #[.val (.ref a5), .val (.ref r5), .val (.ref s5), .val (.int (1 : Int32)), .val (.ref r5), .val (.int (Int32.ofNat n)), .val (.int (0 : Int32)), .unset] []))
  have loop : ∀ (r : Nat) (i : Nat) (o7 : Slot), i + r = n → (o7 = .unset ∨ ∃ y, o7 = .val (.ref y)) → ∀ (T210 : State) (Lc210 : List Loc) (vm210 : Vm) (kq210 : Nat), Stand p l e ({ frames := 2, cells := 2, slots := 20, locals := 24 } : Room) (s.setVm vm210) m #[(.ref a5), (.ref r5), (.ref s5)] below meth c T210 Lc210 2 20 → s.Since vm210 kq210 → kq210 ≤ h201.size → Z.Warmed39 (s.setVm vm210).vm → (s.setVm vm210).vm.findClass "com/example/nashwaak/nashwaak/terms/Compound" = some m.cls → Fr n0 Lc210 → T210.heap = h201 → own_Go p.tables e below (own_FinW s below (fun v h L => v = none ∧ Fr n0 L ∧ Keep h0 h [a5] ∧ own_Tm Z h a5 (own_all bs n)) ({ frames := 2, cells := 2, slots := 20, locals := 24 } : Room).cells ({ frames := 2, cells := 2, slots := 20, locals := 24 } : Room).slots) (T210.setTop (mkF m 56 #[.val (.ref a5), .val (.ref r5), .val (.ref s5), .val (.int (own_bi (own_all bs i))), .val (.ref r5), .val (.int (Int32.ofNat n)), .val (.int (Int32.ofNat i)), o7] [])) := by
    intro r
    induction r with
    | zero =>
      intro i o7 hi ho T210 Lc210 vm210 kq210 X210 hS hk hZ hown N210 e210
      obtain rfl : n = i := by omega
      show own_Go p.tables e below _ (T210.setTop (mkF m 56 #[.val (.ref a5), .val (.ref r5), .val (.ref s5), .val (.int (own_bi (own_all bs n))), .val (.ref r5), .val (.int (Int32.ofNat n)), .val (.int (Int32.ofNat n)), o7] []))
      refine own_go (fun _ kont => XS.iload X210.here hx rfl (hb hby own_d11_56) rfl kont) ?_
      show own_Go p.tables e below _ (T210.setTop (mkF m 58 #[.val (.ref a5), .val (.ref r5), .val (.ref s5), .val (.int (own_bi (own_all bs n))), .val (.ref r5), .val (.int (Int32.ofNat n)), .val (.int (Int32.ofNat n)), o7] [(.int (Int32.ofNat n))]))
      refine own_go (fun _ kont => XS.iload X210.here hx rfl (hb hby own_d11_58) rfl kont) ?_
      show own_Go p.tables e below _ (T210.setTop (mkF m 60 #[.val (.ref a5), .val (.ref r5), .val (.ref s5), .val (.int (own_bi (own_all bs n))), .val (.ref r5), .val (.int (Int32.ofNat n)), .val (.int (Int32.ofNat n)), o7] [(.int (Int32.ofNat n)), (.int (Int32.ofNat n))]))
      refine own_go (fun _ kont => XS.icmpYes X210.here hx rfl (pc0 := 60) (pc' := 113) rfl (hb hby own_d11_60) rfl (XT.ii_ge_t (fun q => absurd ((own_lt n n (by omega) (by omega)).mp q) (by omega))) (by decide) (by decide) kont) ?_
      show own_Go p.tables e below _ (T210.setTop (mkF m 113 #[.val (.ref a5), .val (.ref r5), .val (.ref s5), .val (.int (own_bi (own_all bs n))), .val (.ref r5), .val (.int (Int32.ofNat n)), .val (.int (Int32.ofNat n)), o7] []))
      refine own_go (fun _ kont => XS.aloadN X210.here hx rfl (hb hby own_d11_113) rfl rfl kont) ?_
      show own_Go p.tables e below _ (T210.setTop (mkF m 114 #[.val (.ref a5), .val (.ref r5), .val (.ref s5), .val (.int (own_bi (own_all bs n))), .val (.ref r5), .val (.int (Int32.ofNat n)), .val (.int (Int32.ofNat n)), o7] [(.ref a5)]))
      refine own_go (fun _ kont => XS.iloadN X210.here hx rfl (hb hby own_d11_114) rfl kont) ?_
      show own_Go p.tables e below _ (T210.setTop (mkF m 115 #[.val (.ref a5), .val (.ref r5), .val (.ref s5), .val (.int (own_bi (own_all bs n))), .val (.ref r5), .val (.int (Int32.ofNat n)), .val (.int (Int32.ofNat n)), o7] [(.int (own_bi (own_all bs n))), (.ref a5)]))
      obtain ⟨T211, h211, X211, e211, W211, st211⟩ := putF X210 hx hZ hown (host := "") (Or.inl (hw _ (List.mem_of_getElem? (i := 89) rfl))) Via.refl e210 F_ground_204 E_a5_205 (Or.inr ⟨(hw _ (List.mem_of_getElem? (i := 90) rfl)), rfl, hnm⟩) (hw _ (List.mem_of_getElem? (i := 53) rfl)) (ty := .boolean) (by decide) (own_nbi _) (own_fbi _) (g := (mkF m 115 #[.val (.ref a5), .val (.ref r5), .val (.ref s5), .val (.int (own_bi (own_all bs n))), .val (.ref r5), .val (.int (Int32.ofNat n)), .val (.int (Int32.ofNat n)), o7] [(.int (own_bi (own_all bs n))), (.ref a5)])) rfl rfl (hb hby own_d11_115)
      have F_name_212 : Fld Z h211 a5 "com/example/nashwaak/nashwaak/terms/Compound" "name" "Ljava/lang/String;" (.ref s5) := Fld.other W211 F_name_202 (Or.inr (slot_ne (t := (.object "java/lang/String")) (t' := .boolean) (Or.inr (hw _ (List.mem_of_getElem? (i := 78) rfl))) (Or.inr (hw _ (List.mem_of_getElem? (i := 90) rfl))) (by decide) (by decide) (by decide)))
      have F_args_213 : Fld Z h211 a5 "com/example/nashwaak/nashwaak/terms/Compound" "args" "[Lcom/example/nashwaak/nashwaak/terms/Term;" (.ref r5) := Fld.other W211 F_args_203 (Or.inr (slot_ne (t := (.array (.object "com/example/nashwaak/nashwaak/terms/Term"))) (t' := .boolean) (Or.inr (hw _ (List.mem_of_getElem? (i := 80) rfl))) (Or.inr (hw _ (List.mem_of_getElem? (i := 90) rfl))) (by decide) (by decide) (by decide)))
      have F_ground_214 : Fld Z h211 a5 "com/example/nashwaak/nashwaak/terms/Compound" "ground" "Z" (.int (own_bi (own_all bs n))) := Fld.same W211 F_ground_204
      have E_a5_215 : Exa Z h211 a5 "com/example/nashwaak/nashwaak/terms/Compound" := Exa.wr W211 E_a5_205
      have V_216 : own_Av Z h211 r5 kE (.object "com/example/nashwaak/nashwaak/terms/Term") n (f) := own_Av.other W211 V_206 na
      have Ts_217 : own_Tms Z h211 n t bs := own_Tms.other W211 Ts_207 nt
      have N218 := Fr.snoc X211 N210 g1
      have Z218 : n0 ≤ h211.size := by rw [W211.size]; exact Z208
      have hk218 := Nat.le_trans hk (Nat.le_of_eq W211.size.symm)
      have K218 : Keep h0 h211 [a5] := Keep.wr K208 W211 (Or.inl (by simp))
      refine own_go st211 ?_
      show own_Go p.tables e below _ (T211.setTop (mkF m 118 #[.val (.ref a5), .val (.ref r5), .val (.ref s5), .val (.int (own_bi (own_all bs n))), .val (.ref r5), .val (.int (Int32.ofNat n)), .val (.int (Int32.ofNat n)), o7] []))
      exact own_retVW X211 hS hk218 e211 hx hlk hret  (hb hby own_d11_118) (by rw [e211]; exact ⟨rfl, N218, K218, Or.inr (Or.inr ⟨E_a5_215, F_ground_214⟩)⟩) (by decide) (by decide)
    | succ r ih =>
      intro i o7 hi ho T210 Lc210 vm210 kq210 X210 hS hk hZ hown N210 e210
      refine own_go (fun _ kont => XS.iload X210.here hx rfl (hb hby own_d11_56) rfl kont) ?_
      show own_Go p.tables e below _ (T210.setTop (mkF m 58 #[.val (.ref a5), .val (.ref r5), .val (.ref s5), .val (.int (own_bi (own_all bs i))), .val (.ref r5), .val (.int (Int32.ofNat n)), .val (.int (Int32.ofNat i)), o7] [(.int (Int32.ofNat i))]))
      refine own_go (fun _ kont => XS.iload X210.here hx rfl (hb hby own_d11_58) rfl kont) ?_
      show own_Go p.tables e below _ (T210.setTop (mkF m 60 #[.val (.ref a5), .val (.ref r5), .val (.ref s5), .val (.int (own_bi (own_all bs i))), .val (.ref r5), .val (.int (Int32.ofNat n)), .val (.int (Int32.ofNat i)), o7] [(.int (Int32.ofNat n)), (.int (Int32.ofNat i))]))
      refine own_go (fun _ kont => XS.icmpNo X210.here hx rfl (hb hby own_d11_60) rfl (XT.ii_ge_f ((own_lt i n (by omega) (by omega)).mpr (by omega))) kont) ?_
      show own_Go p.tables e below _ (T210.setTop (mkF m 63 #[.val (.ref a5), .val (.ref r5), .val (.ref s5), .val (.int (own_bi (own_all bs i))), .val (.ref r5), .val (.int (Int32.ofNat n)), .val (.int (Int32.ofNat i)), o7] []))
      refine own_go (fun _ kont => XS.aload X210.here hx rfl (hb hby own_d11_63) rfl rfl kont) ?_
      show own_Go p.tables e below _ (T210.setTop (mkF m 65 #[.val (.ref a5), .val (.ref r5), .val (.ref s5), .val (.int (own_bi (own_all bs i))), .val (.ref r5), .val (.int (Int32.ofNat n)), .val (.int (Int32.ofNat i)), o7] [(.ref r5)]))
      refine own_go (fun _ kont => XS.iload X210.here hx rfl (hb hby own_d11_65) rfl kont) ?_
      show own_Go p.tables e below _ (T210.setTop (mkF m 67 #[.val (.ref a5), .val (.ref r5), .val (.ref s5), .val (.int (own_bi (own_all bs i))), .val (.ref r5), .val (.int (Int32.ofNat n)), .val (.int (Int32.ofNat i)), o7] [(.int (Int32.ofNat i)), (.ref r5)]))
      refine own_aald X210 hx hZ e210 V_206 rfl i (own_ix (Int32.ofNat i) i (own_of i (by omega))).1 (own_ix (Int32.ofNat i) i (own_of i (by omega))).2 (by omega) (w := .ref (t i)) (hf i (by omega)) (hb hby own_d11_67) ?_
      show own_Go p.tables e below _ (T210.setTop (mkF m 68 #[.val (.ref a5), .val (.ref r5), .val (.ref s5), .val (.int (own_bi (own_all bs i))), .val (.ref r5), .val (.int (Int32.ofNat n)), .val (.int (Int32.ofNat i)), o7] [(.ref (t i))]))
      refine own_go (fun _ kont => XS.astore X210.here hx rfl (hb hby own_d11_68) rfl rfl (l' := #[.val (.ref a5), .val (.ref r5), .val (.ref s5), .val (.int (own_bi (own_all bs i))), .val (.ref r5), .val (.int (Int32.ofNat n)), .val (.int (Int32.ofNat i)), .val (.ref (t i))]) (by rcases ho with rfl | ⟨y, rfl⟩ <;> rfl) kont) ?_
      show own_Go p.tables e below _ (T210.setTop (mkF m 70 #[.val (.ref a5), .val (.ref r5), .val (.ref s5), .val (.int (own_bi (own_all bs i))), .val (.ref r5), .val (.int (Int32.ofNat n)), .val (.int (Int32.ofNat i)), .val (.ref (t i))] []))
      refine own_go (fun _ kont => XS.aload X210.here hx rfl (hb hby own_d11_70) rfl rfl kont) ?_
      show own_Go p.tables e below _ (T210.setTop (mkF m 72 #[.val (.ref a5), .val (.ref r5), .val (.ref s5), .val (.int (own_bi (own_all bs i))), .val (.ref r5), .val (.int (Int32.ofNat n)), .val (.int (Int32.ofNat i)), .val (.ref (t i))] [(.ref (t i))]))
      refine own_go (fun _ kont => XS.ifnonnullYes X210.here hx rfl (pc0 := 72) (pc' := 89) rfl (hb hby own_d11_72) rfl (by decide) (by decide) kont) ?_
      show own_Go p.tables e below _ (T210.setTop (mkF m 89 #[.val (.ref a5), .val (.ref r5), .val (.ref s5), .val (.int (own_bi (own_all bs i))), .val (.ref r5), .val (.int (Int32.ofNat n)), .val (.int (Int32.ofNat i)), .val (.ref (t i))] []))
      refine own_go (fun _ kont => XS.iloadN X210.here hx rfl (hb hby own_d11_89) rfl kont) ?_
      show own_Go p.tables e below _ (T210.setTop (mkF m 90 #[.val (.ref a5), .val (.ref r5), .val (.ref s5), .val (.int (own_bi (own_all bs i))), .val (.ref r5), .val (.int (Int32.ofNat n)), .val (.int (Int32.ofNat i)), .val (.ref (t i))] [(.int (own_bi (own_all bs i)))]))
      have c106 : ∀ (zz : Int32) (o3 : Int32) (T219 : State) (Lc219 : List Loc) (vm219 : Vm) (kq219 : Nat), (hz : zz = own_bi (own_all bs (i + 1))) → Stand p l e ({ frames := 2, cells := 2, slots := 20, locals := 24 } : Room) (s.setVm vm219) m #[(.ref a5), (.ref r5), (.ref s5)] below meth c T219 Lc219 2 20 → s.Since vm219 kq219 → kq219 ≤ h201.size → Z.Warmed39 (s.setVm vm219).vm → (s.setVm vm219).vm.findClass "com/example/nashwaak/nashwaak/terms/Compound" = some m.cls → Fr n0 Lc219 → T219.heap = h201 → own_Go p.tables e below (own_FinW s below (fun v h L => v = none ∧ Fr n0 L ∧ Keep h0 h [a5] ∧ own_Tm Z h a5 (own_all bs n)) ({ frames := 2, cells := 2, slots := 20, locals := 24 } : Room).cells ({ frames := 2, cells := 2, slots := 20, locals := 24 } : Room).slots) (T219.setTop (mkF m 106 #[.val (.ref a5), .val (.ref r5), .val (.ref s5), .val (.int o3), .val (.ref r5), .val (.int (Int32.ofNat n)), .val (.int (Int32.ofNat i)), .val (.ref (t i))] [(.int zz)])) := by
        intro zz o3 T219 Lc219 vm219 kq219 hz X219 hS hk hZ hown N219 e219
        refine own_go (fun _ kont => XS.istoreN X219.here hx rfl (hb hby own_d11_106) rfl (l' := #[.val (.ref a5), .val (.ref r5), .val (.ref s5), .val (.int zz), .val (.ref r5), .val (.int (Int32.ofNat n)), .val (.int (Int32.ofNat i)), .val (.ref (t i))]) rfl kont) ?_
        show own_Go p.tables e below _ (T219.setTop (mkF m 107 #[.val (.ref a5), .val (.ref r5), .val (.ref s5), .val (.int zz), .val (.ref r5), .val (.int (Int32.ofNat n)), .val (.int (Int32.ofNat i)), .val (.ref (t i))] []))
        subst hz
        show own_Go p.tables e below _ (T219.setTop (mkF m 107 #[.val (.ref a5), .val (.ref r5), .val (.ref s5), .val (.int (own_bi (own_all bs (i + 1)))), .val (.ref r5), .val (.int (Int32.ofNat n)), .val (.int (Int32.ofNat i)), .val (.ref (t i))] []))
        refine own_go (fun _ kont => XS.iinc X219.here hx rfl (hb hby own_d11_107) rfl (l' := #[.val (.ref a5), .val (.ref r5), .val (.ref s5), .val (.int (own_bi (own_all bs (i + 1)))), .val (.ref r5), .val (.int (Int32.ofNat n)), .val (.int ((Int32.ofNat i) + 1)), .val (.ref (t i))]) rfl kont) ?_
        show own_Go p.tables e below _ (T219.setTop (mkF m 110 #[.val (.ref a5), .val (.ref r5), .val (.ref s5), .val (.int (own_bi (own_all bs (i + 1)))), .val (.ref r5), .val (.int (Int32.ofNat n)), .val (.int ((Int32.ofNat i) + 1)), .val (.ref (t i))] []))
        rw [own_inc i (by omega)]
        show own_Go p.tables e below _ (T219.setTop (mkF m 110 #[.val (.ref a5), .val (.ref r5), .val (.ref s5), .val (.int (own_bi (own_all bs (i + 1)))), .val (.ref r5), .val (.int (Int32.ofNat n)), .val (.int (Int32.ofNat (i + 1))), .val (.ref (t i))] []))
        refine own_go (fun _ kont => XS.goto X219.here hx rfl (pc0 := 110) (pc' := 56) rfl (hb hby own_d11_110) (by decide) (by decide) kont) ?_
        show own_Go p.tables e below _ (T219.setTop (mkF m 56 #[.val (.ref a5), .val (.ref r5), .val (.ref s5), .val (.int (own_bi (own_all bs (i + 1)))), .val (.ref r5), .val (.int (Int32.ofNat n)), .val (.int (Int32.ofNat (i + 1))), .val (.ref (t i))] []))
        exact ih (i + 1) _ (by omega) (Or.inr ⟨_, rfl⟩) _ _ _ _ X219 hS hk hZ hown N219 e219
      cases hq1 : own_all bs i with
      | false =>
        show own_Go p.tables e below _ (T210.setTop (mkF m 90 #[.val (.ref a5), .val (.ref r5), .val (.ref s5), .val (.int (0 : Int32)), .val (.ref r5), .val (.int (Int32.ofNat n)), .val (.int (Int32.ofNat i)), .val (.ref (t i))] [(.int (0 : Int32))]))
        refine own_go (fun _ kont => XS.ifYes X210.here hx rfl (pc0 := 90) (pc' := 105) rfl (hb hby own_d11_90) rfl (XT.i0_eq_t (rfl)) (by decide) (by decide) kont) ?_
        show own_Go p.tables e below _ (T210.setTop (mkF m 105 #[.val (.ref a5), .val (.ref r5), .val (.ref s5), .val (.int (0 : Int32)), .val (.ref r5), .val (.int (Int32.ofNat n)), .val (.int (Int32.ofNat i)), .val (.ref (t i))] []))
        refine own_go (fun _ kont => XS.iconst X210.here hx rfl (hb hby own_d11_105) kont) ?_
        show own_Go p.tables e below _ (T210.setTop (mkF m 106 #[.val (.ref a5), .val (.ref r5), .val (.ref s5), .val (.int (0 : Int32)), .val (.ref r5), .val (.int (Int32.ofNat n)), .val (.int (Int32.ofNat i)), .val (.ref (t i))] [(.int (0 : Int32))]))
        exact c106 _ _ _ _ _ _ (by simp only [own_all, hq1, Bool.false_and]; rfl) X210 hS hk hZ hown N210 e210
      | true =>
        show own_Go p.tables e below _ (T210.setTop (mkF m 90 #[.val (.ref a5), .val (.ref r5), .val (.ref s5), .val (.int (1 : Int32)), .val (.ref r5), .val (.int (Int32.ofNat n)), .val (.int (Int32.ofNat i)), .val (.ref (t i))] [(.int (1 : Int32))]))
        refine own_go (fun _ kont => XS.ifNo X210.here hx rfl (hb hby own_d11_90) rfl (XT.i0_eq_f (by decide)) kont) ?_
        show own_Go p.tables e below _ (T210.setTop (mkF m 93 #[.val (.ref a5), .val (.ref r5), .val (.ref s5), .val (.int (1 : Int32)), .val (.ref r5), .val (.int (Int32.ofNat n)), .val (.int (Int32.ofNat i)), .val (.ref (t i))] []))
        refine own_go (fun _ kont => XS.aload X210.here hx rfl (hb hby own_d11_93) rfl rfl kont) ?_
        show own_Go p.tables e below _ (T210.setTop (mkF m 95 #[.val (.ref a5), .val (.ref r5), .val (.ref s5), .val (.int (1 : Int32)), .val (.ref r5), .val (.int (Int32.ofNat n)), .val (.int (Int32.ofNat i)), .val (.ref (t i))] [(.ref (t i))]))
        refine own_callS X210 hx hZ (y := (⟨"com/example/nashwaak/nashwaak/terms/Compound", "isWrittenGround", "(Lcom/example/nashwaak/nashwaak/terms/Term;)Z"⟩ : MethodName)) (argsL := [(.ref (t i))]) (rest := []) (W := 0) hown (hw _ (List.mem_of_getElem? (i := 81) rfl)) (hw _ (List.mem_of_getElem? (i := 82) rfl)) (hw _ (List.mem_of_getElem? (i := 54) rfl)) (hw _ (List.mem_of_getElem? (i := 83) rfl)) (by decide) (own_rm12 l Z a0 hw (t i) h201 n0 Z208 (bs i) (Ts_207 i (by omega))) e210 (by decide) (by decide) (by decide) (by decide) (by rw [hml]; rfl) (lenOf own_pd__Lcom_example_nashwaak_nashwaak_terms_Term__Z rfl) rfl (Nat.le_of_eq rfl) (hb hby own_d11_95) ?_
        rintro _ T220 L220 X220 ⟨rfl, N220, e220⟩
        have NA220 := Fr.app N210 N220
        show own_Go p.tables e below _ (T220.setTop (mkF m 98 #[.val (.ref a5), .val (.ref r5), .val (.ref s5), .val (.int (1 : Int32)), .val (.ref r5), .val (.int (Int32.ofNat n)), .val (.int (Int32.ofNat i)), .val (.ref (t i))] [(.int (own_bi (bs i)))]))
        cases hq2 : bs i with
        | false =>
          show own_Go p.tables e below _ (T220.setTop (mkF m 98 #[.val (.ref a5), .val (.ref r5), .val (.ref s5), .val (.int (1 : Int32)), .val (.ref r5), .val (.int (Int32.ofNat n)), .val (.int (Int32.ofNat i)), .val (.ref (t i))] [(.int (0 : Int32))]))
          refine own_go (fun _ kont => XS.ifYes X220.here hx rfl (pc0 := 98) (pc' := 105) rfl (hb hby own_d11_98) rfl (XT.i0_eq_t (rfl)) (by decide) (by decide) kont) ?_
          show own_Go p.tables e below _ (T220.setTop (mkF m 105 #[.val (.ref a5), .val (.ref r5), .val (.ref s5), .val (.int (1 : Int32)), .val (.ref r5), .val (.int (Int32.ofNat n)), .val (.int (Int32.ofNat i)), .val (.ref (t i))] []))
          refine own_go (fun _ kont => XS.iconst X220.here hx rfl (hb hby own_d11_105) kont) ?_
          show own_Go p.tables e below _ (T220.setTop (mkF m 106 #[.val (.ref a5), .val (.ref r5), .val (.ref s5), .val (.int (1 : Int32)), .val (.ref r5), .val (.int (Int32.ofNat n)), .val (.int (Int32.ofNat i)), .val (.ref (t i))] [(.int (0 : Int32))]))
          skip
          exact c106 _ _ _ _ _ _ (by simp only [own_all, hq1, hq2, Bool.true_and]; rfl) X220 hS hk hZ hown NA220 e220
        | true =>
          show own_Go p.tables e below _ (T220.setTop (mkF m 98 #[.val (.ref a5), .val (.ref r5), .val (.ref s5), .val (.int (1 : Int32)), .val (.ref r5), .val (.int (Int32.ofNat n)), .val (.int (Int32.ofNat i)), .val (.ref (t i))] [(.int (1 : Int32))]))
          refine own_go (fun _ kont => XS.ifNo X220.here hx rfl (hb hby own_d11_98) rfl (XT.i0_eq_f (by decide)) kont) ?_
          show own_Go p.tables e below _ (T220.setTop (mkF m 101 #[.val (.ref a5), .val (.ref r5), .val (.ref s5), .val (.int (1 : Int32)), .val (.ref r5), .val (.int (Int32.ofNat n)), .val (.int (Int32.ofNat i)), .val (.ref (t i))] []))
          refine own_go (fun _ kont => XS.iconst X220.here hx rfl (hb hby own_d11_101) kont) ?_
          show own_Go p.tables e below _ (T220.setTop (mkF m 102 #[.val (.ref a5), .val (.ref r5), .val (.ref s5), .val (.int (1 : Int32)), .val (.ref r5), .val (.int (Int32.ofNat n)), .val (.int (Int32.ofNat i)), .val (.ref (t i))] [(.int (1 : Int32))]))
          refine own_go (fun _ kont => XS.goto X220.here hx rfl (pc0 := 102) (pc' := 106) rfl (hb hby own_d11_102) (by decide) (by decide) kont) ?_
          show own_Go p.tables e below _ (T220.setTop (mkF m 106 #[.val (.ref a5), .val (.ref r5), .val (.ref s5), .val (.int (1 : Int32)), .val (.ref r5), .val (.int (Int32.ofNat n)), .val (.int (Int32.ofNat i)), .val (.ref (t i))] [(.int (1 : Int32))]))
          exact c106 _ _ _ _ _ _ (by simp only [own_all, hq1, hq2, Bool.true_and]; rfl) X220 hS hk hZ hown NA220 e220
  exact loop n 0 .unset (by omega) (Or.inl rfl) _ _ _ _ X209 hS hk208 hZ hown N208 e209
theorem own_rm10_ef (m : MethodId) (a5 : Addr) (s5 : Addr) (r5 : Addr)  : entryFrame m #[(.ref a5), (.ref s5), (.ref r5)] 3 = mkF m 0 #[.val (.ref a5), .val (.ref s5), .val (.ref r5)] [] := by first | (simp [entryFrame, mkF, argsToLocals, Value.category, maxLocals]; done) | rfl
set_option maxRecDepth 65536 in
set_option maxHeartbeats 40000000 in
theorem own_rm10 (l : Launch) (Z : State) (a0 : Array Value) (hw : ∀ d ∈ tables_1, d.before a0 Z = true) (a5 : Addr) (s5 : Addr) (r5 : Addr) (h0 : Heap) (n0 : Nat) (Z0 : n0 ≤ h0.size) (n : Nat) (kE : ClassId) (f : Nat → Value) (t : Nat → Addr) (bs : Nat → Bool) (F0 : Fld Z h0 a5 "com/example/nashwaak/nashwaak/terms/Compound" "name" "Ljava/lang/String;" (.null)) (F1 : Fld Z h0 a5 "com/example/nashwaak/nashwaak/terms/Compound" "args" "[Lcom/example/nashwaak/nashwaak/terms/Term;" (.null)) (F2 : Fld Z h0 a5 "com/example/nashwaak/nashwaak/terms/Compound" "ground" "Z" (.int (0 : Int32))) (E1 : Exa Z h0 a5 "com/example/nashwaak/nashwaak/terms/Compound") (g1 : n0 ≤ a5) (V1 : own_Av Z h0 r5 kE (.object "com/example/nashwaak/nashwaak/terms/Term") n f) (hf : ∀ j, j < n → f j = .ref (t j)) (T1 : own_Tms Z h0 n t bs) (p0 : 0 < n) (p2 : n ≤ 2) (na : r5 ≠ a5) (nt : ∀ j, j < n → t j ≠ a5) (E2 : Exa Z h0 r5 "[Lcom/example/nashwaak/nashwaak/terms/Term;") :
    own_MetW l (⟨"com/example/nashwaak/nashwaak/terms/Compound", "<init>", "(Ljava/lang/String;[Lcom/example/nashwaak/nashwaak/terms/Term;)V"⟩ : MethodName) (Jvm.Cond.code (⟨"com/example/nashwaak/nashwaak/terms/Compound", "<init>", "(Ljava/lang/String;[Lcom/example/nashwaak/nashwaak/terms/Term;)V"⟩ : MethodName) prog_155_method_1_code 3 none :: []) ({ frames := 3, cells := 3, slots := 22, locals := 43 } : Room) Z h0 #[(.ref a5), (.ref s5), (.ref r5)] (fun v h L => v = none ∧ Fr n0 L ∧ Keep h0 h [a5] ∧ own_Tm Z h a5 (own_all bs n)) := by
  refine own_bodyW (pn := own_pn_10) ?_
  intro p e s m below meth c s₁ hx hby hml hown hnm hret hlk hZ X0 e0 hS
  have hk : 0 ≤ h0.size := Nat.zero_le _
  have N0 := Fr.nil n0
  refine own_go (fun _ kont => castTop (own_rm10_ef m a5 s5 r5 ) kont) ?_
  show own_Go p.tables e below _ (s₁.setTop (mkF m 0 #[.val (.ref a5), .val (.ref s5), .val (.ref r5)] []))
  have K0 : Keep h0 h0 [a5] := Keep.refl _ _
  refine own_go (fun _ kont => XS.aloadN X0.here hx rfl (hb hby own_d10_0) rfl rfl kont) ?_
  show own_Go p.tables e below _ (s₁.setTop (mkF m 1 #[.val (.ref a5), .val (.ref s5), .val (.ref r5)] [(.ref a5)]))
  refine own_go (fun _ kont => XS.aloadN X0.here hx rfl (hb hby own_d10_1) rfl rfl kont) ?_
  show own_Go p.tables e below _ (s₁.setTop (mkF m 2 #[.val (.ref a5), .val (.ref s5), .val (.ref r5)] [(.ref r5), (.ref a5)]))
  refine own_clone X0 hx hZ hown (hw _ (List.mem_of_getElem? (i := 62) rfl)) (hw _ (List.mem_of_getElem? (i := 63) rfl)) (hw _ (List.mem_of_getElem? (i := 67) rfl)) (hw _ (List.mem_of_getElem? (i := 65) rfl)) (hw _ (List.mem_of_getElem? (i := 66) rfl)) (hw _ (List.mem_of_getElem? (i := 68) rfl)) e0 V1 E2 (fun j hj => by rw [hf j hj]; rfl) (by rw [hml]; rfl) (hb hby own_d10_2) (by decide) (W := 1) (Nat.le_of_eq rfl) (by decide) 2 p2 (by decide) (by decide) ?_
  intro T221 h221 X221 e221 EE A221 B221
  obtain ⟨c1, gc⟩ : ∃ z, z = h0.size := ⟨_, rfl⟩
  rw [← gc] at A221 B221 ⊢
  have ne222 : a5 ≠ c1 := by rw [gc]; exact Nat.ne_of_lt F0.lt
  have ne223 : r5 ≠ c1 := by rw [gc]; exact Nat.ne_of_lt V1.lt
  have ge_c1 : n0 ≤ c1 := by rw [gc]; exact Z0
  have kb_c1 : h0.size ≤ c1 := by rw [gc]; exact K0.1
  have F_name_224 : Fld Z h221 a5 "com/example/nashwaak/nashwaak/terms/Compound" "name" "Ljava/lang/String;" (.null) := Fld.ext EE F0
  have F_args_225 : Fld Z h221 a5 "com/example/nashwaak/nashwaak/terms/Compound" "args" "[Lcom/example/nashwaak/nashwaak/terms/Term;" (.null) := Fld.ext EE F1
  have F_ground_226 : Fld Z h221 a5 "com/example/nashwaak/nashwaak/terms/Compound" "ground" "Z" (.int (0 : Int32)) := Fld.ext EE F2
  have E_a5_227 : Exa Z h221 a5 "com/example/nashwaak/nashwaak/terms/Compound" := Exa.ext EE E1
  have V_228 : own_Av Z h221 r5 kE (.object "com/example/nashwaak/nashwaak/terms/Term") n (f) := own_Av.ext EE V1
  have Ts_229 : own_Tms Z h221 n t bs := own_Tms.ext EE T1
  have Z230 : n0 ≤ h221.size := Nat.le_trans Z0 EE.1
  have hk230 := Nat.le_trans hk EE.1
  have K230 : Keep h0 h221 [a5] := Keep.ext K0 EE
  show own_Go p.tables e below _ (T221.setTop (mkF m 5 #[.val (.ref a5), .val (.ref s5), .val (.ref r5)] [(.ref c1), (.ref a5)]))
  obtain ⟨T231, X231, e231, st231⟩ := castY X221 hx hZ hown (hw _ (List.mem_of_getElem? (i := 69) rfl)) e221 (Ins.of_exa B221 (hw _ (List.mem_of_getElem? (i := 70) rfl))) (g := (mkF m 5 #[.val (.ref a5), .val (.ref s5), .val (.ref r5)] [(.ref c1), (.ref a5)])) rfl rfl (hb hby own_d10_5)
  refine own_go st231 ?_
  show own_Go p.tables e below _ (T231.setTop (mkF m 8 #[.val (.ref a5), .val (.ref s5), .val (.ref r5)] [(.ref c1), (.ref a5)]))
  refine own_go (fun _ kont => XS.aloadN X231.here hx rfl (hb hby own_d10_8) rfl rfl kont) ?_
  show own_Go p.tables e below _ (T231.setTop (mkF m 9 #[.val (.ref a5), .val (.ref s5), .val (.ref r5)] [(.ref s5), (.ref c1), (.ref a5)]))
  refine own_callIW X231 hS hk230 hx hZ (y := (⟨"com/example/nashwaak/nashwaak/terms/Compound", "<init>", "([Lcom/example/nashwaak/nashwaak/terms/Term;Ljava/lang/String;)V"⟩ : MethodName)) (argsL := [(.ref c1), (.ref s5)]) (rest := []) (W := 0) hown (hw _ (List.mem_of_getElem? (i := 71) rfl)) (hw _ (List.mem_of_getElem? (i := 72) rfl)) (hw _ (List.mem_of_getElem? (i := 73) rfl)) (hw _ (List.mem_of_getElem? (i := 54) rfl)) rfl (by decide) (own_rm11 l Z a0 hw a5 c1 s5 h221 n0 Z230 n kE f t bs F_name_224 F_args_225 F_ground_226 E_a5_227 g1 A221 hf Ts_229 p0 p2 (Ne.symm ne222) nt) e231 (by decide) (by decide) (by decide) (by decide) (by rw [hml]; rfl) (lenOf own_pd___Lcom_example_nashwaak_nashwaak_terms_Term_Ljava_lang_String__V rfl) rfl (Nat.le_of_eq rfl) (hb hby own_d10_9) ?_
  rintro _ T232 L232 X232 hS hZ hown ⟨rfl, N232, K232, TM⟩
  have NA232 := Fr.app N0 N232
  have E_a5_233 : Exa Z T232.heap a5 "com/example/nashwaak/nashwaak/terms/Compound" := Exa.keep E_a5_227 K232
  have V_c1_234 : own_Av Z T232.heap c1 kE (.object "com/example/nashwaak/nashwaak/terms/Term") n (f) := own_Av.keep A221 K232 (ninS (Ne.symm ne222) nin0)
  have E_c1_235 : Exa Z T232.heap c1 "[Lcom/example/nashwaak/nashwaak/terms/Term;" := Exa.keep B221 K232
  have Z236 : n0 ≤ T232.heap.size := Nat.le_trans Z230 K232.1
  have K236_ : Keep h0 T232.heap [a5] := Keep.trans K230 K232 (allS (Or.inl (by simp)) all0)
  show own_Go p.tables e below _ (T232.setTop (mkF m 12 #[.val (.ref a5), .val (.ref s5), .val (.ref r5)] []))
  exact own_retVW X232 hS (Nat.le_refl _) rfl hx hlk hret  (hb hby own_d10_12) (⟨rfl, NA232, K236_, TM⟩) (by decide) (by decide)
theorem own_rm16_ef (m : MethodId) (p1 : Int32)  : entryFrame m #[(.int p1)] 2 = mkF m 0 #[.val (.int p1), .unset] [] := by first | (simp [entryFrame, mkF, argsToLocals, Value.category, maxLocals]; done) | rfl
set_option maxRecDepth 65536 in
set_option maxHeartbeats 40000000 in
theorem own_rm16 (l : Launch) (Z : State) (a0 : Array Value) (hw : ∀ d ∈ tables_1, d.before a0 Z = true) (p1 : Int32) (h0 : Heap) (n0 : Nat) (Z0 : n0 ≤ h0.size)  :
    own_Met l (⟨"com/example/nashwaak/nashwaak/terms/CompoundIsWrittenGroundPinLaw", "leafGround", "(I)Z"⟩ : MethodName) (Jvm.Cond.code (⟨"com/example/nashwaak/nashwaak/terms/CompoundIsWrittenGroundPinLaw", "leafGround", "(I)Z"⟩ : MethodName) method_2_code 2 (some .boolean) :: []) ({ frames := 0, cells := 0, slots := 0, locals := 0 } : Room) Z h0 #[(.int p1)] (fun v h L => v = some (.int (own_bi (own_lg p1))) ∧ Fr n0 L ∧ h = h0) := by
  refine own_body (pn := own_pn_16) ?_
  intro p e s m below meth c s₁ hx hby hml hown hnm hret hlk hZ X0 e0
  have N0 := Fr.nil n0
  refine own_go (fun _ kont => castTop (own_rm16_ef m p1 ) kont) ?_
  show own_Go p.tables e below _ (s₁.setTop (mkF m 0 #[.val (.int p1), .unset] []))
  refine own_go (fun _ kont => XS.iloadN X0.here hx rfl (hb hby own_d16_0) rfl kont) ?_
  show own_Go p.tables e below _ (s₁.setTop (mkF m 1 #[.val (.int p1), .unset] [(.int p1)]))
  refine own_go (fun _ kont => XS.bipush X0.here hx rfl (hb hby own_d16_1) kont) ?_
  show own_Go p.tables e below _ (s₁.setTop (mkF m 3 #[.val (.int p1), .unset] [(.int (7 : Int32)), (.int p1)]))
  refine own_go (fun _ kont => XS.iand X0.here hx rfl (hb hby own_d16_3) rfl kont) ?_
  show own_Go p.tables e below _ (s₁.setTop (mkF m 4 #[.val (.int p1), .unset] [(.int (p1 &&& (7 : Int32)))]))
  refine own_go (fun _ kont => XS.istoreN X0.here hx rfl (hb hby own_d16_4) rfl (l' := #[.val (.int p1), .val (.int (p1 &&& (7 : Int32)))]) rfl kont) ?_
  show own_Go p.tables e below _ (s₁.setTop (mkF m 5 #[.val (.int p1), .val (.int (p1 &&& (7 : Int32)))] []))
  refine own_go (fun _ kont => XS.iloadN X0.here hx rfl (hb hby own_d16_5) rfl kont) ?_
  show own_Go p.tables e below _ (s₁.setTop (mkF m 6 #[.val (.int p1), .val (.int (p1 &&& (7 : Int32)))] [(.int (p1 &&& (7 : Int32)))]))
  by_cases b237 : (p1 &&& (7 : Int32)) = 0
  · skip
    refine own_go (fun _ kont => XS.ifYes X0.here hx rfl (pc0 := 6) (pc' := 20) rfl (hb hby own_d16_6) rfl (XT.i0_eq_t (b237)) (by decide) (by decide) kont) ?_
    show own_Go p.tables e below _ (s₁.setTop (mkF m 20 #[.val (.int p1), .val (.int (p1 &&& (7 : Int32)))] []))
    refine own_go (fun _ kont => XS.iconst X0.here hx rfl (hb hby own_d16_20) kont) ?_
    show own_Go p.tables e below _ (s₁.setTop (mkF m 21 #[.val (.int p1), .val (.int (p1 &&& (7 : Int32)))] [(.int (1 : Int32))]))
    refine own_go (fun _ kont => XS.goto X0.here hx rfl (pc0 := 21) (pc' := 25) rfl (hb hby own_d16_21) (by decide) (by decide) kont) ?_
    show own_Go p.tables e below _ (s₁.setTop (mkF m 25 #[.val (.int p1), .val (.int (p1 &&& (7 : Int32)))] [(.int (1 : Int32))]))
    exact own_retI X0 hx hlk hret (by simp) rfl (hb hby own_d16_25) (⟨own_i1 (by simp [own_lg, b237]), N0, e0⟩) (by decide) (by decide)
  · skip
    refine own_go (fun _ kont => XS.ifNo X0.here hx rfl (hb hby own_d16_6) rfl (XT.i0_eq_f (b237)) kont) ?_
    show own_Go p.tables e below _ (s₁.setTop (mkF m 9 #[.val (.int p1), .val (.int (p1 &&& (7 : Int32)))] []))
    refine own_go (fun _ kont => XS.iloadN X0.here hx rfl (hb hby own_d16_9) rfl kont) ?_
    show own_Go p.tables e below _ (s₁.setTop (mkF m 10 #[.val (.int p1), .val (.int (p1 &&& (7 : Int32)))] [(.int (p1 &&& (7 : Int32)))]))
    refine own_go (fun _ kont => XS.iconst X0.here hx rfl (hb hby own_d16_10) kont) ?_
    show own_Go p.tables e below _ (s₁.setTop (mkF m 11 #[.val (.int p1), .val (.int (p1 &&& (7 : Int32)))] [(.int (3 : Int32)), (.int (p1 &&& (7 : Int32)))]))
    by_cases b238 : (p1 &&& (7 : Int32)) = (3 : Int32)
    · skip
      refine own_go (fun _ kont => XS.icmpYes X0.here hx rfl (pc0 := 11) (pc' := 20) rfl (hb hby own_d16_11) rfl (XT.ii_eq_t (b238)) (by decide) (by decide) kont) ?_
      show own_Go p.tables e below _ (s₁.setTop (mkF m 20 #[.val (.int p1), .val (.int (p1 &&& (7 : Int32)))] []))
      refine own_go (fun _ kont => XS.iconst X0.here hx rfl (hb hby own_d16_20) kont) ?_
      show own_Go p.tables e below _ (s₁.setTop (mkF m 21 #[.val (.int p1), .val (.int (p1 &&& (7 : Int32)))] [(.int (1 : Int32))]))
      refine own_go (fun _ kont => XS.goto X0.here hx rfl (pc0 := 21) (pc' := 25) rfl (hb hby own_d16_21) (by decide) (by decide) kont) ?_
      show own_Go p.tables e below _ (s₁.setTop (mkF m 25 #[.val (.int p1), .val (.int (p1 &&& (7 : Int32)))] [(.int (1 : Int32))]))
      exact own_retI X0 hx hlk hret (by simp) rfl (hb hby own_d16_25) (⟨own_i1 (by simp [own_lg, b237, b238]), N0, e0⟩) (by decide) (by decide)
    · skip
      refine own_go (fun _ kont => XS.icmpNo X0.here hx rfl (hb hby own_d16_11) rfl (XT.ii_eq_f (b238)) kont) ?_
      show own_Go p.tables e below _ (s₁.setTop (mkF m 14 #[.val (.int p1), .val (.int (p1 &&& (7 : Int32)))] []))
      refine own_go (fun _ kont => XS.iloadN X0.here hx rfl (hb hby own_d16_14) rfl kont) ?_
      show own_Go p.tables e below _ (s₁.setTop (mkF m 15 #[.val (.int p1), .val (.int (p1 &&& (7 : Int32)))] [(.int (p1 &&& (7 : Int32)))]))
      refine own_go (fun _ kont => XS.bipush X0.here hx rfl (hb hby own_d16_15) kont) ?_
      show own_Go p.tables e below _ (s₁.setTop (mkF m 17 #[.val (.int p1), .val (.int (p1 &&& (7 : Int32)))] [(.int (6 : Int32)), (.int (p1 &&& (7 : Int32)))]))
      by_cases b239 : (p1 &&& (7 : Int32)) = (6 : Int32)
      · skip
        refine own_go (fun _ kont => XS.icmpNo X0.here hx rfl (hb hby own_d16_17) rfl (XT.ii_ne_f (b239)) kont) ?_
        show own_Go p.tables e below _ (s₁.setTop (mkF m 20 #[.val (.int p1), .val (.int (p1 &&& (7 : Int32)))] []))
        refine own_go (fun _ kont => XS.iconst X0.here hx rfl (hb hby own_d16_20) kont) ?_
        show own_Go p.tables e below _ (s₁.setTop (mkF m 21 #[.val (.int p1), .val (.int (p1 &&& (7 : Int32)))] [(.int (1 : Int32))]))
        refine own_go (fun _ kont => XS.goto X0.here hx rfl (pc0 := 21) (pc' := 25) rfl (hb hby own_d16_21) (by decide) (by decide) kont) ?_
        show own_Go p.tables e below _ (s₁.setTop (mkF m 25 #[.val (.int p1), .val (.int (p1 &&& (7 : Int32)))] [(.int (1 : Int32))]))
        exact own_retI X0 hx hlk hret (by simp) rfl (hb hby own_d16_25) (⟨own_i1 (by simp [own_lg, b237, b238, b239]), N0, e0⟩) (by decide) (by decide)
      · skip
        refine own_go (fun _ kont => XS.icmpYes X0.here hx rfl (pc0 := 17) (pc' := 24) rfl (hb hby own_d16_17) rfl (XT.ii_ne_t (b239)) (by decide) (by decide) kont) ?_
        show own_Go p.tables e below _ (s₁.setTop (mkF m 24 #[.val (.int p1), .val (.int (p1 &&& (7 : Int32)))] []))
        refine own_go (fun _ kont => XS.iconst X0.here hx rfl (hb hby own_d16_24) kont) ?_
        show own_Go p.tables e below _ (s₁.setTop (mkF m 25 #[.val (.int p1), .val (.int (p1 &&& (7 : Int32)))] [(.int (0 : Int32))]))
        exact own_retI X0 hx hlk hret (by simp) rfl (hb hby own_d16_25) (⟨own_i0 (by simp [own_lg, b237, b238, b239]), N0, e0⟩) (by decide) (by decide)
theorem own_rm9_ef (m : MethodId) (p1 : Int32) (t5 : Addr)  : entryFrame m #[(.int p1), (.ref t5)] 6 = mkF m 0 #[.val (.int p1), .val (.ref t5), .unset, .unset, .unset, .unset] [] := by first | (simp [entryFrame, mkF, argsToLocals, Value.category, maxLocals]; done) | rfl
set_option maxRecDepth 65536 in
set_option maxHeartbeats 40000000 in
theorem own_rm9 (l : Launch) (Z : State) (a0 : Array Value) (hw : ∀ d ∈ tables_1, d.before a0 Z = true) (p1 : Int32) (t5 : Addr) (h0 : Heap) (n0 : Nat) (Z0 : n0 ≤ h0.size) (E1 : Exa Z h0 t5 "com/example/nashwaak/nashwaak/terms/Atom") :
    own_MetW l (⟨"com/example/nashwaak/nashwaak/terms/CompoundIsWrittenGroundPinLaw", "leaf", "(ILcom/example/nashwaak/nashwaak/terms/Atom;)Lcom/example/nashwaak/nashwaak/terms/Term;"⟩ : MethodName) (Jvm.Cond.code (⟨"com/example/nashwaak/nashwaak/terms/CompoundIsWrittenGroundPinLaw", "leaf", "(ILcom/example/nashwaak/nashwaak/terms/Atom;)Lcom/example/nashwaak/nashwaak/terms/Term;"⟩ : MethodName) method_3_code 6 (some (.object "com/example/nashwaak/nashwaak/terms/Term")) :: []) ({ frames := 4, cells := 15, slots := 71, locals := 58 } : Room) Z h0 #[(.int p1), (.ref t5)] (fun v h L => ∃ r, v = some (.ref r) ∧ own_Tm Z h r (own_lg p1) ∧ Fr n0 L ∧ Keep h0 h []) := by
  refine own_bodyW (pn := own_pn_9) ?_
  intro p e s m below meth c s₁ hx hby hml hown hnm hret hlk hZ X0 e0 hS
  have hk : 0 ≤ h0.size := Nat.zero_le _
  have N0 := Fr.nil n0
  refine own_go (fun _ kont => castTop (own_rm9_ef m p1 t5 ) kont) ?_
  show own_Go p.tables e below _ (s₁.setTop (mkF m 0 #[.val (.int p1), .val (.ref t5), .unset, .unset, .unset, .unset] []))
  have K0 : Keep h0 h0 [] := Keep.refl _ _
  have wS := own_wS hw
  have T5 : own_Tm Z h0 t5 true := Or.inl ⟨E1, rfl⟩
  refine own_go (fun _ kont => XS.iloadN X0.here hx rfl (hb hby own_d9_0) rfl kont) ?_
  show own_Go p.tables e below _ (s₁.setTop (mkF m 1 #[.val (.int p1), .val (.ref t5), .unset, .unset, .unset, .unset] [(.int p1)]))
  refine own_go (fun _ kont => XS.bipush X0.here hx rfl (hb hby own_d9_1) kont) ?_
  show own_Go p.tables e below _ (s₁.setTop (mkF m 3 #[.val (.int p1), .val (.ref t5), .unset, .unset, .unset, .unset] [(.int (7 : Int32)), (.int p1)]))
  refine own_go (fun _ kont => XS.iand X0.here hx rfl (hb hby own_d9_3) rfl kont) ?_
  show own_Go p.tables e below _ (s₁.setTop (mkF m 4 #[.val (.int p1), .val (.ref t5), .unset, .unset, .unset, .unset] [(.int (p1 &&& (7 : Int32)))]))
  have s8 := own_and7 p1
  obtain ⟨sk, hsk⟩ : ∃ z, z = p1 &&& (7 : Int32) := ⟨_, rfl⟩
  rw [← hsk] at s8 ⊢
  show own_Go p.tables e below _ (s₁.setTop (mkF m 4 #[.val (.int p1), .val (.ref t5), .unset, .unset, .unset, .unset] [(.int sk)]))
  have lg : ∀ b : Bool, (decide (sk = 0 ∨ sk = 3 ∨ sk = 6)) = b → own_lg p1 = b := fun b q => by unfold own_lg; rw [← hsk]; exact q
  have c154 : ∀ (inn : Addr) (bb : Bool) (o5 : Slot) (h240 : Heap) (T240 : State) (Lc240 : List Loc) (vm240 : Vm) (kq240 : Nat), (TI : own_Tm Z h240 inn bb) → (KI : Keep h0 h240 []) → (LI : own_lg p1 = bb) → Stand p l e ({ frames := 4, cells := 15, slots := 71, locals := 58 } : Room) (s.setVm vm240) m #[(.int p1), (.ref t5)] below meth c T240 Lc240 8 37 → s.Since vm240 kq240 → kq240 ≤ h240.size → Z.Warmed39 (s.setVm vm240).vm → (s.setVm vm240).vm.findClass "com/example/nashwaak/nashwaak/terms/CompoundIsWrittenGroundPinLaw" = some m.cls → Fr n0 Lc240 → T240.heap = h240 → own_Go p.tables e below (own_FinW s below (fun v h L => ∃ r, v = some (.ref r) ∧ own_Tm Z h r (own_lg p1) ∧ Fr n0 L ∧ Keep h0 h []) ({ frames := 4, cells := 15, slots := 71, locals := 58 } : Room).cells ({ frames := 4, cells := 15, slots := 71, locals := 58 } : Room).slots) (T240.setTop (mkF m 154 #[.val (.int p1), .val (.ref t5), .val (.int sk), .val (.int (sk - 3)), .val (.ref inn), o5] [])) := by
    intro inn bb o5 h240 T240 Lc240 vm240 kq240 TI KI LI X240 hS hk hZ hown N240 e240
    have ZI := Nat.le_trans Z0 KI.1
    obtain ⟨T241, h241, X241, e241, E241, A241, D241, -, st241⟩ := newO X240 hx hZ hown (hw _ (List.mem_of_getElem? (i := 52) rfl)) (hw _ (List.mem_of_getElem? (i := 53) rfl)) (hw _ (List.mem_of_getElem? (i := 54) rfl)) e240 (g := (mkF m 154 #[.val (.int p1), .val (.ref t5), .val (.int sk), .val (.int (sk - 3)), .val (.ref inn), o5] [])) rfl (hb hby own_d9_154) (by decide) (by decide)
    obtain ⟨c1, g241⟩ : ∃ z, z = h240.size := ⟨_, rfl⟩
    rw [← g241] at A241 D241 st241
    have ne242 : inn ≠ c1 := by rw [g241]; exact Nat.ne_of_lt TI.lt
    have ge_c1 : n0 ≤ c1 := by rw [g241]; exact ZI
    have kb_c1 : h0.size ≤ c1 := by rw [g241]; exact KI.1
    have T_inn_243 : own_Tm Z h241 inn bb := own_Tm.ext E241 TI
    have Z244 : n0 ≤ h241.size := Nat.le_trans ZI E241.1
    have hk244 := Nat.le_trans hk E241.1
    have K244 : Keep h0 h241 [] := Keep.ext KI E241
    have E_c1_245 : Exa Z h241 c1 "com/example/nashwaak/nashwaak/terms/Compound" := A241
    have F_c1_name_246 : Fld Z h241 c1 "com/example/nashwaak/nashwaak/terms/Compound" "name" "Ljava/lang/String;" (.null) := D241 (Or.inr (hw _ (List.mem_of_getElem? (i := 78) rfl))) (ty := (.object "java/lang/String")) (by decide)
    have F_c1_args_247 : Fld Z h241 c1 "com/example/nashwaak/nashwaak/terms/Compound" "args" "[Lcom/example/nashwaak/nashwaak/terms/Term;" (.null) := D241 (Or.inr (hw _ (List.mem_of_getElem? (i := 80) rfl))) (ty := (.array (.object "com/example/nashwaak/nashwaak/terms/Term"))) (by decide)
    have F_c1_ground_248 : Fld Z h241 c1 "com/example/nashwaak/nashwaak/terms/Compound" "ground" "Z" (.int (0 : Int32)) := D241 (Or.inr (hw _ (List.mem_of_getElem? (i := 90) rfl))) (ty := .boolean) (by decide)
    refine own_go st241 ?_
    show own_Go p.tables e below _ (T241.setTop (mkF m 157 #[.val (.int p1), .val (.ref t5), .val (.int sk), .val (.int (sk - 3)), .val (.ref inn), o5] [(.ref c1)]))
    refine own_go (fun _ kont => XS.dup X241.here hx rfl (hb hby own_d9_157) rfl rfl kont) ?_
    show own_Go p.tables e below _ (T241.setTop (mkF m 158 #[.val (.int p1), .val (.ref t5), .val (.int sk), .val (.int (sk - 3)), .val (.ref inn), o5] [(.ref c1), (.ref c1)]))
    obtain ⟨u249, T249, h249, kz249, X249, e249, E249, hS, hk, hZ, hown, st249⟩ := ldcS X241 hx hZ hown (hw _ (List.mem_of_getElem? (i := 55) rfl)) wS e241 hS hk244 (g := (mkF m 158 #[.val (.int p1), .val (.ref t5), .val (.int sk), .val (.int (sk - 3)), .val (.ref inn), o5] [(.ref c1), (.ref c1)])) rfl (hb hby own_d9_158) (n := 4) (by decide) (by decide) (by decide) (by decide)
    have T_inn_250 : own_Tm Z h249 inn bb := own_Tm.ext E249 T_inn_243
    have E_c1_251 : Exa Z h249 c1 "com/example/nashwaak/nashwaak/terms/Compound" := Exa.ext E249 E_c1_245
    have F_c1_name_252 : Fld Z h249 c1 "com/example/nashwaak/nashwaak/terms/Compound" "name" "Ljava/lang/String;" (.null) := Fld.ext E249 F_c1_name_246
    have F_c1_args_253 : Fld Z h249 c1 "com/example/nashwaak/nashwaak/terms/Compound" "args" "[Lcom/example/nashwaak/nashwaak/terms/Term;" (.null) := Fld.ext E249 F_c1_args_247
    have F_c1_ground_254 : Fld Z h249 c1 "com/example/nashwaak/nashwaak/terms/Compound" "ground" "Z" (.int (0 : Int32)) := Fld.ext E249 F_c1_ground_248
    have Z255 : n0 ≤ h249.size := Nat.le_trans Z244 E249.1
    have K255 : Keep h0 h249 [] := Keep.ext K244 E249
    refine own_go st249 ?_
    show own_Go p.tables e below _ (T249.setTop (mkF m 160 #[.val (.int p1), .val (.ref t5), .val (.int sk), .val (.int (sk - 3)), .val (.ref inn), o5] [(.ref u249), (.ref c1), (.ref c1)]))
    refine own_go (fun _ kont => XS.iconst X249.here hx rfl (hb hby own_d9_160) kont) ?_
    show own_Go p.tables e below _ (T249.setTop (mkF m 161 #[.val (.int p1), .val (.ref t5), .val (.int sk), .val (.int (sk - 3)), .val (.ref inn), o5] [(.int (1 : Int32)), (.ref u249), (.ref c1), (.ref c1)]))
    obtain ⟨T256, h256, cA256, X256, e256, E256, A256, B256, O256, st256⟩ := newRE X249 hx hZ hown (hw _ (List.mem_of_getElem? (i := 56) rfl)) (hw _ (List.mem_of_getElem? (i := 57) rfl)) e249 (g := (mkF m 161 #[.val (.int p1), .val (.ref t5), .val (.int sk), .val (.int (sk - 3)), .val (.ref inn), o5] [(.int (1 : Int32)), (.ref u249), (.ref c1), (.ref c1)])) rfl (hb hby own_d9_161) rfl (by decide) (cap := 1) (by decide) (by decide) (by decide) (by decide) rfl
    obtain ⟨r1, g256⟩ : ∃ z, z = h249.size := ⟨_, rfl⟩
    rw [← g256] at A256 B256 st256
    have ne257 : inn ≠ r1 := by rw [g256]; exact Nat.ne_of_lt T_inn_250.lt
    have ne258 : c1 ≠ r1 := by rw [g256]; exact Nat.ne_of_lt E_c1_251.lt
    have ge_r1 : n0 ≤ r1 := by rw [g256]; exact Z255
    have kb_r1 : h0.size ≤ r1 := by rw [g256]; exact K255.1
    have T_inn_259 : own_Tm Z h256 inn bb := own_Tm.ext E256 T_inn_250
    have E_c1_260 : Exa Z h256 c1 "com/example/nashwaak/nashwaak/terms/Compound" := Exa.ext E256 E_c1_251
    have F_c1_name_261 : Fld Z h256 c1 "com/example/nashwaak/nashwaak/terms/Compound" "name" "Ljava/lang/String;" (.null) := Fld.ext E256 F_c1_name_252
    have F_c1_args_262 : Fld Z h256 c1 "com/example/nashwaak/nashwaak/terms/Compound" "args" "[Lcom/example/nashwaak/nashwaak/terms/Term;" (.null) := Fld.ext E256 F_c1_args_253
    have F_c1_ground_263 : Fld Z h256 c1 "com/example/nashwaak/nashwaak/terms/Compound" "ground" "Z" (.int (0 : Int32)) := Fld.ext E256 F_c1_ground_254
    have Z264 : n0 ≤ h256.size := Nat.le_trans Z255 E256.1
    have hk264 := Nat.le_trans hk E256.1
    have K264 : Keep h0 h256 [] := Keep.ext K255 E256
    have E_r1_265 : Exa Z h256 r1 "[Lcom/example/nashwaak/nashwaak/terms/Term;" := B256
    have V_r1_266 : own_Av Z h256 r1 cA256 (.object "com/example/nashwaak/nashwaak/terms/Term") 1 (fun _ => Value.null) := own_Av.new (ty := (.object "com/example/nashwaak/nashwaak/terms/Term")) A256 (by decide)
    refine own_go st256 ?_
    show own_Go p.tables e below _ (T256.setTop (mkF m 164 #[.val (.int p1), .val (.ref t5), .val (.int sk), .val (.int (sk - 3)), .val (.ref inn), o5] [(.ref r1), (.ref u249), (.ref c1), (.ref c1)]))
    have OV256 := O256
    refine own_go (fun _ kont => XS.dup X256.here hx rfl (hb hby own_d9_164) rfl rfl kont) ?_
    show own_Go p.tables e below _ (T256.setTop (mkF m 165 #[.val (.int p1), .val (.ref t5), .val (.int sk), .val (.int (sk - 3)), .val (.ref inn), o5] [(.ref r1), (.ref r1), (.ref u249), (.ref c1), (.ref c1)]))
    refine own_go (fun _ kont => XS.iconst X256.here hx rfl (hb hby own_d9_165) kont) ?_
    show own_Go p.tables e below _ (T256.setTop (mkF m 166 #[.val (.int p1), .val (.ref t5), .val (.int sk), .val (.int (sk - 3)), .val (.ref inn), o5] [(.int (0 : Int32)), (.ref r1), (.ref r1), (.ref u249), (.ref c1), (.ref c1)]))
    refine own_go (fun _ kont => XS.aload X256.here hx rfl (hb hby own_d9_166) rfl rfl kont) ?_
    show own_Go p.tables e below _ (T256.setTop (mkF m 168 #[.val (.int p1), .val (.ref t5), .val (.int sk), .val (.int (sk - 3)), .val (.ref inn), o5] [(.ref inn), (.int (0 : Int32)), (.ref r1), (.ref r1), (.ref u249), (.ref c1), (.ref c1)]))
    refine own_aast X256 hx hZ e256 V_r1_266 rfl (own_sto hw V_r1_266 OV256 T_inn_259) 0 (by decide) (by decide) (by decide) (hb hby own_d9_168) ?_
    intro T267 h267 X267 e267 W267
    have T_inn_268 : own_Tm Z h267 inn bb := own_Tm.other W267 T_inn_259 ne257
    have E_c1_269 : Exa Z h267 c1 "com/example/nashwaak/nashwaak/terms/Compound" := Exa.wr W267 E_c1_260
    have F_c1_name_270 : Fld Z h267 c1 "com/example/nashwaak/nashwaak/terms/Compound" "name" "Ljava/lang/String;" (.null) := Fld.other W267 F_c1_name_261 (Or.inl ne258)
    have F_c1_args_271 : Fld Z h267 c1 "com/example/nashwaak/nashwaak/terms/Compound" "args" "[Lcom/example/nashwaak/nashwaak/terms/Term;" (.null) := Fld.other W267 F_c1_args_262 (Or.inl ne258)
    have F_c1_ground_272 : Fld Z h267 c1 "com/example/nashwaak/nashwaak/terms/Compound" "ground" "Z" (.int (0 : Int32)) := Fld.other W267 F_c1_ground_263 (Or.inl ne258)
    have E_r1_273 : Exa Z h267 r1 "[Lcom/example/nashwaak/nashwaak/terms/Term;" := Exa.wr W267 E_r1_265
    have V_r1_274 : own_Av Z h267 r1 cA256 (.object "com/example/nashwaak/nashwaak/terms/Term") 1 (fun x => if x = 0 then .ref inn else (fun _ => Value.null) x) := own_Av.set V_r1_266 W267 (by decide)
    have N275 := Fr.snoc X267 N240 ge_r1
    have Z275 : n0 ≤ h267.size := by rw [W267.size]; exact Z264
    have hk275 := Nat.le_trans hk264 (Nat.le_of_eq W267.size.symm)
    have K275 : Keep h0 h267 [] := Keep.wr K264 W267 (Or.inr kb_r1)
    show own_Go p.tables e below _ (T267.setTop (mkF m 169 #[.val (.int p1), .val (.ref t5), .val (.int sk), .val (.int (sk - 3)), .val (.ref inn), o5] [(.ref r1), (.ref u249), (.ref c1), (.ref c1)]))
    have Q276 : own_Tms Z h267 1 (fun j => if j = 0 then inn else inn) (fun j => if j = 0 then bb else bb) := fun j hj => by rcases j with _ | j <;> first | exact T_inn_268 | exact T_inn_268 | omega
    have R276 : ∀ j, j < 1 → (fun x => if x = 0 then .ref inn else (fun _ => Value.null) x) j = Value.ref ((fun j => if j = 0 then inn else inn) j) := fun j hj => by rcases j with _ | j <;> first | rfl | omega
    have U276 : ∀ j, j < 1 → (fun j => if j = 0 then inn else inn) j ≠ c1 := fun j hj => by rcases j with _ | j <;> first | exact ne242 | exact ne242 | omega
    refine own_callIW X267 hS hk275 hx hZ (y := (⟨"com/example/nashwaak/nashwaak/terms/Compound", "<init>", "(Ljava/lang/String;[Lcom/example/nashwaak/nashwaak/terms/Term;)V"⟩ : MethodName)) (argsL := [(.ref u249), (.ref r1)]) (rest := [(.ref c1)]) (W := 1) hown (hw _ (List.mem_of_getElem? (i := 59) rfl)) (hw _ (List.mem_of_getElem? (i := 60) rfl)) (hw _ (List.mem_of_getElem? (i := 61) rfl)) (hw _ (List.mem_of_getElem? (i := 54) rfl)) rfl (by decide) (own_rm10 l Z a0 hw c1 u249 r1 h267 n0 Z275 1 _ _ (fun j => if j = 0 then inn else inn) (fun j => if j = 0 then bb else bb) F_c1_name_270 F_c1_args_271 F_c1_ground_272 E_c1_269 ge_c1 V_r1_274 R276 Q276 (by decide) (by decide) (Ne.symm ne258) U276 E_r1_273) e267 (by decide) (by decide) (by decide) (by decide) (by rw [hml]; rfl) (lenOf own_pd__Ljava_lang_String__Lcom_example_nashwaak_nashwaak_terms_Term__V rfl) rfl (Nat.le_of_eq rfl) (hb hby own_d9_169) ?_
    rintro _ T277 L277 X277 hS hZ hown ⟨rfl, N277, K277, M277⟩
    have NA277 := Fr.app N275 N277
    have T_inn_278 : own_Tm Z T277.heap inn bb := own_Tm.keep T_inn_268 K277 (ninS ne242 nin0)
    have E_c1_279 : Exa Z T277.heap c1 "com/example/nashwaak/nashwaak/terms/Compound" := Exa.keep E_c1_269 K277
    have E_r1_280 : Exa Z T277.heap r1 "[Lcom/example/nashwaak/nashwaak/terms/Term;" := Exa.keep E_r1_273 K277
    have V_r1_281 : own_Av Z T277.heap r1 cA256 (.object "com/example/nashwaak/nashwaak/terms/Term") 1 (fun x => if x = 0 then .ref inn else (fun _ => Value.null) x) := own_Av.keep V_r1_274 K277 (ninS (Ne.symm ne258) nin0)
    have Z282 : n0 ≤ T277.heap.size := Nat.le_trans Z275 K277.1
    have K282_ : Keep h0 T277.heap [] := Keep.trans K275 K277 (allS (Or.inr kb_c1) all0)
    show own_Go p.tables e below _ (T277.setTop (mkF m 172 #[.val (.int p1), .val (.ref t5), .val (.int sk), .val (.int (sk - 3)), .val (.ref inn), o5] [(.ref c1)]))
    exact own_retAW X277 hS (Nat.le_refl _) rfl hx hlk hret rfl rfl (hb hby own_d9_172) (⟨_, rfl, by rw [LI]; have q := M277; simpa [own_all] using q, NA277, K282_⟩) (by decide) (by decide)
  skip
  rcases s8 with rfl | rfl | rfl | rfl | rfl | rfl | rfl | rfl
  · skip
    show own_Go p.tables e below _ (s₁.setTop (mkF m 4 #[.val (.int p1), .val (.ref t5), .unset, .unset, .unset, .unset] [(.int (0 : Int32))]))
    refine own_go (fun _ kont => XS.istoreN X0.here hx rfl (hb hby own_d9_4) rfl (l' := #[.val (.int p1), .val (.ref t5), .val (.int (0 : Int32)), .unset, .unset, .unset]) rfl kont) ?_
    show own_Go p.tables e below _ (s₁.setTop (mkF m 5 #[.val (.int p1), .val (.ref t5), .val (.int (0 : Int32)), .unset, .unset, .unset] []))
    refine own_go (fun _ kont => XS.iloadN X0.here hx rfl (hb hby own_d9_5) rfl kont) ?_
    show own_Go p.tables e below _ (s₁.setTop (mkF m 6 #[.val (.int p1), .val (.ref t5), .val (.int (0 : Int32)), .unset, .unset, .unset] [(.int (0 : Int32))]))
    have LG := lg true (by decide)
    refine own_go (fun _ kont => XS.ifNo X0.here hx rfl (hb hby own_d9_6) rfl (XT.i0_ne_f (rfl)) kont) ?_
    show own_Go p.tables e below _ (s₁.setTop (mkF m 9 #[.val (.int p1), .val (.ref t5), .val (.int (0 : Int32)), .unset, .unset, .unset] []))
    refine own_go (fun _ kont => XS.aloadN X0.here hx rfl (hb hby own_d9_9) rfl rfl kont) ?_
    show own_Go p.tables e below _ (s₁.setTop (mkF m 10 #[.val (.int p1), .val (.ref t5), .val (.int (0 : Int32)), .unset, .unset, .unset] [(.ref t5)]))
    exact own_retAW X0 hS hk e0 hx hlk hret rfl rfl (hb hby own_d9_10) (⟨_, rfl, by rw [LG, e0]; exact T5, N0, by rw [e0]; exact K0⟩) (by decide) (by decide)
  · skip
    show own_Go p.tables e below _ (s₁.setTop (mkF m 4 #[.val (.int p1), .val (.ref t5), .unset, .unset, .unset, .unset] [(.int (1 : Int32))]))
    refine own_go (fun _ kont => XS.istoreN X0.here hx rfl (hb hby own_d9_4) rfl (l' := #[.val (.int p1), .val (.ref t5), .val (.int (1 : Int32)), .unset, .unset, .unset]) rfl kont) ?_
    show own_Go p.tables e below _ (s₁.setTop (mkF m 5 #[.val (.int p1), .val (.ref t5), .val (.int (1 : Int32)), .unset, .unset, .unset] []))
    refine own_go (fun _ kont => XS.iloadN X0.here hx rfl (hb hby own_d9_5) rfl kont) ?_
    show own_Go p.tables e below _ (s₁.setTop (mkF m 6 #[.val (.int p1), .val (.ref t5), .val (.int (1 : Int32)), .unset, .unset, .unset] [(.int (1 : Int32))]))
    have LG := lg false (by decide)
    refine own_go (fun _ kont => XS.ifYes X0.here hx rfl (pc0 := 6) (pc' := 11) rfl (hb hby own_d9_6) rfl (XT.i0_ne_t (by decide)) (by decide) (by decide) kont) ?_
    show own_Go p.tables e below _ (s₁.setTop (mkF m 11 #[.val (.int p1), .val (.ref t5), .val (.int (1 : Int32)), .unset, .unset, .unset] []))
    refine own_go (fun _ kont => XS.iloadN X0.here hx rfl (hb hby own_d9_11) rfl kont) ?_
    show own_Go p.tables e below _ (s₁.setTop (mkF m 12 #[.val (.int p1), .val (.ref t5), .val (.int (1 : Int32)), .unset, .unset, .unset] [(.int (1 : Int32))]))
    refine own_go (fun _ kont => XS.iconst X0.here hx rfl (hb hby own_d9_12) kont) ?_
    show own_Go p.tables e below _ (s₁.setTop (mkF m 13 #[.val (.int p1), .val (.ref t5), .val (.int (1 : Int32)), .unset, .unset, .unset] [(.int (1 : Int32)), (.int (1 : Int32))]))
    refine own_go (fun _ kont => XS.icmpNo X0.here hx rfl (hb hby own_d9_13) rfl (XT.ii_ne_f (rfl)) kont) ?_
    show own_Go p.tables e below _ (s₁.setTop (mkF m 16 #[.val (.int p1), .val (.ref t5), .val (.int (1 : Int32)), .unset, .unset, .unset] []))
    obtain ⟨T283, h283, X283, e283, E283, A283, D283, -, st283⟩ := newO X0 hx hZ hown (hw _ (List.mem_of_getElem? (i := 91) rfl)) (hw _ (List.mem_of_getElem? (i := 92) rfl)) (hw _ (List.mem_of_getElem? (i := 93) rfl)) e0 (g := (mkF m 16 #[.val (.int p1), .val (.ref t5), .val (.int (1 : Int32)), .unset, .unset, .unset] [])) rfl (hb hby own_d9_16) (by decide) (by decide)
    obtain ⟨v1, g283⟩ : ∃ z, z = h0.size := ⟨_, rfl⟩
    rw [← g283] at A283 D283 st283
    have ne284 : t5 ≠ v1 := by rw [g283]; exact Nat.ne_of_lt T5.lt
    have ge_v1 : n0 ≤ v1 := by rw [g283]; exact Z0
    have kb_v1 : h0.size ≤ v1 := by rw [g283]; exact K0.1
    have T_t5_285 : own_Tm Z h283 t5 true := own_Tm.ext E283 T5
    have Z286 : n0 ≤ h283.size := Nat.le_trans Z0 E283.1
    have hk286 := Nat.le_trans hk E283.1
    have K286 : Keep h0 h283 [] := Keep.ext K0 E283
    have E_v1_287 : Exa Z h283 v1 "com/example/nashwaak/nashwaak/terms/Variable" := A283
    have F_v1_number_288 : Fld Z h283 v1 "com/example/nashwaak/nashwaak/terms/Variable" "number" "I" (.int (0 : Int32)) := D283 (Or.inr (hw _ (List.mem_of_getElem? (i := 102) rfl))) (ty := .int) (by decide)
    have F_v1_level_289 : Fld Z h283 v1 "com/example/nashwaak/nashwaak/terms/Variable" "level" "I" (.int (0 : Int32)) := D283 (Or.inr (hw _ (List.mem_of_getElem? (i := 104) rfl))) (ty := .int) (by decide)
    have F_v1_binding_290 : Fld Z h283 v1 "com/example/nashwaak/nashwaak/terms/Variable" "binding" "Lcom/example/nashwaak/nashwaak/terms/Term;" (.null) := D283 (Or.inl (hw _ (List.mem_of_getElem? (i := 111) rfl))) (ty := (.object "com/example/nashwaak/nashwaak/terms/Term")) (by decide)
    refine own_go st283 ?_
    show own_Go p.tables e below _ (T283.setTop (mkF m 19 #[.val (.int p1), .val (.ref t5), .val (.int (1 : Int32)), .unset, .unset, .unset] [(.ref v1)]))
    refine own_go (fun _ kont => XS.dup X283.here hx rfl (hb hby own_d9_19) rfl rfl kont) ?_
    show own_Go p.tables e below _ (T283.setTop (mkF m 20 #[.val (.int p1), .val (.ref t5), .val (.int (1 : Int32)), .unset, .unset, .unset] [(.ref v1), (.ref v1)]))
    refine own_callI X283 hx hZ (y := (⟨"com/example/nashwaak/nashwaak/terms/Variable", "<init>", "()V"⟩ : MethodName)) (argsL := []) (rest := [(.ref v1)]) (W := 1) hown (hw _ (List.mem_of_getElem? (i := 94) rfl)) (hw _ (List.mem_of_getElem? (i := 95) rfl)) (hw _ (List.mem_of_getElem? (i := 96) rfl)) (hw _ (List.mem_of_getElem? (i := 93) rfl)) rfl (by decide) (own_rm13 l Z a0 hw v1 h283 n0 Z286 F_v1_number_288 F_v1_level_289 F_v1_binding_290 E_v1_287 ge_v1) e283 (by decide) (by decide) (by decide) (by decide) (by rw [hml]; rfl) (lenOf own_pd___V rfl) rfl (Nat.le_of_eq rfl) (hb hby own_d9_20) ?_
    rintro _ T291 L291 X291 ⟨rfl, N291, K291, F291⟩
    have NA291 := Fr.app N0 N291
    have T_t5_292 : own_Tm Z T291.heap t5 true := own_Tm.keep T_t5_285 K291 (ninS ne284 nin0)
    have E_v1_293 : Exa Z T291.heap v1 "com/example/nashwaak/nashwaak/terms/Variable" := Exa.keep E_v1_287 K291
    have Z294 : n0 ≤ T291.heap.size := Nat.le_trans Z286 K291.1
    have hk294 := Nat.le_trans hk286 K291.1
    have K294_ : Keep h0 T291.heap [] := Keep.trans K286 K291 (allS (Or.inr kb_v1) all0)
    show own_Go p.tables e below _ (T291.setTop (mkF m 23 #[.val (.int p1), .val (.ref t5), .val (.int (1 : Int32)), .unset, .unset, .unset] [(.ref v1)]))
    exact own_retAW X291 hS hk294 rfl hx hlk hret rfl rfl (hb hby own_d9_23) (⟨_, rfl, by rw [LG]; exact Or.inr (Or.inl ⟨E_v1_293, rfl⟩), NA291, K294_⟩) (by decide) (by decide)
  · skip
    show own_Go p.tables e below _ (s₁.setTop (mkF m 4 #[.val (.int p1), .val (.ref t5), .unset, .unset, .unset, .unset] [(.int (2 : Int32))]))
    refine own_go (fun _ kont => XS.istoreN X0.here hx rfl (hb hby own_d9_4) rfl (l' := #[.val (.int p1), .val (.ref t5), .val (.int (2 : Int32)), .unset, .unset, .unset]) rfl kont) ?_
    show own_Go p.tables e below _ (s₁.setTop (mkF m 5 #[.val (.int p1), .val (.ref t5), .val (.int (2 : Int32)), .unset, .unset, .unset] []))
    refine own_go (fun _ kont => XS.iloadN X0.here hx rfl (hb hby own_d9_5) rfl kont) ?_
    show own_Go p.tables e below _ (s₁.setTop (mkF m 6 #[.val (.int p1), .val (.ref t5), .val (.int (2 : Int32)), .unset, .unset, .unset] [(.int (2 : Int32))]))
    have LG := lg false (by decide)
    refine own_go (fun _ kont => XS.ifYes X0.here hx rfl (pc0 := 6) (pc' := 11) rfl (hb hby own_d9_6) rfl (XT.i0_ne_t (by decide)) (by decide) (by decide) kont) ?_
    show own_Go p.tables e below _ (s₁.setTop (mkF m 11 #[.val (.int p1), .val (.ref t5), .val (.int (2 : Int32)), .unset, .unset, .unset] []))
    refine own_go (fun _ kont => XS.iloadN X0.here hx rfl (hb hby own_d9_11) rfl kont) ?_
    show own_Go p.tables e below _ (s₁.setTop (mkF m 12 #[.val (.int p1), .val (.ref t5), .val (.int (2 : Int32)), .unset, .unset, .unset] [(.int (2 : Int32))]))
    refine own_go (fun _ kont => XS.iconst X0.here hx rfl (hb hby own_d9_12) kont) ?_
    show own_Go p.tables e below _ (s₁.setTop (mkF m 13 #[.val (.int p1), .val (.ref t5), .val (.int (2 : Int32)), .unset, .unset, .unset] [(.int (1 : Int32)), (.int (2 : Int32))]))
    refine own_go (fun _ kont => XS.icmpYes X0.here hx rfl (pc0 := 13) (pc' := 24) rfl (hb hby own_d9_13) rfl (XT.ii_ne_t (by decide)) (by decide) (by decide) kont) ?_
    show own_Go p.tables e below _ (s₁.setTop (mkF m 24 #[.val (.int p1), .val (.ref t5), .val (.int (2 : Int32)), .unset, .unset, .unset] []))
    refine own_go (fun _ kont => XS.iloadN X0.here hx rfl (hb hby own_d9_24) rfl kont) ?_
    show own_Go p.tables e below _ (s₁.setTop (mkF m 25 #[.val (.int p1), .val (.ref t5), .val (.int (2 : Int32)), .unset, .unset, .unset] [(.int (2 : Int32))]))
    refine own_go (fun _ kont => XS.iconst X0.here hx rfl (hb hby own_d9_25) kont) ?_
    show own_Go p.tables e below _ (s₁.setTop (mkF m 26 #[.val (.int p1), .val (.ref t5), .val (.int (2 : Int32)), .unset, .unset, .unset] [(.int (2 : Int32)), (.int (2 : Int32))]))
    refine own_go (fun _ kont => XS.icmpNo X0.here hx rfl (hb hby own_d9_26) rfl (XT.ii_ne_f (rfl)) kont) ?_
    show own_Go p.tables e below _ (s₁.setTop (mkF m 29 #[.val (.int p1), .val (.ref t5), .val (.int (2 : Int32)), .unset, .unset, .unset] []))
    obtain ⟨T295, h295, X295, e295, E295, A295, D295, -, st295⟩ := newO X0 hx hZ hown (hw _ (List.mem_of_getElem? (i := 91) rfl)) (hw _ (List.mem_of_getElem? (i := 92) rfl)) (hw _ (List.mem_of_getElem? (i := 93) rfl)) e0 (g := (mkF m 29 #[.val (.int p1), .val (.ref t5), .val (.int (2 : Int32)), .unset, .unset, .unset] [])) rfl (hb hby own_d9_29) (by decide) (by decide)
    obtain ⟨v1, g295⟩ : ∃ z, z = h0.size := ⟨_, rfl⟩
    rw [← g295] at A295 D295 st295
    have ne296 : t5 ≠ v1 := by rw [g295]; exact Nat.ne_of_lt T5.lt
    have ge_v1 : n0 ≤ v1 := by rw [g295]; exact Z0
    have kb_v1 : h0.size ≤ v1 := by rw [g295]; exact K0.1
    have T_t5_297 : own_Tm Z h295 t5 true := own_Tm.ext E295 T5
    have Z298 : n0 ≤ h295.size := Nat.le_trans Z0 E295.1
    have hk298 := Nat.le_trans hk E295.1
    have K298 : Keep h0 h295 [] := Keep.ext K0 E295
    have E_v1_299 : Exa Z h295 v1 "com/example/nashwaak/nashwaak/terms/Variable" := A295
    have F_v1_number_300 : Fld Z h295 v1 "com/example/nashwaak/nashwaak/terms/Variable" "number" "I" (.int (0 : Int32)) := D295 (Or.inr (hw _ (List.mem_of_getElem? (i := 102) rfl))) (ty := .int) (by decide)
    have F_v1_level_301 : Fld Z h295 v1 "com/example/nashwaak/nashwaak/terms/Variable" "level" "I" (.int (0 : Int32)) := D295 (Or.inr (hw _ (List.mem_of_getElem? (i := 104) rfl))) (ty := .int) (by decide)
    have F_v1_binding_302 : Fld Z h295 v1 "com/example/nashwaak/nashwaak/terms/Variable" "binding" "Lcom/example/nashwaak/nashwaak/terms/Term;" (.null) := D295 (Or.inl (hw _ (List.mem_of_getElem? (i := 111) rfl))) (ty := (.object "com/example/nashwaak/nashwaak/terms/Term")) (by decide)
    refine own_go st295 ?_
    show own_Go p.tables e below _ (T295.setTop (mkF m 32 #[.val (.int p1), .val (.ref t5), .val (.int (2 : Int32)), .unset, .unset, .unset] [(.ref v1)]))
    refine own_go (fun _ kont => XS.dup X295.here hx rfl (hb hby own_d9_32) rfl rfl kont) ?_
    show own_Go p.tables e below _ (T295.setTop (mkF m 33 #[.val (.int p1), .val (.ref t5), .val (.int (2 : Int32)), .unset, .unset, .unset] [(.ref v1), (.ref v1)]))
    refine own_callI X295 hx hZ (y := (⟨"com/example/nashwaak/nashwaak/terms/Variable", "<init>", "()V"⟩ : MethodName)) (argsL := []) (rest := [(.ref v1)]) (W := 1) hown (hw _ (List.mem_of_getElem? (i := 94) rfl)) (hw _ (List.mem_of_getElem? (i := 95) rfl)) (hw _ (List.mem_of_getElem? (i := 96) rfl)) (hw _ (List.mem_of_getElem? (i := 93) rfl)) rfl (by decide) (own_rm13 l Z a0 hw v1 h295 n0 Z298 F_v1_number_300 F_v1_level_301 F_v1_binding_302 E_v1_299 ge_v1) e295 (by decide) (by decide) (by decide) (by decide) (by rw [hml]; rfl) (lenOf own_pd___V rfl) rfl (Nat.le_of_eq rfl) (hb hby own_d9_33) ?_
    rintro _ T303 L303 X303 ⟨rfl, N303, K303, F303⟩
    have NA303 := Fr.app N0 N303
    have T_t5_304 : own_Tm Z T303.heap t5 true := own_Tm.keep T_t5_297 K303 (ninS ne296 nin0)
    have E_v1_305 : Exa Z T303.heap v1 "com/example/nashwaak/nashwaak/terms/Variable" := Exa.keep E_v1_299 K303
    have Z306 : n0 ≤ T303.heap.size := Nat.le_trans Z298 K303.1
    have hk306 := Nat.le_trans hk298 K303.1
    have K306_ : Keep h0 T303.heap [] := Keep.trans K298 K303 (allS (Or.inr kb_v1) all0)
    show own_Go p.tables e below _ (T303.setTop (mkF m 36 #[.val (.int p1), .val (.ref t5), .val (.int (2 : Int32)), .unset, .unset, .unset] [(.ref v1)]))
    refine own_go (fun _ kont => XS.astoreN X303.here hx rfl (hb hby own_d9_36) rfl rfl (l' := #[.val (.int p1), .val (.ref t5), .val (.int (2 : Int32)), .val (.ref v1), .unset, .unset]) rfl kont) ?_
    show own_Go p.tables e below _ (T303.setTop (mkF m 37 #[.val (.int p1), .val (.ref t5), .val (.int (2 : Int32)), .val (.ref v1), .unset, .unset] []))
    refine own_go (fun _ kont => XS.aloadN X303.here hx rfl (hb hby own_d9_37) rfl rfl kont) ?_
    show own_Go p.tables e below _ (T303.setTop (mkF m 38 #[.val (.int p1), .val (.ref t5), .val (.int (2 : Int32)), .val (.ref v1), .unset, .unset] [(.ref v1)]))
    refine own_go (fun _ kont => XS.aloadN X303.here hx rfl (hb hby own_d9_38) rfl rfl kont) ?_
    show own_Go p.tables e below _ (T303.setTop (mkF m 39 #[.val (.int p1), .val (.ref t5), .val (.int (2 : Int32)), .val (.ref v1), .unset, .unset] [(.ref t5), (.ref v1)]))
    refine own_callVW X303 hS hk306 hx hZ (z := (⟨"com/example/nashwaak/nashwaak/terms/Variable", "bind", "(Lcom/example/nashwaak/nashwaak/terms/Term;)V"⟩ : MethodName)) (argsL := [(.ref t5)]) (rest := []) (W := 0) hown (hw _ (List.mem_of_getElem? (i := 105) rfl)) (hw _ (List.mem_of_getElem? (i := 106) rfl)) (hw _ (List.mem_of_getElem? (i := 108) rfl)) (hw _ (List.mem_of_getElem? (i := 107) rfl)) (hw _ (List.mem_of_getElem? (i := 109) rfl)) (hw _ (List.mem_of_getElem? (i := 93) rfl)) (by decide) (E_v1_305) (own_rm15 l Z a0 hw v1 t5 T303.heap n0 Z306 true F303 E_v1_305 ge_v1 T_t5_304 ne296) rfl (by decide) (by decide) (by decide) (by decide) (by rw [hml]; rfl) (lenOf own_pd__Lcom_example_nashwaak_nashwaak_terms_Term__V rfl) rfl (Nat.le_of_eq rfl) (hb hby own_d9_39) ?_
    rintro _ T307 L307 X307 hS hZ hown ⟨rfl, N307, K307⟩
    have NA307 := Fr.app NA303 N307
    have T_t5_308 : own_Tm Z T307.heap t5 true := own_Tm.keep T_t5_304 K307 (ninS ne296 nin0)
    have E_v1_309 : Exa Z T307.heap v1 "com/example/nashwaak/nashwaak/terms/Variable" := Exa.keep E_v1_305 K307
    have Z310 : n0 ≤ T307.heap.size := Nat.le_trans Z306 K307.1
    have K310_ : Keep h0 T307.heap [] := Keep.trans K306_ K307 (allS (Or.inr kb_v1) all0)
    show own_Go p.tables e below _ (T307.setTop (mkF m 42 #[.val (.int p1), .val (.ref t5), .val (.int (2 : Int32)), .val (.ref v1), .unset, .unset] []))
    refine own_go (fun _ kont => XS.aloadN X307.here hx rfl (hb hby own_d9_42) rfl rfl kont) ?_
    show own_Go p.tables e below _ (T307.setTop (mkF m 43 #[.val (.int p1), .val (.ref t5), .val (.int (2 : Int32)), .val (.ref v1), .unset, .unset] [(.ref v1)]))
    exact own_retAW X307 hS (Nat.le_refl _) rfl hx hlk hret rfl rfl (hb hby own_d9_43) (⟨_, rfl, by rw [LG]; exact Or.inr (Or.inl ⟨E_v1_309, rfl⟩), NA307, K310_⟩) (by decide) (by decide)
  · skip
    show own_Go p.tables e below _ (s₁.setTop (mkF m 4 #[.val (.int p1), .val (.ref t5), .unset, .unset, .unset, .unset] [(.int (3 : Int32))]))
    refine own_go (fun _ kont => XS.istoreN X0.here hx rfl (hb hby own_d9_4) rfl (l' := #[.val (.int p1), .val (.ref t5), .val (.int (3 : Int32)), .unset, .unset, .unset]) rfl kont) ?_
    show own_Go p.tables e below _ (s₁.setTop (mkF m 5 #[.val (.int p1), .val (.ref t5), .val (.int (3 : Int32)), .unset, .unset, .unset] []))
    refine own_go (fun _ kont => XS.iloadN X0.here hx rfl (hb hby own_d9_5) rfl kont) ?_
    show own_Go p.tables e below _ (s₁.setTop (mkF m 6 #[.val (.int p1), .val (.ref t5), .val (.int (3 : Int32)), .unset, .unset, .unset] [(.int (3 : Int32))]))
    have LG := lg true (by decide)
    refine own_go (fun _ kont => XS.ifYes X0.here hx rfl (pc0 := 6) (pc' := 11) rfl (hb hby own_d9_6) rfl (XT.i0_ne_t (by decide)) (by decide) (by decide) kont) ?_
    show own_Go p.tables e below _ (s₁.setTop (mkF m 11 #[.val (.int p1), .val (.ref t5), .val (.int (3 : Int32)), .unset, .unset, .unset] []))
    refine own_go (fun _ kont => XS.iloadN X0.here hx rfl (hb hby own_d9_11) rfl kont) ?_
    show own_Go p.tables e below _ (s₁.setTop (mkF m 12 #[.val (.int p1), .val (.ref t5), .val (.int (3 : Int32)), .unset, .unset, .unset] [(.int (3 : Int32))]))
    refine own_go (fun _ kont => XS.iconst X0.here hx rfl (hb hby own_d9_12) kont) ?_
    show own_Go p.tables e below _ (s₁.setTop (mkF m 13 #[.val (.int p1), .val (.ref t5), .val (.int (3 : Int32)), .unset, .unset, .unset] [(.int (1 : Int32)), (.int (3 : Int32))]))
    refine own_go (fun _ kont => XS.icmpYes X0.here hx rfl (pc0 := 13) (pc' := 24) rfl (hb hby own_d9_13) rfl (XT.ii_ne_t (by decide)) (by decide) (by decide) kont) ?_
    show own_Go p.tables e below _ (s₁.setTop (mkF m 24 #[.val (.int p1), .val (.ref t5), .val (.int (3 : Int32)), .unset, .unset, .unset] []))
    refine own_go (fun _ kont => XS.iloadN X0.here hx rfl (hb hby own_d9_24) rfl kont) ?_
    show own_Go p.tables e below _ (s₁.setTop (mkF m 25 #[.val (.int p1), .val (.ref t5), .val (.int (3 : Int32)), .unset, .unset, .unset] [(.int (3 : Int32))]))
    refine own_go (fun _ kont => XS.iconst X0.here hx rfl (hb hby own_d9_25) kont) ?_
    show own_Go p.tables e below _ (s₁.setTop (mkF m 26 #[.val (.int p1), .val (.ref t5), .val (.int (3 : Int32)), .unset, .unset, .unset] [(.int (2 : Int32)), (.int (3 : Int32))]))
    refine own_go (fun _ kont => XS.icmpYes X0.here hx rfl (pc0 := 26) (pc' := 44) rfl (hb hby own_d9_26) rfl (XT.ii_ne_t (by decide)) (by decide) (by decide) kont) ?_
    show own_Go p.tables e below _ (s₁.setTop (mkF m 44 #[.val (.int p1), .val (.ref t5), .val (.int (3 : Int32)), .unset, .unset, .unset] []))
    refine own_go (fun _ kont => XS.iloadN X0.here hx rfl (hb hby own_d9_44) rfl kont) ?_
    show own_Go p.tables e below _ (s₁.setTop (mkF m 45 #[.val (.int p1), .val (.ref t5), .val (.int (3 : Int32)), .unset, .unset, .unset] [(.int (3 : Int32))]))
    refine own_go (fun _ kont => XS.iconst X0.here hx rfl (hb hby own_d9_45) kont) ?_
    show own_Go p.tables e below _ (s₁.setTop (mkF m 46 #[.val (.int p1), .val (.ref t5), .val (.int (3 : Int32)), .unset, .unset, .unset] [(.int (3 : Int32)), (.int (3 : Int32))]))
    refine own_go (fun _ kont => XS.isub X0.here hx rfl (hb hby own_d9_46) rfl kont) ?_
    show own_Go p.tables e below _ (s₁.setTop (mkF m 47 #[.val (.int p1), .val (.ref t5), .val (.int (3 : Int32)), .unset, .unset, .unset] [(.int ((3 : Int32) - (3 : Int32)))]))
    refine own_go (fun _ kont => XS.istoreN X0.here hx rfl (hb hby own_d9_47) rfl (l' := #[.val (.int p1), .val (.ref t5), .val (.int (3 : Int32)), .val (.int ((3 : Int32) - (3 : Int32))), .unset, .unset]) rfl kont) ?_
    show own_Go p.tables e below _ (s₁.setTop (mkF m 48 #[.val (.int p1), .val (.ref t5), .val (.int (3 : Int32)), .val (.int ((3 : Int32) - (3 : Int32))), .unset, .unset] []))
    refine own_go (fun _ kont => XS.iloadN X0.here hx rfl (hb hby own_d9_48) rfl kont) ?_
    show own_Go p.tables e below _ (s₁.setTop (mkF m 49 #[.val (.int p1), .val (.ref t5), .val (.int (3 : Int32)), .val (.int ((3 : Int32) - (3 : Int32))), .unset, .unset] [(.int ((3 : Int32) - (3 : Int32)))]))
    refine own_go (fun _ kont => XS.ifNo X0.here hx rfl (hb hby own_d9_49) rfl (XT.i0_ne_f (by decide)) kont) ?_
    show own_Go p.tables e below _ (s₁.setTop (mkF m 52 #[.val (.int p1), .val (.ref t5), .val (.int (3 : Int32)), .val (.int ((3 : Int32) - (3 : Int32))), .unset, .unset] []))
    refine own_go (fun _ kont => XS.aloadN X0.here hx rfl (hb hby own_d9_52) rfl rfl kont) ?_
    show own_Go p.tables e below _ (s₁.setTop (mkF m 53 #[.val (.int p1), .val (.ref t5), .val (.int (3 : Int32)), .val (.int ((3 : Int32) - (3 : Int32))), .unset, .unset] [(.ref t5)]))
    refine own_go (fun _ kont => XS.astore X0.here hx rfl (hb hby own_d9_53) rfl rfl (l' := #[.val (.int p1), .val (.ref t5), .val (.int (3 : Int32)), .val (.int ((3 : Int32) - (3 : Int32))), .val (.ref t5), .unset]) rfl kont) ?_
    show own_Go p.tables e below _ (s₁.setTop (mkF m 55 #[.val (.int p1), .val (.ref t5), .val (.int (3 : Int32)), .val (.int ((3 : Int32) - (3 : Int32))), .val (.ref t5), .unset] []))
    refine own_go (fun _ kont => XS.goto X0.here hx rfl (pc0 := 55) (pc' := 154) rfl (hb hby own_d9_55) (by decide) (by decide) kont) ?_
    show own_Go p.tables e below _ (s₁.setTop (mkF m 154 #[.val (.int p1), .val (.ref t5), .val (.int (3 : Int32)), .val (.int ((3 : Int32) - (3 : Int32))), .val (.ref t5), .unset] []))
    exact c154 t5 true _ _ _ _ _ _ (T5) K0 LG (X0.mono (by decide) (by decide)) hS hk hZ hown N0 e0
  · skip
    show own_Go p.tables e below _ (s₁.setTop (mkF m 4 #[.val (.int p1), .val (.ref t5), .unset, .unset, .unset, .unset] [(.int (4 : Int32))]))
    refine own_go (fun _ kont => XS.istoreN X0.here hx rfl (hb hby own_d9_4) rfl (l' := #[.val (.int p1), .val (.ref t5), .val (.int (4 : Int32)), .unset, .unset, .unset]) rfl kont) ?_
    show own_Go p.tables e below _ (s₁.setTop (mkF m 5 #[.val (.int p1), .val (.ref t5), .val (.int (4 : Int32)), .unset, .unset, .unset] []))
    refine own_go (fun _ kont => XS.iloadN X0.here hx rfl (hb hby own_d9_5) rfl kont) ?_
    show own_Go p.tables e below _ (s₁.setTop (mkF m 6 #[.val (.int p1), .val (.ref t5), .val (.int (4 : Int32)), .unset, .unset, .unset] [(.int (4 : Int32))]))
    have LG := lg false (by decide)
    refine own_go (fun _ kont => XS.ifYes X0.here hx rfl (pc0 := 6) (pc' := 11) rfl (hb hby own_d9_6) rfl (XT.i0_ne_t (by decide)) (by decide) (by decide) kont) ?_
    show own_Go p.tables e below _ (s₁.setTop (mkF m 11 #[.val (.int p1), .val (.ref t5), .val (.int (4 : Int32)), .unset, .unset, .unset] []))
    refine own_go (fun _ kont => XS.iloadN X0.here hx rfl (hb hby own_d9_11) rfl kont) ?_
    show own_Go p.tables e below _ (s₁.setTop (mkF m 12 #[.val (.int p1), .val (.ref t5), .val (.int (4 : Int32)), .unset, .unset, .unset] [(.int (4 : Int32))]))
    refine own_go (fun _ kont => XS.iconst X0.here hx rfl (hb hby own_d9_12) kont) ?_
    show own_Go p.tables e below _ (s₁.setTop (mkF m 13 #[.val (.int p1), .val (.ref t5), .val (.int (4 : Int32)), .unset, .unset, .unset] [(.int (1 : Int32)), (.int (4 : Int32))]))
    refine own_go (fun _ kont => XS.icmpYes X0.here hx rfl (pc0 := 13) (pc' := 24) rfl (hb hby own_d9_13) rfl (XT.ii_ne_t (by decide)) (by decide) (by decide) kont) ?_
    show own_Go p.tables e below _ (s₁.setTop (mkF m 24 #[.val (.int p1), .val (.ref t5), .val (.int (4 : Int32)), .unset, .unset, .unset] []))
    refine own_go (fun _ kont => XS.iloadN X0.here hx rfl (hb hby own_d9_24) rfl kont) ?_
    show own_Go p.tables e below _ (s₁.setTop (mkF m 25 #[.val (.int p1), .val (.ref t5), .val (.int (4 : Int32)), .unset, .unset, .unset] [(.int (4 : Int32))]))
    refine own_go (fun _ kont => XS.iconst X0.here hx rfl (hb hby own_d9_25) kont) ?_
    show own_Go p.tables e below _ (s₁.setTop (mkF m 26 #[.val (.int p1), .val (.ref t5), .val (.int (4 : Int32)), .unset, .unset, .unset] [(.int (2 : Int32)), (.int (4 : Int32))]))
    refine own_go (fun _ kont => XS.icmpYes X0.here hx rfl (pc0 := 26) (pc' := 44) rfl (hb hby own_d9_26) rfl (XT.ii_ne_t (by decide)) (by decide) (by decide) kont) ?_
    show own_Go p.tables e below _ (s₁.setTop (mkF m 44 #[.val (.int p1), .val (.ref t5), .val (.int (4 : Int32)), .unset, .unset, .unset] []))
    refine own_go (fun _ kont => XS.iloadN X0.here hx rfl (hb hby own_d9_44) rfl kont) ?_
    show own_Go p.tables e below _ (s₁.setTop (mkF m 45 #[.val (.int p1), .val (.ref t5), .val (.int (4 : Int32)), .unset, .unset, .unset] [(.int (4 : Int32))]))
    refine own_go (fun _ kont => XS.iconst X0.here hx rfl (hb hby own_d9_45) kont) ?_
    show own_Go p.tables e below _ (s₁.setTop (mkF m 46 #[.val (.int p1), .val (.ref t5), .val (.int (4 : Int32)), .unset, .unset, .unset] [(.int (3 : Int32)), (.int (4 : Int32))]))
    refine own_go (fun _ kont => XS.isub X0.here hx rfl (hb hby own_d9_46) rfl kont) ?_
    show own_Go p.tables e below _ (s₁.setTop (mkF m 47 #[.val (.int p1), .val (.ref t5), .val (.int (4 : Int32)), .unset, .unset, .unset] [(.int ((4 : Int32) - (3 : Int32)))]))
    refine own_go (fun _ kont => XS.istoreN X0.here hx rfl (hb hby own_d9_47) rfl (l' := #[.val (.int p1), .val (.ref t5), .val (.int (4 : Int32)), .val (.int ((4 : Int32) - (3 : Int32))), .unset, .unset]) rfl kont) ?_
    show own_Go p.tables e below _ (s₁.setTop (mkF m 48 #[.val (.int p1), .val (.ref t5), .val (.int (4 : Int32)), .val (.int ((4 : Int32) - (3 : Int32))), .unset, .unset] []))
    refine own_go (fun _ kont => XS.iloadN X0.here hx rfl (hb hby own_d9_48) rfl kont) ?_
    show own_Go p.tables e below _ (s₁.setTop (mkF m 49 #[.val (.int p1), .val (.ref t5), .val (.int (4 : Int32)), .val (.int ((4 : Int32) - (3 : Int32))), .unset, .unset] [(.int ((4 : Int32) - (3 : Int32)))]))
    refine own_go (fun _ kont => XS.ifYes X0.here hx rfl (pc0 := 49) (pc' := 58) rfl (hb hby own_d9_49) rfl (XT.i0_ne_t (by decide)) (by decide) (by decide) kont) ?_
    show own_Go p.tables e below _ (s₁.setTop (mkF m 58 #[.val (.int p1), .val (.ref t5), .val (.int (4 : Int32)), .val (.int ((4 : Int32) - (3 : Int32))), .unset, .unset] []))
    refine own_go (fun _ kont => XS.iloadN X0.here hx rfl (hb hby own_d9_58) rfl kont) ?_
    show own_Go p.tables e below _ (s₁.setTop (mkF m 59 #[.val (.int p1), .val (.ref t5), .val (.int (4 : Int32)), .val (.int ((4 : Int32) - (3 : Int32))), .unset, .unset] [(.int ((4 : Int32) - (3 : Int32)))]))
    refine own_go (fun _ kont => XS.iconst X0.here hx rfl (hb hby own_d9_59) kont) ?_
    show own_Go p.tables e below _ (s₁.setTop (mkF m 60 #[.val (.int p1), .val (.ref t5), .val (.int (4 : Int32)), .val (.int ((4 : Int32) - (3 : Int32))), .unset, .unset] [(.int (1 : Int32)), (.int ((4 : Int32) - (3 : Int32)))]))
    refine own_go (fun _ kont => XS.icmpNo X0.here hx rfl (hb hby own_d9_60) rfl (XT.ii_ne_f (by decide)) kont) ?_
    show own_Go p.tables e below _ (s₁.setTop (mkF m 63 #[.val (.int p1), .val (.ref t5), .val (.int (4 : Int32)), .val (.int ((4 : Int32) - (3 : Int32))), .unset, .unset] []))
    obtain ⟨T311, h311, X311, e311, E311, A311, D311, -, st311⟩ := newO X0 hx hZ hown (hw _ (List.mem_of_getElem? (i := 91) rfl)) (hw _ (List.mem_of_getElem? (i := 92) rfl)) (hw _ (List.mem_of_getElem? (i := 93) rfl)) e0 (g := (mkF m 63 #[.val (.int p1), .val (.ref t5), .val (.int (4 : Int32)), .val (.int ((4 : Int32) - (3 : Int32))), .unset, .unset] [])) rfl (hb hby own_d9_63) (by decide) (by decide)
    obtain ⟨v1, g311⟩ : ∃ z, z = h0.size := ⟨_, rfl⟩
    rw [← g311] at A311 D311 st311
    have ne312 : t5 ≠ v1 := by rw [g311]; exact Nat.ne_of_lt T5.lt
    have ge_v1 : n0 ≤ v1 := by rw [g311]; exact Z0
    have kb_v1 : h0.size ≤ v1 := by rw [g311]; exact K0.1
    have T_t5_313 : own_Tm Z h311 t5 true := own_Tm.ext E311 T5
    have Z314 : n0 ≤ h311.size := Nat.le_trans Z0 E311.1
    have hk314 := Nat.le_trans hk E311.1
    have K314 : Keep h0 h311 [] := Keep.ext K0 E311
    have E_v1_315 : Exa Z h311 v1 "com/example/nashwaak/nashwaak/terms/Variable" := A311
    have F_v1_number_316 : Fld Z h311 v1 "com/example/nashwaak/nashwaak/terms/Variable" "number" "I" (.int (0 : Int32)) := D311 (Or.inr (hw _ (List.mem_of_getElem? (i := 102) rfl))) (ty := .int) (by decide)
    have F_v1_level_317 : Fld Z h311 v1 "com/example/nashwaak/nashwaak/terms/Variable" "level" "I" (.int (0 : Int32)) := D311 (Or.inr (hw _ (List.mem_of_getElem? (i := 104) rfl))) (ty := .int) (by decide)
    have F_v1_binding_318 : Fld Z h311 v1 "com/example/nashwaak/nashwaak/terms/Variable" "binding" "Lcom/example/nashwaak/nashwaak/terms/Term;" (.null) := D311 (Or.inl (hw _ (List.mem_of_getElem? (i := 111) rfl))) (ty := (.object "com/example/nashwaak/nashwaak/terms/Term")) (by decide)
    refine own_go st311 ?_
    show own_Go p.tables e below _ (T311.setTop (mkF m 66 #[.val (.int p1), .val (.ref t5), .val (.int (4 : Int32)), .val (.int ((4 : Int32) - (3 : Int32))), .unset, .unset] [(.ref v1)]))
    refine own_go (fun _ kont => XS.dup X311.here hx rfl (hb hby own_d9_66) rfl rfl kont) ?_
    show own_Go p.tables e below _ (T311.setTop (mkF m 67 #[.val (.int p1), .val (.ref t5), .val (.int (4 : Int32)), .val (.int ((4 : Int32) - (3 : Int32))), .unset, .unset] [(.ref v1), (.ref v1)]))
    refine own_callI X311 hx hZ (y := (⟨"com/example/nashwaak/nashwaak/terms/Variable", "<init>", "()V"⟩ : MethodName)) (argsL := []) (rest := [(.ref v1)]) (W := 1) hown (hw _ (List.mem_of_getElem? (i := 94) rfl)) (hw _ (List.mem_of_getElem? (i := 95) rfl)) (hw _ (List.mem_of_getElem? (i := 96) rfl)) (hw _ (List.mem_of_getElem? (i := 93) rfl)) rfl (by decide) (own_rm13 l Z a0 hw v1 h311 n0 Z314 F_v1_number_316 F_v1_level_317 F_v1_binding_318 E_v1_315 ge_v1) e311 (by decide) (by decide) (by decide) (by decide) (by rw [hml]; rfl) (lenOf own_pd___V rfl) rfl (Nat.le_of_eq rfl) (hb hby own_d9_67) ?_
    rintro _ T319 L319 X319 ⟨rfl, N319, K319, F319⟩
    have NA319 := Fr.app N0 N319
    have T_t5_320 : own_Tm Z T319.heap t5 true := own_Tm.keep T_t5_313 K319 (ninS ne312 nin0)
    have E_v1_321 : Exa Z T319.heap v1 "com/example/nashwaak/nashwaak/terms/Variable" := Exa.keep E_v1_315 K319
    have Z322 : n0 ≤ T319.heap.size := Nat.le_trans Z314 K319.1
    have hk322 := Nat.le_trans hk314 K319.1
    have K322_ : Keep h0 T319.heap [] := Keep.trans K314 K319 (allS (Or.inr kb_v1) all0)
    show own_Go p.tables e below _ (T319.setTop (mkF m 70 #[.val (.int p1), .val (.ref t5), .val (.int (4 : Int32)), .val (.int ((4 : Int32) - (3 : Int32))), .unset, .unset] [(.ref v1)]))
    refine own_go (fun _ kont => XS.astore X319.here hx rfl (hb hby own_d9_70) rfl rfl (l' := #[.val (.int p1), .val (.ref t5), .val (.int (4 : Int32)), .val (.int ((4 : Int32) - (3 : Int32))), .val (.ref v1), .unset]) rfl kont) ?_
    show own_Go p.tables e below _ (T319.setTop (mkF m 72 #[.val (.int p1), .val (.ref t5), .val (.int (4 : Int32)), .val (.int ((4 : Int32) - (3 : Int32))), .val (.ref v1), .unset] []))
    refine own_go (fun _ kont => XS.goto X319.here hx rfl (pc0 := 72) (pc' := 154) rfl (hb hby own_d9_72) (by decide) (by decide) kont) ?_
    show own_Go p.tables e below _ (T319.setTop (mkF m 154 #[.val (.int p1), .val (.ref t5), .val (.int (4 : Int32)), .val (.int ((4 : Int32) - (3 : Int32))), .val (.ref v1), .unset] []))
    exact c154 v1 false _ _ _ _ _ _ (Or.inr (Or.inl ⟨E_v1_321, rfl⟩)) K322_ LG (X319.mono (by decide) (by decide)) hS hk322 hZ hown NA319 rfl
  · skip
    show own_Go p.tables e below _ (s₁.setTop (mkF m 4 #[.val (.int p1), .val (.ref t5), .unset, .unset, .unset, .unset] [(.int (5 : Int32))]))
    refine own_go (fun _ kont => XS.istoreN X0.here hx rfl (hb hby own_d9_4) rfl (l' := #[.val (.int p1), .val (.ref t5), .val (.int (5 : Int32)), .unset, .unset, .unset]) rfl kont) ?_
    show own_Go p.tables e below _ (s₁.setTop (mkF m 5 #[.val (.int p1), .val (.ref t5), .val (.int (5 : Int32)), .unset, .unset, .unset] []))
    refine own_go (fun _ kont => XS.iloadN X0.here hx rfl (hb hby own_d9_5) rfl kont) ?_
    show own_Go p.tables e below _ (s₁.setTop (mkF m 6 #[.val (.int p1), .val (.ref t5), .val (.int (5 : Int32)), .unset, .unset, .unset] [(.int (5 : Int32))]))
    have LG := lg false (by decide)
    refine own_go (fun _ kont => XS.ifYes X0.here hx rfl (pc0 := 6) (pc' := 11) rfl (hb hby own_d9_6) rfl (XT.i0_ne_t (by decide)) (by decide) (by decide) kont) ?_
    show own_Go p.tables e below _ (s₁.setTop (mkF m 11 #[.val (.int p1), .val (.ref t5), .val (.int (5 : Int32)), .unset, .unset, .unset] []))
    refine own_go (fun _ kont => XS.iloadN X0.here hx rfl (hb hby own_d9_11) rfl kont) ?_
    show own_Go p.tables e below _ (s₁.setTop (mkF m 12 #[.val (.int p1), .val (.ref t5), .val (.int (5 : Int32)), .unset, .unset, .unset] [(.int (5 : Int32))]))
    refine own_go (fun _ kont => XS.iconst X0.here hx rfl (hb hby own_d9_12) kont) ?_
    show own_Go p.tables e below _ (s₁.setTop (mkF m 13 #[.val (.int p1), .val (.ref t5), .val (.int (5 : Int32)), .unset, .unset, .unset] [(.int (1 : Int32)), (.int (5 : Int32))]))
    refine own_go (fun _ kont => XS.icmpYes X0.here hx rfl (pc0 := 13) (pc' := 24) rfl (hb hby own_d9_13) rfl (XT.ii_ne_t (by decide)) (by decide) (by decide) kont) ?_
    show own_Go p.tables e below _ (s₁.setTop (mkF m 24 #[.val (.int p1), .val (.ref t5), .val (.int (5 : Int32)), .unset, .unset, .unset] []))
    refine own_go (fun _ kont => XS.iloadN X0.here hx rfl (hb hby own_d9_24) rfl kont) ?_
    show own_Go p.tables e below _ (s₁.setTop (mkF m 25 #[.val (.int p1), .val (.ref t5), .val (.int (5 : Int32)), .unset, .unset, .unset] [(.int (5 : Int32))]))
    refine own_go (fun _ kont => XS.iconst X0.here hx rfl (hb hby own_d9_25) kont) ?_
    show own_Go p.tables e below _ (s₁.setTop (mkF m 26 #[.val (.int p1), .val (.ref t5), .val (.int (5 : Int32)), .unset, .unset, .unset] [(.int (2 : Int32)), (.int (5 : Int32))]))
    refine own_go (fun _ kont => XS.icmpYes X0.here hx rfl (pc0 := 26) (pc' := 44) rfl (hb hby own_d9_26) rfl (XT.ii_ne_t (by decide)) (by decide) (by decide) kont) ?_
    show own_Go p.tables e below _ (s₁.setTop (mkF m 44 #[.val (.int p1), .val (.ref t5), .val (.int (5 : Int32)), .unset, .unset, .unset] []))
    refine own_go (fun _ kont => XS.iloadN X0.here hx rfl (hb hby own_d9_44) rfl kont) ?_
    show own_Go p.tables e below _ (s₁.setTop (mkF m 45 #[.val (.int p1), .val (.ref t5), .val (.int (5 : Int32)), .unset, .unset, .unset] [(.int (5 : Int32))]))
    refine own_go (fun _ kont => XS.iconst X0.here hx rfl (hb hby own_d9_45) kont) ?_
    show own_Go p.tables e below _ (s₁.setTop (mkF m 46 #[.val (.int p1), .val (.ref t5), .val (.int (5 : Int32)), .unset, .unset, .unset] [(.int (3 : Int32)), (.int (5 : Int32))]))
    refine own_go (fun _ kont => XS.isub X0.here hx rfl (hb hby own_d9_46) rfl kont) ?_
    show own_Go p.tables e below _ (s₁.setTop (mkF m 47 #[.val (.int p1), .val (.ref t5), .val (.int (5 : Int32)), .unset, .unset, .unset] [(.int ((5 : Int32) - (3 : Int32)))]))
    refine own_go (fun _ kont => XS.istoreN X0.here hx rfl (hb hby own_d9_47) rfl (l' := #[.val (.int p1), .val (.ref t5), .val (.int (5 : Int32)), .val (.int ((5 : Int32) - (3 : Int32))), .unset, .unset]) rfl kont) ?_
    show own_Go p.tables e below _ (s₁.setTop (mkF m 48 #[.val (.int p1), .val (.ref t5), .val (.int (5 : Int32)), .val (.int ((5 : Int32) - (3 : Int32))), .unset, .unset] []))
    refine own_go (fun _ kont => XS.iloadN X0.here hx rfl (hb hby own_d9_48) rfl kont) ?_
    show own_Go p.tables e below _ (s₁.setTop (mkF m 49 #[.val (.int p1), .val (.ref t5), .val (.int (5 : Int32)), .val (.int ((5 : Int32) - (3 : Int32))), .unset, .unset] [(.int ((5 : Int32) - (3 : Int32)))]))
    refine own_go (fun _ kont => XS.ifYes X0.here hx rfl (pc0 := 49) (pc' := 58) rfl (hb hby own_d9_49) rfl (XT.i0_ne_t (by decide)) (by decide) (by decide) kont) ?_
    show own_Go p.tables e below _ (s₁.setTop (mkF m 58 #[.val (.int p1), .val (.ref t5), .val (.int (5 : Int32)), .val (.int ((5 : Int32) - (3 : Int32))), .unset, .unset] []))
    refine own_go (fun _ kont => XS.iloadN X0.here hx rfl (hb hby own_d9_58) rfl kont) ?_
    show own_Go p.tables e below _ (s₁.setTop (mkF m 59 #[.val (.int p1), .val (.ref t5), .val (.int (5 : Int32)), .val (.int ((5 : Int32) - (3 : Int32))), .unset, .unset] [(.int ((5 : Int32) - (3 : Int32)))]))
    refine own_go (fun _ kont => XS.iconst X0.here hx rfl (hb hby own_d9_59) kont) ?_
    show own_Go p.tables e below _ (s₁.setTop (mkF m 60 #[.val (.int p1), .val (.ref t5), .val (.int (5 : Int32)), .val (.int ((5 : Int32) - (3 : Int32))), .unset, .unset] [(.int (1 : Int32)), (.int ((5 : Int32) - (3 : Int32)))]))
    refine own_go (fun _ kont => XS.icmpYes X0.here hx rfl (pc0 := 60) (pc' := 75) rfl (hb hby own_d9_60) rfl (XT.ii_ne_t (by decide)) (by decide) (by decide) kont) ?_
    show own_Go p.tables e below _ (s₁.setTop (mkF m 75 #[.val (.int p1), .val (.ref t5), .val (.int (5 : Int32)), .val (.int ((5 : Int32) - (3 : Int32))), .unset, .unset] []))
    refine own_go (fun _ kont => XS.iloadN X0.here hx rfl (hb hby own_d9_75) rfl kont) ?_
    show own_Go p.tables e below _ (s₁.setTop (mkF m 76 #[.val (.int p1), .val (.ref t5), .val (.int (5 : Int32)), .val (.int ((5 : Int32) - (3 : Int32))), .unset, .unset] [(.int ((5 : Int32) - (3 : Int32)))]))
    refine own_go (fun _ kont => XS.iconst X0.here hx rfl (hb hby own_d9_76) kont) ?_
    show own_Go p.tables e below _ (s₁.setTop (mkF m 77 #[.val (.int p1), .val (.ref t5), .val (.int (5 : Int32)), .val (.int ((5 : Int32) - (3 : Int32))), .unset, .unset] [(.int (2 : Int32)), (.int ((5 : Int32) - (3 : Int32)))]))
    refine own_go (fun _ kont => XS.icmpNo X0.here hx rfl (hb hby own_d9_77) rfl (XT.ii_ne_f (by decide)) kont) ?_
    show own_Go p.tables e below _ (s₁.setTop (mkF m 80 #[.val (.int p1), .val (.ref t5), .val (.int (5 : Int32)), .val (.int ((5 : Int32) - (3 : Int32))), .unset, .unset] []))
    obtain ⟨T323, h323, X323, e323, E323, A323, D323, -, st323⟩ := newO X0 hx hZ hown (hw _ (List.mem_of_getElem? (i := 91) rfl)) (hw _ (List.mem_of_getElem? (i := 92) rfl)) (hw _ (List.mem_of_getElem? (i := 93) rfl)) e0 (g := (mkF m 80 #[.val (.int p1), .val (.ref t5), .val (.int (5 : Int32)), .val (.int ((5 : Int32) - (3 : Int32))), .unset, .unset] [])) rfl (hb hby own_d9_80) (by decide) (by decide)
    obtain ⟨v1, g323⟩ : ∃ z, z = h0.size := ⟨_, rfl⟩
    rw [← g323] at A323 D323 st323
    have ne324 : t5 ≠ v1 := by rw [g323]; exact Nat.ne_of_lt T5.lt
    have ge_v1 : n0 ≤ v1 := by rw [g323]; exact Z0
    have kb_v1 : h0.size ≤ v1 := by rw [g323]; exact K0.1
    have T_t5_325 : own_Tm Z h323 t5 true := own_Tm.ext E323 T5
    have Z326 : n0 ≤ h323.size := Nat.le_trans Z0 E323.1
    have hk326 := Nat.le_trans hk E323.1
    have K326 : Keep h0 h323 [] := Keep.ext K0 E323
    have E_v1_327 : Exa Z h323 v1 "com/example/nashwaak/nashwaak/terms/Variable" := A323
    have F_v1_number_328 : Fld Z h323 v1 "com/example/nashwaak/nashwaak/terms/Variable" "number" "I" (.int (0 : Int32)) := D323 (Or.inr (hw _ (List.mem_of_getElem? (i := 102) rfl))) (ty := .int) (by decide)
    have F_v1_level_329 : Fld Z h323 v1 "com/example/nashwaak/nashwaak/terms/Variable" "level" "I" (.int (0 : Int32)) := D323 (Or.inr (hw _ (List.mem_of_getElem? (i := 104) rfl))) (ty := .int) (by decide)
    have F_v1_binding_330 : Fld Z h323 v1 "com/example/nashwaak/nashwaak/terms/Variable" "binding" "Lcom/example/nashwaak/nashwaak/terms/Term;" (.null) := D323 (Or.inl (hw _ (List.mem_of_getElem? (i := 111) rfl))) (ty := (.object "com/example/nashwaak/nashwaak/terms/Term")) (by decide)
    refine own_go st323 ?_
    show own_Go p.tables e below _ (T323.setTop (mkF m 83 #[.val (.int p1), .val (.ref t5), .val (.int (5 : Int32)), .val (.int ((5 : Int32) - (3 : Int32))), .unset, .unset] [(.ref v1)]))
    refine own_go (fun _ kont => XS.dup X323.here hx rfl (hb hby own_d9_83) rfl rfl kont) ?_
    show own_Go p.tables e below _ (T323.setTop (mkF m 84 #[.val (.int p1), .val (.ref t5), .val (.int (5 : Int32)), .val (.int ((5 : Int32) - (3 : Int32))), .unset, .unset] [(.ref v1), (.ref v1)]))
    refine own_callI X323 hx hZ (y := (⟨"com/example/nashwaak/nashwaak/terms/Variable", "<init>", "()V"⟩ : MethodName)) (argsL := []) (rest := [(.ref v1)]) (W := 1) hown (hw _ (List.mem_of_getElem? (i := 94) rfl)) (hw _ (List.mem_of_getElem? (i := 95) rfl)) (hw _ (List.mem_of_getElem? (i := 96) rfl)) (hw _ (List.mem_of_getElem? (i := 93) rfl)) rfl (by decide) (own_rm13 l Z a0 hw v1 h323 n0 Z326 F_v1_number_328 F_v1_level_329 F_v1_binding_330 E_v1_327 ge_v1) e323 (by decide) (by decide) (by decide) (by decide) (by rw [hml]; rfl) (lenOf own_pd___V rfl) rfl (Nat.le_of_eq rfl) (hb hby own_d9_84) ?_
    rintro _ T331 L331 X331 ⟨rfl, N331, K331, F331⟩
    have NA331 := Fr.app N0 N331
    have T_t5_332 : own_Tm Z T331.heap t5 true := own_Tm.keep T_t5_325 K331 (ninS ne324 nin0)
    have E_v1_333 : Exa Z T331.heap v1 "com/example/nashwaak/nashwaak/terms/Variable" := Exa.keep E_v1_327 K331
    have Z334 : n0 ≤ T331.heap.size := Nat.le_trans Z326 K331.1
    have hk334 := Nat.le_trans hk326 K331.1
    have K334_ : Keep h0 T331.heap [] := Keep.trans K326 K331 (allS (Or.inr kb_v1) all0)
    show own_Go p.tables e below _ (T331.setTop (mkF m 87 #[.val (.int p1), .val (.ref t5), .val (.int (5 : Int32)), .val (.int ((5 : Int32) - (3 : Int32))), .unset, .unset] [(.ref v1)]))
    refine own_go (fun _ kont => XS.astore X331.here hx rfl (hb hby own_d9_87) rfl rfl (l' := #[.val (.int p1), .val (.ref t5), .val (.int (5 : Int32)), .val (.int ((5 : Int32) - (3 : Int32))), .unset, .val (.ref v1)]) rfl kont) ?_
    show own_Go p.tables e below _ (T331.setTop (mkF m 89 #[.val (.int p1), .val (.ref t5), .val (.int (5 : Int32)), .val (.int ((5 : Int32) - (3 : Int32))), .unset, .val (.ref v1)] []))
    refine own_go (fun _ kont => XS.aload X331.here hx rfl (hb hby own_d9_89) rfl rfl kont) ?_
    show own_Go p.tables e below _ (T331.setTop (mkF m 91 #[.val (.int p1), .val (.ref t5), .val (.int (5 : Int32)), .val (.int ((5 : Int32) - (3 : Int32))), .unset, .val (.ref v1)] [(.ref v1)]))
    refine own_go (fun _ kont => XS.aloadN X331.here hx rfl (hb hby own_d9_91) rfl rfl kont) ?_
    show own_Go p.tables e below _ (T331.setTop (mkF m 92 #[.val (.int p1), .val (.ref t5), .val (.int (5 : Int32)), .val (.int ((5 : Int32) - (3 : Int32))), .unset, .val (.ref v1)] [(.ref t5), (.ref v1)]))
    refine own_callVW X331 hS hk334 hx hZ (z := (⟨"com/example/nashwaak/nashwaak/terms/Variable", "bind", "(Lcom/example/nashwaak/nashwaak/terms/Term;)V"⟩ : MethodName)) (argsL := [(.ref t5)]) (rest := []) (W := 0) hown (hw _ (List.mem_of_getElem? (i := 105) rfl)) (hw _ (List.mem_of_getElem? (i := 106) rfl)) (hw _ (List.mem_of_getElem? (i := 108) rfl)) (hw _ (List.mem_of_getElem? (i := 107) rfl)) (hw _ (List.mem_of_getElem? (i := 109) rfl)) (hw _ (List.mem_of_getElem? (i := 93) rfl)) (by decide) (E_v1_333) (own_rm15 l Z a0 hw v1 t5 T331.heap n0 Z334 true F331 E_v1_333 ge_v1 T_t5_332 ne324) rfl (by decide) (by decide) (by decide) (by decide) (by rw [hml]; rfl) (lenOf own_pd__Lcom_example_nashwaak_nashwaak_terms_Term__V rfl) rfl (Nat.le_of_eq rfl) (hb hby own_d9_92) ?_
    rintro _ T335 L335 X335 hS hZ hown ⟨rfl, N335, K335⟩
    have NA335 := Fr.app NA331 N335
    have T_t5_336 : own_Tm Z T335.heap t5 true := own_Tm.keep T_t5_332 K335 (ninS ne324 nin0)
    have E_v1_337 : Exa Z T335.heap v1 "com/example/nashwaak/nashwaak/terms/Variable" := Exa.keep E_v1_333 K335
    have Z338 : n0 ≤ T335.heap.size := Nat.le_trans Z334 K335.1
    have K338_ : Keep h0 T335.heap [] := Keep.trans K334_ K335 (allS (Or.inr kb_v1) all0)
    show own_Go p.tables e below _ (T335.setTop (mkF m 95 #[.val (.int p1), .val (.ref t5), .val (.int (5 : Int32)), .val (.int ((5 : Int32) - (3 : Int32))), .unset, .val (.ref v1)] []))
    refine own_go (fun _ kont => XS.aload X335.here hx rfl (hb hby own_d9_95) rfl rfl kont) ?_
    show own_Go p.tables e below _ (T335.setTop (mkF m 97 #[.val (.int p1), .val (.ref t5), .val (.int (5 : Int32)), .val (.int ((5 : Int32) - (3 : Int32))), .unset, .val (.ref v1)] [(.ref v1)]))
    refine own_go (fun _ kont => XS.astore X335.here hx rfl (hb hby own_d9_97) rfl rfl (l' := #[.val (.int p1), .val (.ref t5), .val (.int (5 : Int32)), .val (.int ((5 : Int32) - (3 : Int32))), .val (.ref v1), .val (.ref v1)]) rfl kont) ?_
    show own_Go p.tables e below _ (T335.setTop (mkF m 99 #[.val (.int p1), .val (.ref t5), .val (.int (5 : Int32)), .val (.int ((5 : Int32) - (3 : Int32))), .val (.ref v1), .val (.ref v1)] []))
    refine own_go (fun _ kont => XS.goto X335.here hx rfl (pc0 := 99) (pc' := 154) rfl (hb hby own_d9_99) (by decide) (by decide) kont) ?_
    show own_Go p.tables e below _ (T335.setTop (mkF m 154 #[.val (.int p1), .val (.ref t5), .val (.int (5 : Int32)), .val (.int ((5 : Int32) - (3 : Int32))), .val (.ref v1), .val (.ref v1)] []))
    exact c154 v1 false _ _ _ _ _ _ (Or.inr (Or.inl ⟨E_v1_337, rfl⟩)) K338_ LG (X335.mono (by decide) (by decide)) hS (Nat.le_refl _) hZ hown NA335 rfl
  · skip
    show own_Go p.tables e below _ (s₁.setTop (mkF m 4 #[.val (.int p1), .val (.ref t5), .unset, .unset, .unset, .unset] [(.int (6 : Int32))]))
    refine own_go (fun _ kont => XS.istoreN X0.here hx rfl (hb hby own_d9_4) rfl (l' := #[.val (.int p1), .val (.ref t5), .val (.int (6 : Int32)), .unset, .unset, .unset]) rfl kont) ?_
    show own_Go p.tables e below _ (s₁.setTop (mkF m 5 #[.val (.int p1), .val (.ref t5), .val (.int (6 : Int32)), .unset, .unset, .unset] []))
    refine own_go (fun _ kont => XS.iloadN X0.here hx rfl (hb hby own_d9_5) rfl kont) ?_
    show own_Go p.tables e below _ (s₁.setTop (mkF m 6 #[.val (.int p1), .val (.ref t5), .val (.int (6 : Int32)), .unset, .unset, .unset] [(.int (6 : Int32))]))
    have LG := lg true (by decide)
    refine own_go (fun _ kont => XS.ifYes X0.here hx rfl (pc0 := 6) (pc' := 11) rfl (hb hby own_d9_6) rfl (XT.i0_ne_t (by decide)) (by decide) (by decide) kont) ?_
    show own_Go p.tables e below _ (s₁.setTop (mkF m 11 #[.val (.int p1), .val (.ref t5), .val (.int (6 : Int32)), .unset, .unset, .unset] []))
    refine own_go (fun _ kont => XS.iloadN X0.here hx rfl (hb hby own_d9_11) rfl kont) ?_
    show own_Go p.tables e below _ (s₁.setTop (mkF m 12 #[.val (.int p1), .val (.ref t5), .val (.int (6 : Int32)), .unset, .unset, .unset] [(.int (6 : Int32))]))
    refine own_go (fun _ kont => XS.iconst X0.here hx rfl (hb hby own_d9_12) kont) ?_
    show own_Go p.tables e below _ (s₁.setTop (mkF m 13 #[.val (.int p1), .val (.ref t5), .val (.int (6 : Int32)), .unset, .unset, .unset] [(.int (1 : Int32)), (.int (6 : Int32))]))
    refine own_go (fun _ kont => XS.icmpYes X0.here hx rfl (pc0 := 13) (pc' := 24) rfl (hb hby own_d9_13) rfl (XT.ii_ne_t (by decide)) (by decide) (by decide) kont) ?_
    show own_Go p.tables e below _ (s₁.setTop (mkF m 24 #[.val (.int p1), .val (.ref t5), .val (.int (6 : Int32)), .unset, .unset, .unset] []))
    refine own_go (fun _ kont => XS.iloadN X0.here hx rfl (hb hby own_d9_24) rfl kont) ?_
    show own_Go p.tables e below _ (s₁.setTop (mkF m 25 #[.val (.int p1), .val (.ref t5), .val (.int (6 : Int32)), .unset, .unset, .unset] [(.int (6 : Int32))]))
    refine own_go (fun _ kont => XS.iconst X0.here hx rfl (hb hby own_d9_25) kont) ?_
    show own_Go p.tables e below _ (s₁.setTop (mkF m 26 #[.val (.int p1), .val (.ref t5), .val (.int (6 : Int32)), .unset, .unset, .unset] [(.int (2 : Int32)), (.int (6 : Int32))]))
    refine own_go (fun _ kont => XS.icmpYes X0.here hx rfl (pc0 := 26) (pc' := 44) rfl (hb hby own_d9_26) rfl (XT.ii_ne_t (by decide)) (by decide) (by decide) kont) ?_
    show own_Go p.tables e below _ (s₁.setTop (mkF m 44 #[.val (.int p1), .val (.ref t5), .val (.int (6 : Int32)), .unset, .unset, .unset] []))
    refine own_go (fun _ kont => XS.iloadN X0.here hx rfl (hb hby own_d9_44) rfl kont) ?_
    show own_Go p.tables e below _ (s₁.setTop (mkF m 45 #[.val (.int p1), .val (.ref t5), .val (.int (6 : Int32)), .unset, .unset, .unset] [(.int (6 : Int32))]))
    refine own_go (fun _ kont => XS.iconst X0.here hx rfl (hb hby own_d9_45) kont) ?_
    show own_Go p.tables e below _ (s₁.setTop (mkF m 46 #[.val (.int p1), .val (.ref t5), .val (.int (6 : Int32)), .unset, .unset, .unset] [(.int (3 : Int32)), (.int (6 : Int32))]))
    refine own_go (fun _ kont => XS.isub X0.here hx rfl (hb hby own_d9_46) rfl kont) ?_
    show own_Go p.tables e below _ (s₁.setTop (mkF m 47 #[.val (.int p1), .val (.ref t5), .val (.int (6 : Int32)), .unset, .unset, .unset] [(.int ((6 : Int32) - (3 : Int32)))]))
    refine own_go (fun _ kont => XS.istoreN X0.here hx rfl (hb hby own_d9_47) rfl (l' := #[.val (.int p1), .val (.ref t5), .val (.int (6 : Int32)), .val (.int ((6 : Int32) - (3 : Int32))), .unset, .unset]) rfl kont) ?_
    show own_Go p.tables e below _ (s₁.setTop (mkF m 48 #[.val (.int p1), .val (.ref t5), .val (.int (6 : Int32)), .val (.int ((6 : Int32) - (3 : Int32))), .unset, .unset] []))
    refine own_go (fun _ kont => XS.iloadN X0.here hx rfl (hb hby own_d9_48) rfl kont) ?_
    show own_Go p.tables e below _ (s₁.setTop (mkF m 49 #[.val (.int p1), .val (.ref t5), .val (.int (6 : Int32)), .val (.int ((6 : Int32) - (3 : Int32))), .unset, .unset] [(.int ((6 : Int32) - (3 : Int32)))]))
    refine own_go (fun _ kont => XS.ifYes X0.here hx rfl (pc0 := 49) (pc' := 58) rfl (hb hby own_d9_49) rfl (XT.i0_ne_t (by decide)) (by decide) (by decide) kont) ?_
    show own_Go p.tables e below _ (s₁.setTop (mkF m 58 #[.val (.int p1), .val (.ref t5), .val (.int (6 : Int32)), .val (.int ((6 : Int32) - (3 : Int32))), .unset, .unset] []))
    refine own_go (fun _ kont => XS.iloadN X0.here hx rfl (hb hby own_d9_58) rfl kont) ?_
    show own_Go p.tables e below _ (s₁.setTop (mkF m 59 #[.val (.int p1), .val (.ref t5), .val (.int (6 : Int32)), .val (.int ((6 : Int32) - (3 : Int32))), .unset, .unset] [(.int ((6 : Int32) - (3 : Int32)))]))
    refine own_go (fun _ kont => XS.iconst X0.here hx rfl (hb hby own_d9_59) kont) ?_
    show own_Go p.tables e below _ (s₁.setTop (mkF m 60 #[.val (.int p1), .val (.ref t5), .val (.int (6 : Int32)), .val (.int ((6 : Int32) - (3 : Int32))), .unset, .unset] [(.int (1 : Int32)), (.int ((6 : Int32) - (3 : Int32)))]))
    refine own_go (fun _ kont => XS.icmpYes X0.here hx rfl (pc0 := 60) (pc' := 75) rfl (hb hby own_d9_60) rfl (XT.ii_ne_t (by decide)) (by decide) (by decide) kont) ?_
    show own_Go p.tables e below _ (s₁.setTop (mkF m 75 #[.val (.int p1), .val (.ref t5), .val (.int (6 : Int32)), .val (.int ((6 : Int32) - (3 : Int32))), .unset, .unset] []))
    refine own_go (fun _ kont => XS.iloadN X0.here hx rfl (hb hby own_d9_75) rfl kont) ?_
    show own_Go p.tables e below _ (s₁.setTop (mkF m 76 #[.val (.int p1), .val (.ref t5), .val (.int (6 : Int32)), .val (.int ((6 : Int32) - (3 : Int32))), .unset, .unset] [(.int ((6 : Int32) - (3 : Int32)))]))
    refine own_go (fun _ kont => XS.iconst X0.here hx rfl (hb hby own_d9_76) kont) ?_
    show own_Go p.tables e below _ (s₁.setTop (mkF m 77 #[.val (.int p1), .val (.ref t5), .val (.int (6 : Int32)), .val (.int ((6 : Int32) - (3 : Int32))), .unset, .unset] [(.int (2 : Int32)), (.int ((6 : Int32) - (3 : Int32)))]))
    refine own_go (fun _ kont => XS.icmpYes X0.here hx rfl (pc0 := 77) (pc' := 102) rfl (hb hby own_d9_77) rfl (XT.ii_ne_t (by decide)) (by decide) (by decide) kont) ?_
    show own_Go p.tables e below _ (s₁.setTop (mkF m 102 #[.val (.int p1), .val (.ref t5), .val (.int (6 : Int32)), .val (.int ((6 : Int32) - (3 : Int32))), .unset, .unset] []))
    refine own_go (fun _ kont => XS.iloadN X0.here hx rfl (hb hby own_d9_102) rfl kont) ?_
    show own_Go p.tables e below _ (s₁.setTop (mkF m 103 #[.val (.int p1), .val (.ref t5), .val (.int (6 : Int32)), .val (.int ((6 : Int32) - (3 : Int32))), .unset, .unset] [(.int ((6 : Int32) - (3 : Int32)))]))
    refine own_go (fun _ kont => XS.iconst X0.here hx rfl (hb hby own_d9_103) kont) ?_
    show own_Go p.tables e below _ (s₁.setTop (mkF m 104 #[.val (.int p1), .val (.ref t5), .val (.int (6 : Int32)), .val (.int ((6 : Int32) - (3 : Int32))), .unset, .unset] [(.int (3 : Int32)), (.int ((6 : Int32) - (3 : Int32)))]))
    refine own_go (fun _ kont => XS.icmpNo X0.here hx rfl (hb hby own_d9_104) rfl (XT.ii_ne_f (by decide)) kont) ?_
    show own_Go p.tables e below _ (s₁.setTop (mkF m 107 #[.val (.int p1), .val (.ref t5), .val (.int (6 : Int32)), .val (.int ((6 : Int32) - (3 : Int32))), .unset, .unset] []))
    obtain ⟨T339, h339, X339, e339, E339, A339, D339, -, st339⟩ := newO X0 hx hZ hown (hw _ (List.mem_of_getElem? (i := 52) rfl)) (hw _ (List.mem_of_getElem? (i := 53) rfl)) (hw _ (List.mem_of_getElem? (i := 54) rfl)) e0 (g := (mkF m 107 #[.val (.int p1), .val (.ref t5), .val (.int (6 : Int32)), .val (.int ((6 : Int32) - (3 : Int32))), .unset, .unset] [])) rfl (hb hby own_d9_107) (by decide) (by decide)
    obtain ⟨c2, g339⟩ : ∃ z, z = h0.size := ⟨_, rfl⟩
    rw [← g339] at A339 D339 st339
    have ne340 : t5 ≠ c2 := by rw [g339]; exact Nat.ne_of_lt T5.lt
    have ge_c2 : n0 ≤ c2 := by rw [g339]; exact Z0
    have kb_c2 : h0.size ≤ c2 := by rw [g339]; exact K0.1
    have T_t5_341 : own_Tm Z h339 t5 true := own_Tm.ext E339 T5
    have Z342 : n0 ≤ h339.size := Nat.le_trans Z0 E339.1
    have hk342 := Nat.le_trans hk E339.1
    have K342 : Keep h0 h339 [] := Keep.ext K0 E339
    have E_c2_343 : Exa Z h339 c2 "com/example/nashwaak/nashwaak/terms/Compound" := A339
    have F_c2_name_344 : Fld Z h339 c2 "com/example/nashwaak/nashwaak/terms/Compound" "name" "Ljava/lang/String;" (.null) := D339 (Or.inr (hw _ (List.mem_of_getElem? (i := 78) rfl))) (ty := (.object "java/lang/String")) (by decide)
    have F_c2_args_345 : Fld Z h339 c2 "com/example/nashwaak/nashwaak/terms/Compound" "args" "[Lcom/example/nashwaak/nashwaak/terms/Term;" (.null) := D339 (Or.inr (hw _ (List.mem_of_getElem? (i := 80) rfl))) (ty := (.array (.object "com/example/nashwaak/nashwaak/terms/Term"))) (by decide)
    have F_c2_ground_346 : Fld Z h339 c2 "com/example/nashwaak/nashwaak/terms/Compound" "ground" "Z" (.int (0 : Int32)) := D339 (Or.inr (hw _ (List.mem_of_getElem? (i := 90) rfl))) (ty := .boolean) (by decide)
    refine own_go st339 ?_
    show own_Go p.tables e below _ (T339.setTop (mkF m 110 #[.val (.int p1), .val (.ref t5), .val (.int (6 : Int32)), .val (.int ((6 : Int32) - (3 : Int32))), .unset, .unset] [(.ref c2)]))
    refine own_go (fun _ kont => XS.dup X339.here hx rfl (hb hby own_d9_110) rfl rfl kont) ?_
    show own_Go p.tables e below _ (T339.setTop (mkF m 111 #[.val (.int p1), .val (.ref t5), .val (.int (6 : Int32)), .val (.int ((6 : Int32) - (3 : Int32))), .unset, .unset] [(.ref c2), (.ref c2)]))
    obtain ⟨u347, T347, h347, kz347, X347, e347, E347, hS, hk, hZ, hown, st347⟩ := ldcS X339 hx hZ hown (hw _ (List.mem_of_getElem? (i := 55) rfl)) wS e339 hS hk342 (g := (mkF m 111 #[.val (.int p1), .val (.ref t5), .val (.int (6 : Int32)), .val (.int ((6 : Int32) - (3 : Int32))), .unset, .unset] [(.ref c2), (.ref c2)])) rfl (hb hby own_d9_111) (n := 4) (by decide) (by decide) (by decide) (by decide)
    have T_t5_348 : own_Tm Z h347 t5 true := own_Tm.ext E347 T_t5_341
    have E_c2_349 : Exa Z h347 c2 "com/example/nashwaak/nashwaak/terms/Compound" := Exa.ext E347 E_c2_343
    have F_c2_name_350 : Fld Z h347 c2 "com/example/nashwaak/nashwaak/terms/Compound" "name" "Ljava/lang/String;" (.null) := Fld.ext E347 F_c2_name_344
    have F_c2_args_351 : Fld Z h347 c2 "com/example/nashwaak/nashwaak/terms/Compound" "args" "[Lcom/example/nashwaak/nashwaak/terms/Term;" (.null) := Fld.ext E347 F_c2_args_345
    have F_c2_ground_352 : Fld Z h347 c2 "com/example/nashwaak/nashwaak/terms/Compound" "ground" "Z" (.int (0 : Int32)) := Fld.ext E347 F_c2_ground_346
    have Z353 : n0 ≤ h347.size := Nat.le_trans Z342 E347.1
    have K353 : Keep h0 h347 [] := Keep.ext K342 E347
    refine own_go st347 ?_
    show own_Go p.tables e below _ (T347.setTop (mkF m 113 #[.val (.int p1), .val (.ref t5), .val (.int (6 : Int32)), .val (.int ((6 : Int32) - (3 : Int32))), .unset, .unset] [(.ref u347), (.ref c2), (.ref c2)]))
    refine own_go (fun _ kont => XS.iconst X347.here hx rfl (hb hby own_d9_113) kont) ?_
    show own_Go p.tables e below _ (T347.setTop (mkF m 114 #[.val (.int p1), .val (.ref t5), .val (.int (6 : Int32)), .val (.int ((6 : Int32) - (3 : Int32))), .unset, .unset] [(.int (1 : Int32)), (.ref u347), (.ref c2), (.ref c2)]))
    obtain ⟨T354, h354, cA354, X354, e354, E354, A354, B354, O354, st354⟩ := newRE X347 hx hZ hown (hw _ (List.mem_of_getElem? (i := 56) rfl)) (hw _ (List.mem_of_getElem? (i := 57) rfl)) e347 (g := (mkF m 114 #[.val (.int p1), .val (.ref t5), .val (.int (6 : Int32)), .val (.int ((6 : Int32) - (3 : Int32))), .unset, .unset] [(.int (1 : Int32)), (.ref u347), (.ref c2), (.ref c2)])) rfl (hb hby own_d9_114) rfl (by decide) (cap := 1) (by decide) (by decide) (by decide) (by decide) rfl
    obtain ⟨r2, g354⟩ : ∃ z, z = h347.size := ⟨_, rfl⟩
    rw [← g354] at A354 B354 st354
    have ne355 : t5 ≠ r2 := by rw [g354]; exact Nat.ne_of_lt T_t5_348.lt
    have ne356 : c2 ≠ r2 := by rw [g354]; exact Nat.ne_of_lt E_c2_349.lt
    have ge_r2 : n0 ≤ r2 := by rw [g354]; exact Z353
    have kb_r2 : h0.size ≤ r2 := by rw [g354]; exact K353.1
    have T_t5_357 : own_Tm Z h354 t5 true := own_Tm.ext E354 T_t5_348
    have E_c2_358 : Exa Z h354 c2 "com/example/nashwaak/nashwaak/terms/Compound" := Exa.ext E354 E_c2_349
    have F_c2_name_359 : Fld Z h354 c2 "com/example/nashwaak/nashwaak/terms/Compound" "name" "Ljava/lang/String;" (.null) := Fld.ext E354 F_c2_name_350
    have F_c2_args_360 : Fld Z h354 c2 "com/example/nashwaak/nashwaak/terms/Compound" "args" "[Lcom/example/nashwaak/nashwaak/terms/Term;" (.null) := Fld.ext E354 F_c2_args_351
    have F_c2_ground_361 : Fld Z h354 c2 "com/example/nashwaak/nashwaak/terms/Compound" "ground" "Z" (.int (0 : Int32)) := Fld.ext E354 F_c2_ground_352
    have Z362 : n0 ≤ h354.size := Nat.le_trans Z353 E354.1
    have hk362 := Nat.le_trans hk E354.1
    have K362 : Keep h0 h354 [] := Keep.ext K353 E354
    have E_r2_363 : Exa Z h354 r2 "[Lcom/example/nashwaak/nashwaak/terms/Term;" := B354
    have V_r2_364 : own_Av Z h354 r2 cA354 (.object "com/example/nashwaak/nashwaak/terms/Term") 1 (fun _ => Value.null) := own_Av.new (ty := (.object "com/example/nashwaak/nashwaak/terms/Term")) A354 (by decide)
    refine own_go st354 ?_
    show own_Go p.tables e below _ (T354.setTop (mkF m 117 #[.val (.int p1), .val (.ref t5), .val (.int (6 : Int32)), .val (.int ((6 : Int32) - (3 : Int32))), .unset, .unset] [(.ref r2), (.ref u347), (.ref c2), (.ref c2)]))
    have OV354 := O354
    refine own_go (fun _ kont => XS.dup X354.here hx rfl (hb hby own_d9_117) rfl rfl kont) ?_
    show own_Go p.tables e below _ (T354.setTop (mkF m 118 #[.val (.int p1), .val (.ref t5), .val (.int (6 : Int32)), .val (.int ((6 : Int32) - (3 : Int32))), .unset, .unset] [(.ref r2), (.ref r2), (.ref u347), (.ref c2), (.ref c2)]))
    refine own_go (fun _ kont => XS.iconst X354.here hx rfl (hb hby own_d9_118) kont) ?_
    show own_Go p.tables e below _ (T354.setTop (mkF m 119 #[.val (.int p1), .val (.ref t5), .val (.int (6 : Int32)), .val (.int ((6 : Int32) - (3 : Int32))), .unset, .unset] [(.int (0 : Int32)), (.ref r2), (.ref r2), (.ref u347), (.ref c2), (.ref c2)]))
    refine own_go (fun _ kont => XS.aloadN X354.here hx rfl (hb hby own_d9_119) rfl rfl kont) ?_
    show own_Go p.tables e below _ (T354.setTop (mkF m 120 #[.val (.int p1), .val (.ref t5), .val (.int (6 : Int32)), .val (.int ((6 : Int32) - (3 : Int32))), .unset, .unset] [(.ref t5), (.int (0 : Int32)), (.ref r2), (.ref r2), (.ref u347), (.ref c2), (.ref c2)]))
    refine own_aast X354 hx hZ e354 V_r2_364 rfl (own_sto hw V_r2_364 OV354 T_t5_357) 0 (by decide) (by decide) (by decide) (hb hby own_d9_120) ?_
    intro T365 h365 X365 e365 W365
    have T_t5_366 : own_Tm Z h365 t5 true := own_Tm.other W365 T_t5_357 ne355
    have E_c2_367 : Exa Z h365 c2 "com/example/nashwaak/nashwaak/terms/Compound" := Exa.wr W365 E_c2_358
    have F_c2_name_368 : Fld Z h365 c2 "com/example/nashwaak/nashwaak/terms/Compound" "name" "Ljava/lang/String;" (.null) := Fld.other W365 F_c2_name_359 (Or.inl ne356)
    have F_c2_args_369 : Fld Z h365 c2 "com/example/nashwaak/nashwaak/terms/Compound" "args" "[Lcom/example/nashwaak/nashwaak/terms/Term;" (.null) := Fld.other W365 F_c2_args_360 (Or.inl ne356)
    have F_c2_ground_370 : Fld Z h365 c2 "com/example/nashwaak/nashwaak/terms/Compound" "ground" "Z" (.int (0 : Int32)) := Fld.other W365 F_c2_ground_361 (Or.inl ne356)
    have E_r2_371 : Exa Z h365 r2 "[Lcom/example/nashwaak/nashwaak/terms/Term;" := Exa.wr W365 E_r2_363
    have V_r2_372 : own_Av Z h365 r2 cA354 (.object "com/example/nashwaak/nashwaak/terms/Term") 1 (fun x => if x = 0 then .ref t5 else (fun _ => Value.null) x) := own_Av.set V_r2_364 W365 (by decide)
    have N373 := Fr.snoc X365 N0 ge_r2
    have Z373 : n0 ≤ h365.size := by rw [W365.size]; exact Z362
    have hk373 := Nat.le_trans hk362 (Nat.le_of_eq W365.size.symm)
    have K373 : Keep h0 h365 [] := Keep.wr K362 W365 (Or.inr kb_r2)
    show own_Go p.tables e below _ (T365.setTop (mkF m 121 #[.val (.int p1), .val (.ref t5), .val (.int (6 : Int32)), .val (.int ((6 : Int32) - (3 : Int32))), .unset, .unset] [(.ref r2), (.ref u347), (.ref c2), (.ref c2)]))
    have Q374 : own_Tms Z h365 1 (fun j => if j = 0 then t5 else t5) (fun j => if j = 0 then true else true) := fun j hj => by rcases j with _ | j <;> first | exact T_t5_366 | exact T_t5_366 | omega
    have R374 : ∀ j, j < 1 → (fun x => if x = 0 then .ref t5 else (fun _ => Value.null) x) j = Value.ref ((fun j => if j = 0 then t5 else t5) j) := fun j hj => by rcases j with _ | j <;> first | rfl | omega
    have U374 : ∀ j, j < 1 → (fun j => if j = 0 then t5 else t5) j ≠ c2 := fun j hj => by rcases j with _ | j <;> first | exact ne340 | exact ne340 | omega
    refine own_callIW X365 hS hk373 hx hZ (y := (⟨"com/example/nashwaak/nashwaak/terms/Compound", "<init>", "(Ljava/lang/String;[Lcom/example/nashwaak/nashwaak/terms/Term;)V"⟩ : MethodName)) (argsL := [(.ref u347), (.ref r2)]) (rest := [(.ref c2)]) (W := 1) hown (hw _ (List.mem_of_getElem? (i := 59) rfl)) (hw _ (List.mem_of_getElem? (i := 60) rfl)) (hw _ (List.mem_of_getElem? (i := 61) rfl)) (hw _ (List.mem_of_getElem? (i := 54) rfl)) rfl (by decide) (own_rm10 l Z a0 hw c2 u347 r2 h365 n0 Z373 1 _ _ (fun j => if j = 0 then t5 else t5) (fun j => if j = 0 then true else true) F_c2_name_368 F_c2_args_369 F_c2_ground_370 E_c2_367 ge_c2 V_r2_372 R374 Q374 (by decide) (by decide) (Ne.symm ne356) U374 E_r2_371) e365 (by decide) (by decide) (by decide) (by decide) (by rw [hml]; rfl) (lenOf own_pd__Ljava_lang_String__Lcom_example_nashwaak_nashwaak_terms_Term__V rfl) rfl (Nat.le_of_eq rfl) (hb hby own_d9_121) ?_
    rintro _ T375 L375 X375 hS hZ hown ⟨rfl, N375, K375, M375⟩
    have NA375 := Fr.app N373 N375
    have T_t5_376 : own_Tm Z T375.heap t5 true := own_Tm.keep T_t5_366 K375 (ninS ne340 nin0)
    have E_c2_377 : Exa Z T375.heap c2 "com/example/nashwaak/nashwaak/terms/Compound" := Exa.keep E_c2_367 K375
    have E_r2_378 : Exa Z T375.heap r2 "[Lcom/example/nashwaak/nashwaak/terms/Term;" := Exa.keep E_r2_371 K375
    have V_r2_379 : own_Av Z T375.heap r2 cA354 (.object "com/example/nashwaak/nashwaak/terms/Term") 1 (fun x => if x = 0 then .ref t5 else (fun _ => Value.null) x) := own_Av.keep V_r2_372 K375 (ninS (Ne.symm ne356) nin0)
    have Z380 : n0 ≤ T375.heap.size := Nat.le_trans Z373 K375.1
    have K380_ : Keep h0 T375.heap [] := Keep.trans K373 K375 (allS (Or.inr kb_c2) all0)
    show own_Go p.tables e below _ (T375.setTop (mkF m 124 #[.val (.int p1), .val (.ref t5), .val (.int (6 : Int32)), .val (.int ((6 : Int32) - (3 : Int32))), .unset, .unset] [(.ref c2)]))
    refine own_go (fun _ kont => XS.astore X375.here hx rfl (hb hby own_d9_124) rfl rfl (l' := #[.val (.int p1), .val (.ref t5), .val (.int (6 : Int32)), .val (.int ((6 : Int32) - (3 : Int32))), .val (.ref c2), .unset]) rfl kont) ?_
    show own_Go p.tables e below _ (T375.setTop (mkF m 126 #[.val (.int p1), .val (.ref t5), .val (.int (6 : Int32)), .val (.int ((6 : Int32) - (3 : Int32))), .val (.ref c2), .unset] []))
    refine own_go (fun _ kont => XS.goto X375.here hx rfl (pc0 := 126) (pc' := 154) rfl (hb hby own_d9_126) (by decide) (by decide) kont) ?_
    show own_Go p.tables e below _ (T375.setTop (mkF m 154 #[.val (.int p1), .val (.ref t5), .val (.int (6 : Int32)), .val (.int ((6 : Int32) - (3 : Int32))), .val (.ref c2), .unset] []))
    exact c154 c2 true _ _ _ _ _ _ (by have q := M375; simpa [own_all] using q) K380_ LG (X375.mono (by decide) (by decide)) hS (Nat.le_refl _) hZ hown NA375 rfl
  · skip
    show own_Go p.tables e below _ (s₁.setTop (mkF m 4 #[.val (.int p1), .val (.ref t5), .unset, .unset, .unset, .unset] [(.int (7 : Int32))]))
    refine own_go (fun _ kont => XS.istoreN X0.here hx rfl (hb hby own_d9_4) rfl (l' := #[.val (.int p1), .val (.ref t5), .val (.int (7 : Int32)), .unset, .unset, .unset]) rfl kont) ?_
    show own_Go p.tables e below _ (s₁.setTop (mkF m 5 #[.val (.int p1), .val (.ref t5), .val (.int (7 : Int32)), .unset, .unset, .unset] []))
    refine own_go (fun _ kont => XS.iloadN X0.here hx rfl (hb hby own_d9_5) rfl kont) ?_
    show own_Go p.tables e below _ (s₁.setTop (mkF m 6 #[.val (.int p1), .val (.ref t5), .val (.int (7 : Int32)), .unset, .unset, .unset] [(.int (7 : Int32))]))
    have LG := lg false (by decide)
    refine own_go (fun _ kont => XS.ifYes X0.here hx rfl (pc0 := 6) (pc' := 11) rfl (hb hby own_d9_6) rfl (XT.i0_ne_t (by decide)) (by decide) (by decide) kont) ?_
    show own_Go p.tables e below _ (s₁.setTop (mkF m 11 #[.val (.int p1), .val (.ref t5), .val (.int (7 : Int32)), .unset, .unset, .unset] []))
    refine own_go (fun _ kont => XS.iloadN X0.here hx rfl (hb hby own_d9_11) rfl kont) ?_
    show own_Go p.tables e below _ (s₁.setTop (mkF m 12 #[.val (.int p1), .val (.ref t5), .val (.int (7 : Int32)), .unset, .unset, .unset] [(.int (7 : Int32))]))
    refine own_go (fun _ kont => XS.iconst X0.here hx rfl (hb hby own_d9_12) kont) ?_
    show own_Go p.tables e below _ (s₁.setTop (mkF m 13 #[.val (.int p1), .val (.ref t5), .val (.int (7 : Int32)), .unset, .unset, .unset] [(.int (1 : Int32)), (.int (7 : Int32))]))
    refine own_go (fun _ kont => XS.icmpYes X0.here hx rfl (pc0 := 13) (pc' := 24) rfl (hb hby own_d9_13) rfl (XT.ii_ne_t (by decide)) (by decide) (by decide) kont) ?_
    show own_Go p.tables e below _ (s₁.setTop (mkF m 24 #[.val (.int p1), .val (.ref t5), .val (.int (7 : Int32)), .unset, .unset, .unset] []))
    refine own_go (fun _ kont => XS.iloadN X0.here hx rfl (hb hby own_d9_24) rfl kont) ?_
    show own_Go p.tables e below _ (s₁.setTop (mkF m 25 #[.val (.int p1), .val (.ref t5), .val (.int (7 : Int32)), .unset, .unset, .unset] [(.int (7 : Int32))]))
    refine own_go (fun _ kont => XS.iconst X0.here hx rfl (hb hby own_d9_25) kont) ?_
    show own_Go p.tables e below _ (s₁.setTop (mkF m 26 #[.val (.int p1), .val (.ref t5), .val (.int (7 : Int32)), .unset, .unset, .unset] [(.int (2 : Int32)), (.int (7 : Int32))]))
    refine own_go (fun _ kont => XS.icmpYes X0.here hx rfl (pc0 := 26) (pc' := 44) rfl (hb hby own_d9_26) rfl (XT.ii_ne_t (by decide)) (by decide) (by decide) kont) ?_
    show own_Go p.tables e below _ (s₁.setTop (mkF m 44 #[.val (.int p1), .val (.ref t5), .val (.int (7 : Int32)), .unset, .unset, .unset] []))
    refine own_go (fun _ kont => XS.iloadN X0.here hx rfl (hb hby own_d9_44) rfl kont) ?_
    show own_Go p.tables e below _ (s₁.setTop (mkF m 45 #[.val (.int p1), .val (.ref t5), .val (.int (7 : Int32)), .unset, .unset, .unset] [(.int (7 : Int32))]))
    refine own_go (fun _ kont => XS.iconst X0.here hx rfl (hb hby own_d9_45) kont) ?_
    show own_Go p.tables e below _ (s₁.setTop (mkF m 46 #[.val (.int p1), .val (.ref t5), .val (.int (7 : Int32)), .unset, .unset, .unset] [(.int (3 : Int32)), (.int (7 : Int32))]))
    refine own_go (fun _ kont => XS.isub X0.here hx rfl (hb hby own_d9_46) rfl kont) ?_
    show own_Go p.tables e below _ (s₁.setTop (mkF m 47 #[.val (.int p1), .val (.ref t5), .val (.int (7 : Int32)), .unset, .unset, .unset] [(.int ((7 : Int32) - (3 : Int32)))]))
    refine own_go (fun _ kont => XS.istoreN X0.here hx rfl (hb hby own_d9_47) rfl (l' := #[.val (.int p1), .val (.ref t5), .val (.int (7 : Int32)), .val (.int ((7 : Int32) - (3 : Int32))), .unset, .unset]) rfl kont) ?_
    show own_Go p.tables e below _ (s₁.setTop (mkF m 48 #[.val (.int p1), .val (.ref t5), .val (.int (7 : Int32)), .val (.int ((7 : Int32) - (3 : Int32))), .unset, .unset] []))
    refine own_go (fun _ kont => XS.iloadN X0.here hx rfl (hb hby own_d9_48) rfl kont) ?_
    show own_Go p.tables e below _ (s₁.setTop (mkF m 49 #[.val (.int p1), .val (.ref t5), .val (.int (7 : Int32)), .val (.int ((7 : Int32) - (3 : Int32))), .unset, .unset] [(.int ((7 : Int32) - (3 : Int32)))]))
    refine own_go (fun _ kont => XS.ifYes X0.here hx rfl (pc0 := 49) (pc' := 58) rfl (hb hby own_d9_49) rfl (XT.i0_ne_t (by decide)) (by decide) (by decide) kont) ?_
    show own_Go p.tables e below _ (s₁.setTop (mkF m 58 #[.val (.int p1), .val (.ref t5), .val (.int (7 : Int32)), .val (.int ((7 : Int32) - (3 : Int32))), .unset, .unset] []))
    refine own_go (fun _ kont => XS.iloadN X0.here hx rfl (hb hby own_d9_58) rfl kont) ?_
    show own_Go p.tables e below _ (s₁.setTop (mkF m 59 #[.val (.int p1), .val (.ref t5), .val (.int (7 : Int32)), .val (.int ((7 : Int32) - (3 : Int32))), .unset, .unset] [(.int ((7 : Int32) - (3 : Int32)))]))
    refine own_go (fun _ kont => XS.iconst X0.here hx rfl (hb hby own_d9_59) kont) ?_
    show own_Go p.tables e below _ (s₁.setTop (mkF m 60 #[.val (.int p1), .val (.ref t5), .val (.int (7 : Int32)), .val (.int ((7 : Int32) - (3 : Int32))), .unset, .unset] [(.int (1 : Int32)), (.int ((7 : Int32) - (3 : Int32)))]))
    refine own_go (fun _ kont => XS.icmpYes X0.here hx rfl (pc0 := 60) (pc' := 75) rfl (hb hby own_d9_60) rfl (XT.ii_ne_t (by decide)) (by decide) (by decide) kont) ?_
    show own_Go p.tables e below _ (s₁.setTop (mkF m 75 #[.val (.int p1), .val (.ref t5), .val (.int (7 : Int32)), .val (.int ((7 : Int32) - (3 : Int32))), .unset, .unset] []))
    refine own_go (fun _ kont => XS.iloadN X0.here hx rfl (hb hby own_d9_75) rfl kont) ?_
    show own_Go p.tables e below _ (s₁.setTop (mkF m 76 #[.val (.int p1), .val (.ref t5), .val (.int (7 : Int32)), .val (.int ((7 : Int32) - (3 : Int32))), .unset, .unset] [(.int ((7 : Int32) - (3 : Int32)))]))
    refine own_go (fun _ kont => XS.iconst X0.here hx rfl (hb hby own_d9_76) kont) ?_
    show own_Go p.tables e below _ (s₁.setTop (mkF m 77 #[.val (.int p1), .val (.ref t5), .val (.int (7 : Int32)), .val (.int ((7 : Int32) - (3 : Int32))), .unset, .unset] [(.int (2 : Int32)), (.int ((7 : Int32) - (3 : Int32)))]))
    refine own_go (fun _ kont => XS.icmpYes X0.here hx rfl (pc0 := 77) (pc' := 102) rfl (hb hby own_d9_77) rfl (XT.ii_ne_t (by decide)) (by decide) (by decide) kont) ?_
    show own_Go p.tables e below _ (s₁.setTop (mkF m 102 #[.val (.int p1), .val (.ref t5), .val (.int (7 : Int32)), .val (.int ((7 : Int32) - (3 : Int32))), .unset, .unset] []))
    refine own_go (fun _ kont => XS.iloadN X0.here hx rfl (hb hby own_d9_102) rfl kont) ?_
    show own_Go p.tables e below _ (s₁.setTop (mkF m 103 #[.val (.int p1), .val (.ref t5), .val (.int (7 : Int32)), .val (.int ((7 : Int32) - (3 : Int32))), .unset, .unset] [(.int ((7 : Int32) - (3 : Int32)))]))
    refine own_go (fun _ kont => XS.iconst X0.here hx rfl (hb hby own_d9_103) kont) ?_
    show own_Go p.tables e below _ (s₁.setTop (mkF m 104 #[.val (.int p1), .val (.ref t5), .val (.int (7 : Int32)), .val (.int ((7 : Int32) - (3 : Int32))), .unset, .unset] [(.int (3 : Int32)), (.int ((7 : Int32) - (3 : Int32)))]))
    refine own_go (fun _ kont => XS.icmpYes X0.here hx rfl (pc0 := 104) (pc' := 129) rfl (hb hby own_d9_104) rfl (XT.ii_ne_t (by decide)) (by decide) (by decide) kont) ?_
    show own_Go p.tables e below _ (s₁.setTop (mkF m 129 #[.val (.int p1), .val (.ref t5), .val (.int (7 : Int32)), .val (.int ((7 : Int32) - (3 : Int32))), .unset, .unset] []))
    obtain ⟨T381, h381, X381, e381, E381, A381, D381, -, st381⟩ := newO X0 hx hZ hown (hw _ (List.mem_of_getElem? (i := 52) rfl)) (hw _ (List.mem_of_getElem? (i := 53) rfl)) (hw _ (List.mem_of_getElem? (i := 54) rfl)) e0 (g := (mkF m 129 #[.val (.int p1), .val (.ref t5), .val (.int (7 : Int32)), .val (.int ((7 : Int32) - (3 : Int32))), .unset, .unset] [])) rfl (hb hby own_d9_129) (by decide) (by decide)
    obtain ⟨c2, g381⟩ : ∃ z, z = h0.size := ⟨_, rfl⟩
    rw [← g381] at A381 D381 st381
    have ne382 : t5 ≠ c2 := by rw [g381]; exact Nat.ne_of_lt T5.lt
    have ge_c2 : n0 ≤ c2 := by rw [g381]; exact Z0
    have kb_c2 : h0.size ≤ c2 := by rw [g381]; exact K0.1
    have T_t5_383 : own_Tm Z h381 t5 true := own_Tm.ext E381 T5
    have Z384 : n0 ≤ h381.size := Nat.le_trans Z0 E381.1
    have hk384 := Nat.le_trans hk E381.1
    have K384 : Keep h0 h381 [] := Keep.ext K0 E381
    have E_c2_385 : Exa Z h381 c2 "com/example/nashwaak/nashwaak/terms/Compound" := A381
    have F_c2_name_386 : Fld Z h381 c2 "com/example/nashwaak/nashwaak/terms/Compound" "name" "Ljava/lang/String;" (.null) := D381 (Or.inr (hw _ (List.mem_of_getElem? (i := 78) rfl))) (ty := (.object "java/lang/String")) (by decide)
    have F_c2_args_387 : Fld Z h381 c2 "com/example/nashwaak/nashwaak/terms/Compound" "args" "[Lcom/example/nashwaak/nashwaak/terms/Term;" (.null) := D381 (Or.inr (hw _ (List.mem_of_getElem? (i := 80) rfl))) (ty := (.array (.object "com/example/nashwaak/nashwaak/terms/Term"))) (by decide)
    have F_c2_ground_388 : Fld Z h381 c2 "com/example/nashwaak/nashwaak/terms/Compound" "ground" "Z" (.int (0 : Int32)) := D381 (Or.inr (hw _ (List.mem_of_getElem? (i := 90) rfl))) (ty := .boolean) (by decide)
    refine own_go st381 ?_
    show own_Go p.tables e below _ (T381.setTop (mkF m 132 #[.val (.int p1), .val (.ref t5), .val (.int (7 : Int32)), .val (.int ((7 : Int32) - (3 : Int32))), .unset, .unset] [(.ref c2)]))
    refine own_go (fun _ kont => XS.dup X381.here hx rfl (hb hby own_d9_132) rfl rfl kont) ?_
    show own_Go p.tables e below _ (T381.setTop (mkF m 133 #[.val (.int p1), .val (.ref t5), .val (.int (7 : Int32)), .val (.int ((7 : Int32) - (3 : Int32))), .unset, .unset] [(.ref c2), (.ref c2)]))
    obtain ⟨u389, T389, h389, kz389, X389, e389, E389, hS, hk, hZ, hown, st389⟩ := ldcS X381 hx hZ hown (hw _ (List.mem_of_getElem? (i := 55) rfl)) wS e381 hS hk384 (g := (mkF m 133 #[.val (.int p1), .val (.ref t5), .val (.int (7 : Int32)), .val (.int ((7 : Int32) - (3 : Int32))), .unset, .unset] [(.ref c2), (.ref c2)])) rfl (hb hby own_d9_133) (n := 4) (by decide) (by decide) (by decide) (by decide)
    have T_t5_390 : own_Tm Z h389 t5 true := own_Tm.ext E389 T_t5_383
    have E_c2_391 : Exa Z h389 c2 "com/example/nashwaak/nashwaak/terms/Compound" := Exa.ext E389 E_c2_385
    have F_c2_name_392 : Fld Z h389 c2 "com/example/nashwaak/nashwaak/terms/Compound" "name" "Ljava/lang/String;" (.null) := Fld.ext E389 F_c2_name_386
    have F_c2_args_393 : Fld Z h389 c2 "com/example/nashwaak/nashwaak/terms/Compound" "args" "[Lcom/example/nashwaak/nashwaak/terms/Term;" (.null) := Fld.ext E389 F_c2_args_387
    have F_c2_ground_394 : Fld Z h389 c2 "com/example/nashwaak/nashwaak/terms/Compound" "ground" "Z" (.int (0 : Int32)) := Fld.ext E389 F_c2_ground_388
    have Z395 : n0 ≤ h389.size := Nat.le_trans Z384 E389.1
    have K395 : Keep h0 h389 [] := Keep.ext K384 E389
    refine own_go st389 ?_
    show own_Go p.tables e below _ (T389.setTop (mkF m 135 #[.val (.int p1), .val (.ref t5), .val (.int (7 : Int32)), .val (.int ((7 : Int32) - (3 : Int32))), .unset, .unset] [(.ref u389), (.ref c2), (.ref c2)]))
    refine own_go (fun _ kont => XS.iconst X389.here hx rfl (hb hby own_d9_135) kont) ?_
    show own_Go p.tables e below _ (T389.setTop (mkF m 136 #[.val (.int p1), .val (.ref t5), .val (.int (7 : Int32)), .val (.int ((7 : Int32) - (3 : Int32))), .unset, .unset] [(.int (1 : Int32)), (.ref u389), (.ref c2), (.ref c2)]))
    obtain ⟨T396, h396, cA396, X396, e396, E396, A396, B396, O396, st396⟩ := newRE X389 hx hZ hown (hw _ (List.mem_of_getElem? (i := 56) rfl)) (hw _ (List.mem_of_getElem? (i := 57) rfl)) e389 (g := (mkF m 136 #[.val (.int p1), .val (.ref t5), .val (.int (7 : Int32)), .val (.int ((7 : Int32) - (3 : Int32))), .unset, .unset] [(.int (1 : Int32)), (.ref u389), (.ref c2), (.ref c2)])) rfl (hb hby own_d9_136) rfl (by decide) (cap := 1) (by decide) (by decide) (by decide) (by decide) rfl
    obtain ⟨r2, g396⟩ : ∃ z, z = h389.size := ⟨_, rfl⟩
    rw [← g396] at A396 B396 st396
    have ne397 : t5 ≠ r2 := by rw [g396]; exact Nat.ne_of_lt T_t5_390.lt
    have ne398 : c2 ≠ r2 := by rw [g396]; exact Nat.ne_of_lt E_c2_391.lt
    have ge_r2 : n0 ≤ r2 := by rw [g396]; exact Z395
    have kb_r2 : h0.size ≤ r2 := by rw [g396]; exact K395.1
    have T_t5_399 : own_Tm Z h396 t5 true := own_Tm.ext E396 T_t5_390
    have E_c2_400 : Exa Z h396 c2 "com/example/nashwaak/nashwaak/terms/Compound" := Exa.ext E396 E_c2_391
    have F_c2_name_401 : Fld Z h396 c2 "com/example/nashwaak/nashwaak/terms/Compound" "name" "Ljava/lang/String;" (.null) := Fld.ext E396 F_c2_name_392
    have F_c2_args_402 : Fld Z h396 c2 "com/example/nashwaak/nashwaak/terms/Compound" "args" "[Lcom/example/nashwaak/nashwaak/terms/Term;" (.null) := Fld.ext E396 F_c2_args_393
    have F_c2_ground_403 : Fld Z h396 c2 "com/example/nashwaak/nashwaak/terms/Compound" "ground" "Z" (.int (0 : Int32)) := Fld.ext E396 F_c2_ground_394
    have Z404 : n0 ≤ h396.size := Nat.le_trans Z395 E396.1
    have hk404 := Nat.le_trans hk E396.1
    have K404 : Keep h0 h396 [] := Keep.ext K395 E396
    have E_r2_405 : Exa Z h396 r2 "[Lcom/example/nashwaak/nashwaak/terms/Term;" := B396
    have V_r2_406 : own_Av Z h396 r2 cA396 (.object "com/example/nashwaak/nashwaak/terms/Term") 1 (fun _ => Value.null) := own_Av.new (ty := (.object "com/example/nashwaak/nashwaak/terms/Term")) A396 (by decide)
    refine own_go st396 ?_
    show own_Go p.tables e below _ (T396.setTop (mkF m 139 #[.val (.int p1), .val (.ref t5), .val (.int (7 : Int32)), .val (.int ((7 : Int32) - (3 : Int32))), .unset, .unset] [(.ref r2), (.ref u389), (.ref c2), (.ref c2)]))
    have OV396 := O396
    refine own_go (fun _ kont => XS.dup X396.here hx rfl (hb hby own_d9_139) rfl rfl kont) ?_
    show own_Go p.tables e below _ (T396.setTop (mkF m 140 #[.val (.int p1), .val (.ref t5), .val (.int (7 : Int32)), .val (.int ((7 : Int32) - (3 : Int32))), .unset, .unset] [(.ref r2), (.ref r2), (.ref u389), (.ref c2), (.ref c2)]))
    refine own_go (fun _ kont => XS.iconst X396.here hx rfl (hb hby own_d9_140) kont) ?_
    show own_Go p.tables e below _ (T396.setTop (mkF m 141 #[.val (.int p1), .val (.ref t5), .val (.int (7 : Int32)), .val (.int ((7 : Int32) - (3 : Int32))), .unset, .unset] [(.int (0 : Int32)), (.ref r2), (.ref r2), (.ref u389), (.ref c2), (.ref c2)]))
    obtain ⟨T407, h407, X407, e407, E407, A407, D407, -, st407⟩ := newO X396 hx hZ hown (hw _ (List.mem_of_getElem? (i := 91) rfl)) (hw _ (List.mem_of_getElem? (i := 92) rfl)) (hw _ (List.mem_of_getElem? (i := 93) rfl)) e396 (g := (mkF m 141 #[.val (.int p1), .val (.ref t5), .val (.int (7 : Int32)), .val (.int ((7 : Int32) - (3 : Int32))), .unset, .unset] [(.int (0 : Int32)), (.ref r2), (.ref r2), (.ref u389), (.ref c2), (.ref c2)])) rfl (hb hby own_d9_141) (by decide) (by decide)
    obtain ⟨v1, g407⟩ : ∃ z, z = h396.size := ⟨_, rfl⟩
    rw [← g407] at A407 D407 st407
    have ne408 : t5 ≠ v1 := by rw [g407]; exact Nat.ne_of_lt T_t5_399.lt
    have ne409 : c2 ≠ v1 := by rw [g407]; exact Nat.ne_of_lt E_c2_400.lt
    have ne410 : r2 ≠ v1 := by rw [g407]; exact Nat.ne_of_lt E_r2_405.lt
    have ge_v1 : n0 ≤ v1 := by rw [g407]; exact Z404
    have kb_v1 : h0.size ≤ v1 := by rw [g407]; exact K404.1
    have T_t5_411 : own_Tm Z h407 t5 true := own_Tm.ext E407 T_t5_399
    have E_c2_412 : Exa Z h407 c2 "com/example/nashwaak/nashwaak/terms/Compound" := Exa.ext E407 E_c2_400
    have F_c2_name_413 : Fld Z h407 c2 "com/example/nashwaak/nashwaak/terms/Compound" "name" "Ljava/lang/String;" (.null) := Fld.ext E407 F_c2_name_401
    have F_c2_args_414 : Fld Z h407 c2 "com/example/nashwaak/nashwaak/terms/Compound" "args" "[Lcom/example/nashwaak/nashwaak/terms/Term;" (.null) := Fld.ext E407 F_c2_args_402
    have F_c2_ground_415 : Fld Z h407 c2 "com/example/nashwaak/nashwaak/terms/Compound" "ground" "Z" (.int (0 : Int32)) := Fld.ext E407 F_c2_ground_403
    have E_r2_416 : Exa Z h407 r2 "[Lcom/example/nashwaak/nashwaak/terms/Term;" := Exa.ext E407 E_r2_405
    have V_r2_417 : own_Av Z h407 r2 cA396 (.object "com/example/nashwaak/nashwaak/terms/Term") 1 (fun _ => Value.null) := own_Av.ext E407 V_r2_406
    have Z418 : n0 ≤ h407.size := Nat.le_trans Z404 E407.1
    have hk418 := Nat.le_trans hk404 E407.1
    have K418 : Keep h0 h407 [] := Keep.ext K404 E407
    have E_v1_419 : Exa Z h407 v1 "com/example/nashwaak/nashwaak/terms/Variable" := A407
    have F_v1_number_420 : Fld Z h407 v1 "com/example/nashwaak/nashwaak/terms/Variable" "number" "I" (.int (0 : Int32)) := D407 (Or.inr (hw _ (List.mem_of_getElem? (i := 102) rfl))) (ty := .int) (by decide)
    have F_v1_level_421 : Fld Z h407 v1 "com/example/nashwaak/nashwaak/terms/Variable" "level" "I" (.int (0 : Int32)) := D407 (Or.inr (hw _ (List.mem_of_getElem? (i := 104) rfl))) (ty := .int) (by decide)
    have F_v1_binding_422 : Fld Z h407 v1 "com/example/nashwaak/nashwaak/terms/Variable" "binding" "Lcom/example/nashwaak/nashwaak/terms/Term;" (.null) := D407 (Or.inl (hw _ (List.mem_of_getElem? (i := 111) rfl))) (ty := (.object "com/example/nashwaak/nashwaak/terms/Term")) (by decide)
    refine own_go st407 ?_
    show own_Go p.tables e below _ (T407.setTop (mkF m 144 #[.val (.int p1), .val (.ref t5), .val (.int (7 : Int32)), .val (.int ((7 : Int32) - (3 : Int32))), .unset, .unset] [(.ref v1), (.int (0 : Int32)), (.ref r2), (.ref r2), (.ref u389), (.ref c2), (.ref c2)]))
    refine own_go (fun _ kont => XS.dup X407.here hx rfl (hb hby own_d9_144) rfl rfl kont) ?_
    show own_Go p.tables e below _ (T407.setTop (mkF m 145 #[.val (.int p1), .val (.ref t5), .val (.int (7 : Int32)), .val (.int ((7 : Int32) - (3 : Int32))), .unset, .unset] [(.ref v1), (.ref v1), (.int (0 : Int32)), (.ref r2), (.ref r2), (.ref u389), (.ref c2), (.ref c2)]))
    refine own_callI X407 hx hZ (y := (⟨"com/example/nashwaak/nashwaak/terms/Variable", "<init>", "()V"⟩ : MethodName)) (argsL := []) (rest := [(.ref v1), (.int (0 : Int32)), (.ref r2), (.ref r2), (.ref u389), (.ref c2), (.ref c2)]) (W := 7) hown (hw _ (List.mem_of_getElem? (i := 94) rfl)) (hw _ (List.mem_of_getElem? (i := 95) rfl)) (hw _ (List.mem_of_getElem? (i := 96) rfl)) (hw _ (List.mem_of_getElem? (i := 93) rfl)) rfl (by decide) (own_rm13 l Z a0 hw v1 h407 n0 Z418 F_v1_number_420 F_v1_level_421 F_v1_binding_422 E_v1_419 ge_v1) e407 (by decide) (by decide) (by decide) (by decide) (by rw [hml]; rfl) (lenOf own_pd___V rfl) rfl (Nat.le_of_eq rfl) (hb hby own_d9_145) ?_
    rintro _ T423 L423 X423 ⟨rfl, N423, K423, F423⟩
    have NA423 := Fr.app N0 N423
    have T_t5_424 : own_Tm Z T423.heap t5 true := own_Tm.keep T_t5_411 K423 (ninS ne408 nin0)
    have E_c2_425 : Exa Z T423.heap c2 "com/example/nashwaak/nashwaak/terms/Compound" := Exa.keep E_c2_412 K423
    have F_c2_name_426 : Fld Z T423.heap c2 "com/example/nashwaak/nashwaak/terms/Compound" "name" "Ljava/lang/String;" (.null) := Fld.keep F_c2_name_413 K423 (ninS ne409 nin0)
    have F_c2_args_427 : Fld Z T423.heap c2 "com/example/nashwaak/nashwaak/terms/Compound" "args" "[Lcom/example/nashwaak/nashwaak/terms/Term;" (.null) := Fld.keep F_c2_args_414 K423 (ninS ne409 nin0)
    have F_c2_ground_428 : Fld Z T423.heap c2 "com/example/nashwaak/nashwaak/terms/Compound" "ground" "Z" (.int (0 : Int32)) := Fld.keep F_c2_ground_415 K423 (ninS ne409 nin0)
    have E_r2_429 : Exa Z T423.heap r2 "[Lcom/example/nashwaak/nashwaak/terms/Term;" := Exa.keep E_r2_416 K423
    have V_r2_430 : own_Av Z T423.heap r2 cA396 (.object "com/example/nashwaak/nashwaak/terms/Term") 1 (fun _ => Value.null) := own_Av.keep V_r2_417 K423 (ninS ne410 nin0)
    have E_v1_431 : Exa Z T423.heap v1 "com/example/nashwaak/nashwaak/terms/Variable" := Exa.keep E_v1_419 K423
    have Z432 : n0 ≤ T423.heap.size := Nat.le_trans Z418 K423.1
    have hk432 := Nat.le_trans hk418 K423.1
    have K432_ : Keep h0 T423.heap [] := Keep.trans K418 K423 (allS (Or.inr kb_v1) all0)
    show own_Go p.tables e below _ (T423.setTop (mkF m 148 #[.val (.int p1), .val (.ref t5), .val (.int (7 : Int32)), .val (.int ((7 : Int32) - (3 : Int32))), .unset, .unset] [(.ref v1), (.int (0 : Int32)), (.ref r2), (.ref r2), (.ref u389), (.ref c2), (.ref c2)]))
    have T_v1_433 : own_Tm Z T423.heap v1 false := Or.inr (Or.inl ⟨E_v1_431, rfl⟩)
    refine own_aast X423 hx hZ rfl V_r2_430 rfl (own_sto hw V_r2_430 OV396 T_v1_433) 0 (by decide) (by decide) (by decide) (hb hby own_d9_148) ?_
    intro T434 h434 X434 e434 W434
    have T_t5_435 : own_Tm Z h434 t5 true := own_Tm.other W434 T_t5_424 ne397
    have E_c2_436 : Exa Z h434 c2 "com/example/nashwaak/nashwaak/terms/Compound" := Exa.wr W434 E_c2_425
    have F_c2_name_437 : Fld Z h434 c2 "com/example/nashwaak/nashwaak/terms/Compound" "name" "Ljava/lang/String;" (.null) := Fld.other W434 F_c2_name_426 (Or.inl ne398)
    have F_c2_args_438 : Fld Z h434 c2 "com/example/nashwaak/nashwaak/terms/Compound" "args" "[Lcom/example/nashwaak/nashwaak/terms/Term;" (.null) := Fld.other W434 F_c2_args_427 (Or.inl ne398)
    have F_c2_ground_439 : Fld Z h434 c2 "com/example/nashwaak/nashwaak/terms/Compound" "ground" "Z" (.int (0 : Int32)) := Fld.other W434 F_c2_ground_428 (Or.inl ne398)
    have E_r2_440 : Exa Z h434 r2 "[Lcom/example/nashwaak/nashwaak/terms/Term;" := Exa.wr W434 E_r2_429
    have V_r2_441 : own_Av Z h434 r2 cA396 (.object "com/example/nashwaak/nashwaak/terms/Term") 1 (fun x => if x = 0 then .ref v1 else (fun _ => Value.null) x) := own_Av.set V_r2_430 W434 (by decide)
    have E_v1_442 : Exa Z h434 v1 "com/example/nashwaak/nashwaak/terms/Variable" := Exa.wr W434 E_v1_431
    have F_v1_binding_443 : Fld Z h434 v1 "com/example/nashwaak/nashwaak/terms/Variable" "binding" "Lcom/example/nashwaak/nashwaak/terms/Term;" (.null) := Fld.other W434 F423 (Or.inl (Ne.symm ne410))
    have T_v1_444 : own_Tm Z h434 v1 false := own_Tm.other W434 T_v1_433 (Ne.symm ne410)
    have N445 := Fr.snoc X434 NA423 ge_r2
    have Z445 : n0 ≤ h434.size := by rw [W434.size]; exact Z432
    have hk445 := Nat.le_trans hk432 (Nat.le_of_eq W434.size.symm)
    have K445 : Keep h0 h434 [] := Keep.wr K432_ W434 (Or.inr kb_r2)
    show own_Go p.tables e below _ (T434.setTop (mkF m 149 #[.val (.int p1), .val (.ref t5), .val (.int (7 : Int32)), .val (.int ((7 : Int32) - (3 : Int32))), .unset, .unset] [(.ref r2), (.ref u389), (.ref c2), (.ref c2)]))
    have Q446 : own_Tms Z h434 1 (fun j => if j = 0 then v1 else v1) (fun j => if j = 0 then false else false) := fun j hj => by rcases j with _ | j <;> first | exact T_v1_444 | exact T_v1_444 | omega
    have R446 : ∀ j, j < 1 → (fun x => if x = 0 then .ref v1 else (fun _ => Value.null) x) j = Value.ref ((fun j => if j = 0 then v1 else v1) j) := fun j hj => by rcases j with _ | j <;> first | rfl | omega
    have U446 : ∀ j, j < 1 → (fun j => if j = 0 then v1 else v1) j ≠ c2 := fun j hj => by rcases j with _ | j <;> first | exact (Ne.symm ne409) | exact (Ne.symm ne409) | omega
    refine own_callIW X434 hS hk445 hx hZ (y := (⟨"com/example/nashwaak/nashwaak/terms/Compound", "<init>", "(Ljava/lang/String;[Lcom/example/nashwaak/nashwaak/terms/Term;)V"⟩ : MethodName)) (argsL := [(.ref u389), (.ref r2)]) (rest := [(.ref c2)]) (W := 1) hown (hw _ (List.mem_of_getElem? (i := 59) rfl)) (hw _ (List.mem_of_getElem? (i := 60) rfl)) (hw _ (List.mem_of_getElem? (i := 61) rfl)) (hw _ (List.mem_of_getElem? (i := 54) rfl)) rfl (by decide) (own_rm10 l Z a0 hw c2 u389 r2 h434 n0 Z445 1 _ _ (fun j => if j = 0 then v1 else v1) (fun j => if j = 0 then false else false) F_c2_name_437 F_c2_args_438 F_c2_ground_439 E_c2_436 ge_c2 V_r2_441 R446 Q446 (by decide) (by decide) (Ne.symm ne398) U446 E_r2_440) e434 (by decide) (by decide) (by decide) (by decide) (by rw [hml]; rfl) (lenOf own_pd__Ljava_lang_String__Lcom_example_nashwaak_nashwaak_terms_Term__V rfl) rfl (Nat.le_of_eq rfl) (hb hby own_d9_149) ?_
    rintro _ T447 L447 X447 hS hZ hown ⟨rfl, N447, K447, M447⟩
    have NA447 := Fr.app N445 N447
    have T_t5_448 : own_Tm Z T447.heap t5 true := own_Tm.keep T_t5_435 K447 (ninS ne382 nin0)
    have E_c2_449 : Exa Z T447.heap c2 "com/example/nashwaak/nashwaak/terms/Compound" := Exa.keep E_c2_436 K447
    have E_r2_450 : Exa Z T447.heap r2 "[Lcom/example/nashwaak/nashwaak/terms/Term;" := Exa.keep E_r2_440 K447
    have V_r2_451 : own_Av Z T447.heap r2 cA396 (.object "com/example/nashwaak/nashwaak/terms/Term") 1 (fun x => if x = 0 then .ref v1 else (fun _ => Value.null) x) := own_Av.keep V_r2_441 K447 (ninS (Ne.symm ne398) nin0)
    have E_v1_452 : Exa Z T447.heap v1 "com/example/nashwaak/nashwaak/terms/Variable" := Exa.keep E_v1_442 K447
    have F_v1_binding_453 : Fld Z T447.heap v1 "com/example/nashwaak/nashwaak/terms/Variable" "binding" "Lcom/example/nashwaak/nashwaak/terms/Term;" (.null) := Fld.keep F_v1_binding_443 K447 (ninS (Ne.symm ne409) nin0)
    have T_v1_454 : own_Tm Z T447.heap v1 false := own_Tm.keep T_v1_444 K447 (ninS (Ne.symm ne409) nin0)
    have Z455 : n0 ≤ T447.heap.size := Nat.le_trans Z445 K447.1
    have K455_ : Keep h0 T447.heap [] := Keep.trans K445 K447 (allS (Or.inr kb_c2) all0)
    show own_Go p.tables e below _ (T447.setTop (mkF m 152 #[.val (.int p1), .val (.ref t5), .val (.int (7 : Int32)), .val (.int ((7 : Int32) - (3 : Int32))), .unset, .unset] [(.ref c2)]))
    refine own_go (fun _ kont => XS.astore X447.here hx rfl (hb hby own_d9_152) rfl rfl (l' := #[.val (.int p1), .val (.ref t5), .val (.int (7 : Int32)), .val (.int ((7 : Int32) - (3 : Int32))), .val (.ref c2), .unset]) rfl kont) ?_
    show own_Go p.tables e below _ (T447.setTop (mkF m 154 #[.val (.int p1), .val (.ref t5), .val (.int (7 : Int32)), .val (.int ((7 : Int32) - (3 : Int32))), .val (.ref c2), .unset] []))
    exact c154 c2 false _ _ _ _ _ _ (by have q := M447; simpa [own_all] using q) K455_ LG (X447.mono (by decide) (by decide)) hS (Nat.le_refl _) hZ hown NA447 rfl
theorem own_rm0_ef (m : MethodId) (p1 : Int32) (p2 : Int32) (p3 : Int32) (p4 : Int32)  : entryFrame m #[(.int p1), (.int p2), (.int p3), (.int p4)] maxLocals = mkF m 0 #[.val (.int p1), .val (.int p2), .val (.int p3), .val (.int p4), .unset, .unset, .unset, .unset, .unset, .unset, .unset] [] := by first | (simp [entryFrame, mkF, argsToLocals, Value.category, maxLocals]; done) | rfl
set_option maxRecDepth 65536 in
set_option maxHeartbeats 40000000 in
theorem own_rm0 (l : Launch) (Z : State) (a0 : Array Value) (hw : ∀ d ∈ tables_1, d.before a0 Z = true) (ws : List Jvm.Cond) (p1 : Int32) (p2 : Int32) (p3 : Int32) (p4 : Int32) (h0 : Heap) (n0 : Nat) (Z0 : n0 ≤ h0.size) (cs : Int32) (CS : Sta Z h0 "java/lang/String" "COMPACT_STRINGS" "Z" (.int cs)) (cz : ¬ cs = 0) :
    own_MetW l x (Jvm.Cond.code x code maxLocals ret :: ws) room_1 Z h0 #[(.int p1), (.int p2), (.int p3), (.int p4)] (fun v h L => v = some (.int 1) ∧ Fr n0 L) := by
  refine own_bodyW (pn := own_pn_0) ?_
  intro p e s m below meth c s₁ hx hby hml hown hnm hret hlk hZ X0 e0 hS
  have hk : 0 ≤ h0.size := Nat.zero_le _
  have N0 := Fr.nil n0
  refine own_go (fun _ kont => castTop (own_rm0_ef m p1 p2 p3 p4 ) kont) ?_
  show own_Go p.tables e below _ (s₁.setTop (mkF m 0 #[.val (.int p1), .val (.int p2), .val (.int p3), .val (.int p4), .unset, .unset, .unset, .unset, .unset, .unset, .unset] []))
  have wS := own_wS hw
  obtain ⟨T456, h456, X456, e456, E456, A456, D456, -, st456⟩ := newO X0 hx hZ hown (hw _ (List.mem_of_getElem? (i := 0) rfl)) (hw _ (List.mem_of_getElem? (i := 1) rfl)) (hw _ (List.mem_of_getElem? (i := 2) rfl)) e0 (g := (mkF m 0 #[.val (.int p1), .val (.int p2), .val (.int p3), .val (.int p4), .unset, .unset, .unset, .unset, .unset, .unset, .unset] [])) rfl (hb hby at_0) (by decide) (by decide)
  obtain ⟨a1, g456⟩ : ∃ z, z = h0.size := ⟨_, rfl⟩
  rw [← g456] at A456 D456 st456
  have ge_a1 : n0 ≤ a1 := by rw [g456]; exact Z0
  have CS_457 : Sta Z h456 "java/lang/String" "COMPACT_STRINGS" "Z" (.int cs) := Sta.ext E456 CS
  have Z458 : n0 ≤ h456.size := Nat.le_trans Z0 E456.1
  have hk458 := Nat.le_trans hk E456.1
  have E_a1_459 : Exa Z h456 a1 "com/example/nashwaak/nashwaak/terms/Atom" := A456
  have F_a1_name_460 : Fld Z h456 a1 "com/example/nashwaak/nashwaak/terms/Atom" "name" "Ljava/lang/String;" (.null) := D456 (Or.inr (hw _ (List.mem_of_getElem? (i := 47) rfl))) (ty := (.object "java/lang/String")) (by decide)
  refine own_go st456 ?_
  show own_Go p.tables e below _ (T456.setTop (mkF m 3 #[.val (.int p1), .val (.int p2), .val (.int p3), .val (.int p4), .unset, .unset, .unset, .unset, .unset, .unset, .unset] [(.ref a1)]))
  refine own_go (fun _ kont => XS.dup X456.here hx rfl (hb hby at_3) rfl rfl kont) ?_
  show own_Go p.tables e below _ (T456.setTop (mkF m 4 #[.val (.int p1), .val (.int p2), .val (.int p3), .val (.int p4), .unset, .unset, .unset, .unset, .unset, .unset, .unset] [(.ref a1), (.ref a1)]))
  refine own_go (fun _ kont => XS.iloadN X456.here hx rfl (hb hby at_4) rfl kont) ?_
  show own_Go p.tables e below _ (T456.setTop (mkF m 5 #[.val (.int p1), .val (.int p2), .val (.int p3), .val (.int p4), .unset, .unset, .unset, .unset, .unset, .unset, .unset] [(.int p4), (.ref a1), (.ref a1)]))
  refine own_go (fun _ kont => XS.sipush X456.here hx rfl (hb hby at_5) kont) ?_
  show own_Go p.tables e below _ (T456.setTop (mkF m 8 #[.val (.int p1), .val (.int p2), .val (.int p3), .val (.int p4), .unset, .unset, .unset, .unset, .unset, .unset, .unset] [(.int (255 : Int32)), (.int p4), (.ref a1), (.ref a1)]))
  refine own_go (fun _ kont => XS.iand X456.here hx rfl (hb hby at_8) rfl kont) ?_
  show own_Go p.tables e below _ (T456.setTop (mkF m 9 #[.val (.int p1), .val (.int p2), .val (.int p3), .val (.int p4), .unset, .unset, .unset, .unset, .unset, .unset, .unset] [(.int (p4 &&& (255 : Int32))), (.ref a1), (.ref a1)]))
  refine own_go (fun _ kont => XS.i2c X456.here hx rfl (hb hby at_9) rfl kont) ?_
  show own_Go p.tables e below _ (T456.setTop (mkF m 10 #[.val (.int p1), .val (.int p2), .val (.int p3), .val (.int p4), .unset, .unset, .unset, .unset, .unset, .unset, .unset] [(.int ((p4 &&& (255 : Int32)).toUInt32.toUInt16.toUInt32.toInt32)), (.ref a1), (.ref a1)]))
  refine own_callS X456 hx hZ (y := (⟨"java/lang/String", "valueOf", "(C)Ljava/lang/String;"⟩ : MethodName)) (argsL := [(.int ((p4 &&& (255 : Int32)).toUInt32.toUInt16.toUInt32.toInt32))]) (rest := [(.ref a1), (.ref a1)]) (W := 2) hown (hw _ (List.mem_of_getElem? (i := 3) rfl)) (hw _ (List.mem_of_getElem? (i := 4) rfl)) (hw _ (List.mem_of_getElem? (i := 5) rfl)) (hw _ (List.mem_of_getElem? (i := 6) rfl)) (by decide) (own_rm1 l Z a0 hw ((p4 &&& (255 : Int32)).toUInt32.toUInt16.toUInt32.toInt32) h456 n0 Z458 (own_ch p4) cs CS_457 cz) e456 (by decide) (by decide) (by decide) (by decide) (by rw [hml]; rfl) (lenOf own_pd__C_Ljava_lang_String_ rfl) rfl (Nat.le_of_eq rfl) (hb hby at_10) ?_
  rintro _ T461 L461 X461 ⟨r461, rfl, E461, g461, N461, K461⟩
  have NA461 := Fr.app N0 N461
  have E_a1_462 : Exa Z T461.heap a1 "com/example/nashwaak/nashwaak/terms/Atom" := Exa.keep E_a1_459 K461
  have F_a1_name_463 : Fld Z T461.heap a1 "com/example/nashwaak/nashwaak/terms/Atom" "name" "Ljava/lang/String;" (.null) := Fld.keep F_a1_name_460 K461 nin0
  have Z464 : n0 ≤ T461.heap.size := Nat.le_trans Z458 K461.1
  have hk464 := Nat.le_trans hk458 K461.1
  show own_Go p.tables e below _ (T461.setTop (mkF m 13 #[.val (.int p1), .val (.int p2), .val (.int p3), .val (.int p4), .unset, .unset, .unset, .unset, .unset, .unset, .unset] [(.ref r461), (.ref a1), (.ref a1)]))
  have ne465 : a1 ≠ r461 := Nat.ne_of_lt (Nat.lt_of_lt_of_le E_a1_459.lt g461)
  have ge_r461 : n0 ≤ r461 := Nat.le_trans Z458 g461
  refine own_callIW X461 hS hk464 hx hZ (y := (⟨"com/example/nashwaak/nashwaak/terms/Atom", "<init>", "(Ljava/lang/String;)V"⟩ : MethodName)) (argsL := [(.ref r461)]) (rest := [(.ref a1)]) (W := 1) hown (hw _ (List.mem_of_getElem? (i := 29) rfl)) (hw _ (List.mem_of_getElem? (i := 30) rfl)) (hw _ (List.mem_of_getElem? (i := 31) rfl)) (hw _ (List.mem_of_getElem? (i := 2) rfl)) rfl (by decide) (own_rm6 l Z a0 hw a1 r461 T461.heap n0 Z464 F_a1_name_463 E_a1_462 ge_a1 E461) rfl (by decide) (by decide) (by decide) (by decide) (by rw [hml]; rfl) (lenOf own_pd__Ljava_lang_String__V rfl) rfl (Nat.le_of_eq rfl) (hb hby at_13) ?_
  rintro _ T466 L466 X466 hS hZ hown ⟨rfl, N466, K466⟩
  have NA466 := Fr.app NA461 N466
  have E_a1_467 : Exa Z T466.heap a1 "com/example/nashwaak/nashwaak/terms/Atom" := Exa.keep E_a1_462 K466
  have E_r461_468 : Exa Z T466.heap r461 "java/lang/String" := Exa.keep E461 K466
  have Z469 : n0 ≤ T466.heap.size := Nat.le_trans Z464 K466.1
  show own_Go p.tables e below _ (T466.setTop (mkF m 16 #[.val (.int p1), .val (.int p2), .val (.int p3), .val (.int p4), .unset, .unset, .unset, .unset, .unset, .unset, .unset] [(.ref a1)]))
  refine own_go (fun _ kont => XS.astore X466.here hx rfl (hb hby at_16) rfl rfl (l' := #[.val (.int p1), .val (.int p2), .val (.int p3), .val (.int p4), .val (.ref a1), .unset, .unset, .unset, .unset, .unset, .unset]) rfl kont) ?_
  show own_Go p.tables e below _ (T466.setTop (mkF m 18 #[.val (.int p1), .val (.int p2), .val (.int p3), .val (.int p4), .val (.ref a1), .unset, .unset, .unset, .unset, .unset, .unset] []))
  refine own_go (fun _ kont => XS.iloadN X466.here hx rfl (hb hby at_18) rfl kont) ?_
  show own_Go p.tables e below _ (T466.setTop (mkF m 19 #[.val (.int p1), .val (.int p2), .val (.int p3), .val (.int p4), .val (.ref a1), .unset, .unset, .unset, .unset, .unset, .unset] [(.int p2)]))
  refine own_go (fun _ kont => XS.aload X466.here hx rfl (hb hby at_19) rfl rfl kont) ?_
  show own_Go p.tables e below _ (T466.setTop (mkF m 21 #[.val (.int p1), .val (.int p2), .val (.int p3), .val (.int p4), .val (.ref a1), .unset, .unset, .unset, .unset, .unset, .unset] [(.ref a1), (.int p2)]))
  refine own_callSW X466 hS (Nat.le_refl _) hx hZ (y := (⟨"com/example/nashwaak/nashwaak/terms/CompoundIsWrittenGroundPinLaw", "leaf", "(ILcom/example/nashwaak/nashwaak/terms/Atom;)Lcom/example/nashwaak/nashwaak/terms/Term;"⟩ : MethodName)) (argsL := [(.int p2), (.ref a1)]) (rest := []) (W := 0) hown (hw _ (List.mem_of_getElem? (i := 48) rfl)) (hw _ (List.mem_of_getElem? (i := 49) rfl)) (hw _ (List.mem_of_getElem? (i := 50) rfl)) (hw _ (List.mem_of_getElem? (i := 51) rfl)) (by decide) (own_rm9 l Z a0 hw p2 a1 T466.heap n0 Z469 E_a1_467) rfl (by decide) (by decide) (by decide) (by decide) (by rw [hml]; rfl) (lenOf own_pd__ILcom_example_nashwaak_nashwaak_terms_Atom__Lcom_example_nashwaak_nashwaak_terms_Term_ rfl) rfl (Nat.le_of_eq rfl) (hb hby at_21) ?_
  rintro _ T470 L470 X470 hS hZ hown ⟨r470, rfl, M470, N470, K470⟩
  have NA470 := Fr.app NA466 N470
  have E_a1_471 : Exa Z T470.heap a1 "com/example/nashwaak/nashwaak/terms/Atom" := Exa.keep E_a1_467 K470
  have Z472 : n0 ≤ T470.heap.size := Nat.le_trans Z469 K470.1
  show own_Go p.tables e below _ (T470.setTop (mkF m 24 #[.val (.int p1), .val (.int p2), .val (.int p3), .val (.int p4), .val (.ref a1), .unset, .unset, .unset, .unset, .unset, .unset] [(.ref r470)]))
  refine own_go (fun _ kont => XS.astore X470.here hx rfl (hb hby at_24) rfl rfl (l' := #[.val (.int p1), .val (.int p2), .val (.int p3), .val (.int p4), .val (.ref a1), .val (.ref r470), .unset, .unset, .unset, .unset, .unset]) rfl kont) ?_
  show own_Go p.tables e below _ (T470.setTop (mkF m 26 #[.val (.int p1), .val (.int p2), .val (.int p3), .val (.int p4), .val (.ref a1), .val (.ref r470), .unset, .unset, .unset, .unset, .unset] []))
  refine own_go (fun _ kont => XS.iloadN X470.here hx rfl (hb hby at_26) rfl kont) ?_
  show own_Go p.tables e below _ (T470.setTop (mkF m 27 #[.val (.int p1), .val (.int p2), .val (.int p3), .val (.int p4), .val (.ref a1), .val (.ref r470), .unset, .unset, .unset, .unset, .unset] [(.int p3)]))
  refine own_go (fun _ kont => XS.aload X470.here hx rfl (hb hby at_27) rfl rfl kont) ?_
  show own_Go p.tables e below _ (T470.setTop (mkF m 29 #[.val (.int p1), .val (.int p2), .val (.int p3), .val (.int p4), .val (.ref a1), .val (.ref r470), .unset, .unset, .unset, .unset, .unset] [(.ref a1), (.int p3)]))
  refine own_callSW X470 hS (Nat.le_refl _) hx hZ (y := (⟨"com/example/nashwaak/nashwaak/terms/CompoundIsWrittenGroundPinLaw", "leaf", "(ILcom/example/nashwaak/nashwaak/terms/Atom;)Lcom/example/nashwaak/nashwaak/terms/Term;"⟩ : MethodName)) (argsL := [(.int p3), (.ref a1)]) (rest := []) (W := 0) hown (hw _ (List.mem_of_getElem? (i := 48) rfl)) (hw _ (List.mem_of_getElem? (i := 49) rfl)) (hw _ (List.mem_of_getElem? (i := 50) rfl)) (hw _ (List.mem_of_getElem? (i := 51) rfl)) (by decide) (own_rm9 l Z a0 hw p3 a1 T470.heap n0 Z472 E_a1_471) rfl (by decide) (by decide) (by decide) (by decide) (by rw [hml]; rfl) (lenOf own_pd__ILcom_example_nashwaak_nashwaak_terms_Atom__Lcom_example_nashwaak_nashwaak_terms_Term_ rfl) rfl (Nat.le_of_eq rfl) (hb hby at_29) ?_
  rintro _ T473 L473 X473 hS hZ hown ⟨r473, rfl, M473, N473, K473⟩
  have NA473 := Fr.app NA470 N473
  have E_a1_474 : Exa Z T473.heap a1 "com/example/nashwaak/nashwaak/terms/Atom" := Exa.keep E_a1_471 K473
  have T_x_475 : own_Tm Z T473.heap r470 (own_lg p2) := own_Tm.keep M470 K473 nin0
  have Z476 : n0 ≤ T473.heap.size := Nat.le_trans Z472 K473.1
  show own_Go p.tables e below _ (T473.setTop (mkF m 32 #[.val (.int p1), .val (.int p2), .val (.int p3), .val (.int p4), .val (.ref a1), .val (.ref r470), .unset, .unset, .unset, .unset, .unset] [(.ref r473)]))
  refine own_go (fun _ kont => XS.astore X473.here hx rfl (hb hby at_32) rfl rfl (l' := #[.val (.int p1), .val (.int p2), .val (.int p3), .val (.int p4), .val (.ref a1), .val (.ref r470), .val (.ref r473), .unset, .unset, .unset, .unset]) rfl kont) ?_
  show own_Go p.tables e below _ (T473.setTop (mkF m 34 #[.val (.int p1), .val (.int p2), .val (.int p3), .val (.int p4), .val (.ref a1), .val (.ref r470), .val (.ref r473), .unset, .unset, .unset, .unset] []))
  refine own_go (fun _ kont => XS.iloadN X473.here hx rfl (hb hby at_34) rfl kont) ?_
  show own_Go p.tables e below _ (T473.setTop (mkF m 35 #[.val (.int p1), .val (.int p2), .val (.int p3), .val (.int p4), .val (.ref a1), .val (.ref r470), .val (.ref r473), .unset, .unset, .unset, .unset] [(.int p1)]))
  refine own_go (fun _ kont => XS.iconst X473.here hx rfl (hb hby at_35) kont) ?_
  show own_Go p.tables e below _ (T473.setTop (mkF m 36 #[.val (.int p1), .val (.int p2), .val (.int p3), .val (.int p4), .val (.ref a1), .val (.ref r470), .val (.ref r473), .unset, .unset, .unset, .unset] [(.int (3 : Int32)), (.int p1)]))
  refine own_go (fun _ kont => XS.iand X473.here hx rfl (hb hby at_36) rfl kont) ?_
  show own_Go p.tables e below _ (T473.setTop (mkF m 37 #[.val (.int p1), .val (.int p2), .val (.int p3), .val (.int p4), .val (.ref a1), .val (.ref r470), .val (.ref r473), .unset, .unset, .unset, .unset] [(.int (p1 &&& (3 : Int32)))]))
  refine own_go (fun _ kont => XS.istore X473.here hx rfl (hb hby at_37) rfl (l' := #[.val (.int p1), .val (.int p2), .val (.int p3), .val (.int p4), .val (.ref a1), .val (.ref r470), .val (.ref r473), .val (.int (p1 &&& (3 : Int32))), .unset, .unset, .unset]) rfl kont) ?_
  show own_Go p.tables e below _ (T473.setTop (mkF m 39 #[.val (.int p1), .val (.int p2), .val (.int p3), .val (.int p4), .val (.ref a1), .val (.ref r470), .val (.ref r473), .val (.int (p1 &&& (3 : Int32))), .unset, .unset, .unset] []))
  refine own_go (fun _ kont => XS.iload X473.here hx rfl (hb hby at_39) rfl kont) ?_
  show own_Go p.tables e below _ (T473.setTop (mkF m 41 #[.val (.int p1), .val (.int p2), .val (.int p3), .val (.int p4), .val (.ref a1), .val (.ref r470), .val (.ref r473), .val (.int (p1 &&& (3 : Int32))), .unset, .unset, .unset] [(.int (p1 &&& (3 : Int32)))]))
  have c170 : ∀ (tm : Addr) (bb : Bool) (z9 : Int32) (o10 : Slot) (h477 : Heap) (T477 : State) (Lc477 : List Loc) (vm477 : Vm) (kq477 : Nat), (TT : own_Tm Z h477 tm bb) → (ZZ : n0 ≤ h477.size) → (hz : own_bi bb = z9) → Stand p l e room_1 (s.setVm vm477) m #[(.int p1), (.int p2), (.int p3), (.int p4)] below meth c T477 Lc477 42 203 → s.Since vm477 kq477 → kq477 ≤ h477.size → Z.Warmed39 (s.setVm vm477).vm → (s.setVm vm477).vm.findClass "com/example/nashwaak/nashwaak/terms/CompoundIsWrittenGroundPinLaw" = some m.cls → Fr n0 Lc477 → T477.heap = h477 → own_Go p.tables e below (own_FinW s below (fun v h L => v = some (.int 1) ∧ Fr n0 L) room_1.cells room_1.slots) (T477.setTop (mkF m 170 #[.val (.int p1), .val (.int p2), .val (.int p3), .val (.int p4), .val (.ref a1), .val (.ref r470), .val (.ref r473), .val (.int (p1 &&& (3 : Int32))), .val (.ref tm), .val (.int z9), o10] [])) := by
    intro tm bb z9 o10 h477 T477 Lc477 vm477 kq477 TT ZZ hz X477 hS hk hZ hown N477 e477
    refine own_go (fun _ kont => XS.aload X477.here hx rfl (hb hby at_170) rfl rfl kont) ?_
    show own_Go p.tables e below _ (T477.setTop (mkF m 172 #[.val (.int p1), .val (.int p2), .val (.int p3), .val (.int p4), .val (.ref a1), .val (.ref r470), .val (.ref r473), .val (.int (p1 &&& (3 : Int32))), .val (.ref tm), .val (.int z9), o10] [(.ref tm)]))
    refine own_callS X477 hx hZ (y := (⟨"com/example/nashwaak/nashwaak/terms/Compound", "isWrittenGround", "(Lcom/example/nashwaak/nashwaak/terms/Term;)Z"⟩ : MethodName)) (argsL := [(.ref tm)]) (rest := []) (W := 0) hown (hw _ (List.mem_of_getElem? (i := 118) rfl)) (hw _ (List.mem_of_getElem? (i := 82) rfl)) (hw _ (List.mem_of_getElem? (i := 54) rfl)) (hw _ (List.mem_of_getElem? (i := 83) rfl)) (by decide) (own_rm12 l Z a0 hw tm h477 n0 ZZ bb TT) e477 (by decide) (by decide) (by decide) (by decide) (by rw [hml]; rfl) (lenOf own_pd__Lcom_example_nashwaak_nashwaak_terms_Term__Z rfl) rfl (Nat.le_of_eq rfl) (hb hby at_172) ?_
    rintro _ T478 L478 X478 ⟨rfl, N478, e478⟩
    have NA478 := Fr.app N477 N478
    show own_Go p.tables e below _ (T478.setTop (mkF m 175 #[.val (.int p1), .val (.int p2), .val (.int p3), .val (.int p4), .val (.ref a1), .val (.ref r470), .val (.ref r473), .val (.int (p1 &&& (3 : Int32))), .val (.ref tm), .val (.int z9), o10] [(.int (own_bi bb))]))
    refine own_go (fun _ kont => XS.iload X478.here hx rfl (hb hby at_175) rfl kont) ?_
    show own_Go p.tables e below _ (T478.setTop (mkF m 177 #[.val (.int p1), .val (.int p2), .val (.int p3), .val (.int p4), .val (.ref a1), .val (.ref r470), .val (.ref r473), .val (.int (p1 &&& (3 : Int32))), .val (.ref tm), .val (.int z9), o10] [(.int z9), (.int (own_bi bb))]))
    refine own_go (fun _ kont => XS.icmpNo X478.here hx rfl (hb hby at_177) rfl (XT.ii_ne_f (hz)) kont) ?_
    show own_Go p.tables e below _ (T478.setTop (mkF m 180 #[.val (.int p1), .val (.int p2), .val (.int p3), .val (.int p4), .val (.ref a1), .val (.ref r470), .val (.ref r473), .val (.int (p1 &&& (3 : Int32))), .val (.ref tm), .val (.int z9), o10] []))
    refine own_go (fun _ kont => XS.iconst X478.here hx rfl (hb hby at_180) kont) ?_
    show own_Go p.tables e below _ (T478.setTop (mkF m 181 #[.val (.int p1), .val (.int p2), .val (.int p3), .val (.int p4), .val (.ref a1), .val (.ref r470), .val (.ref r473), .val (.int (p1 &&& (3 : Int32))), .val (.ref tm), .val (.int z9), o10] [(.int (1 : Int32))]))
    refine own_go (fun _ kont => XS.goto X478.here hx rfl (pc0 := 181) (pc' := 185) rfl (hb hby at_181) (by decide) (by decide) kont) ?_
    show own_Go p.tables e below _ (T478.setTop (mkF m 185 #[.val (.int p1), .val (.int p2), .val (.int p3), .val (.int p4), .val (.ref a1), .val (.ref r470), .val (.ref r473), .val (.int (p1 &&& (3 : Int32))), .val (.ref tm), .val (.int z9), o10] [(.int (1 : Int32))]))
    exact own_retIW X478 hS hk e478 hx hlk hret (by simp) rfl (hb hby at_185) (⟨rfl, NA478⟩) (by decide) (by decide)
  by_cases d0 : (p1 &&& (3 : Int32)) = 0
  · skip
    refine own_go (fun _ kont => XS.ifNo X473.here hx rfl (hb hby at_41) rfl (XT.i0_ne_f (d0)) kont) ?_
    show own_Go p.tables e below _ (T473.setTop (mkF m 44 #[.val (.int p1), .val (.int p2), .val (.int p3), .val (.int p4), .val (.ref a1), .val (.ref r470), .val (.ref r473), .val (.int (p1 &&& (3 : Int32))), .unset, .unset, .unset] []))
    refine own_go (fun _ kont => XS.aload X473.here hx rfl (hb hby at_44) rfl rfl kont) ?_
    show own_Go p.tables e below _ (T473.setTop (mkF m 46 #[.val (.int p1), .val (.int p2), .val (.int p3), .val (.int p4), .val (.ref a1), .val (.ref r470), .val (.ref r473), .val (.int (p1 &&& (3 : Int32))), .unset, .unset, .unset] [(.ref r470)]))
    refine own_go (fun _ kont => XS.astore X473.here hx rfl (hb hby at_46) rfl rfl (l' := #[.val (.int p1), .val (.int p2), .val (.int p3), .val (.int p4), .val (.ref a1), .val (.ref r470), .val (.ref r473), .val (.int (p1 &&& (3 : Int32))), .val (.ref r470), .unset, .unset]) rfl kont) ?_
    show own_Go p.tables e below _ (T473.setTop (mkF m 48 #[.val (.int p1), .val (.int p2), .val (.int p3), .val (.int p4), .val (.ref a1), .val (.ref r470), .val (.ref r473), .val (.int (p1 &&& (3 : Int32))), .val (.ref r470), .unset, .unset] []))
    refine own_go (fun _ kont => XS.iloadN X473.here hx rfl (hb hby at_48) rfl kont) ?_
    show own_Go p.tables e below _ (T473.setTop (mkF m 49 #[.val (.int p1), .val (.int p2), .val (.int p3), .val (.int p4), .val (.ref a1), .val (.ref r470), .val (.ref r473), .val (.int (p1 &&& (3 : Int32))), .val (.ref r470), .unset, .unset] [(.int p2)]))
    refine own_callS X473 hx hZ (y := (⟨"com/example/nashwaak/nashwaak/terms/CompoundIsWrittenGroundPinLaw", "leafGround", "(I)Z"⟩ : MethodName)) (argsL := [(.int p2)]) (rest := []) (W := 0) hown (hw _ (List.mem_of_getElem? (i := 115) rfl)) (hw _ (List.mem_of_getElem? (i := 116) rfl)) (hw _ (List.mem_of_getElem? (i := 50) rfl)) (hw _ (List.mem_of_getElem? (i := 117) rfl)) (by decide) (own_rm16 l Z a0 hw p2 T473.heap n0 Z476) rfl (by decide) (by decide) (by decide) (by decide) (by rw [hml]; rfl) (lenOf own_pd__I_Z rfl) rfl (Nat.le_of_eq rfl) (hb hby at_49) ?_
    rintro _ T479 L479 X479 ⟨rfl, N479, e479⟩
    have NA479 := Fr.app NA473 N479
    show own_Go p.tables e below _ (T479.setTop (mkF m 52 #[.val (.int p1), .val (.int p2), .val (.int p3), .val (.int p4), .val (.ref a1), .val (.ref r470), .val (.ref r473), .val (.int (p1 &&& (3 : Int32))), .val (.ref r470), .unset, .unset] [(.int (own_bi (own_lg p2)))]))
    refine own_go (fun _ kont => XS.istore X479.here hx rfl (hb hby at_52) rfl (l' := #[.val (.int p1), .val (.int p2), .val (.int p3), .val (.int p4), .val (.ref a1), .val (.ref r470), .val (.ref r473), .val (.int (p1 &&& (3 : Int32))), .val (.ref r470), .val (.int (own_bi (own_lg p2))), .unset]) rfl kont) ?_
    show own_Go p.tables e below _ (T479.setTop (mkF m 54 #[.val (.int p1), .val (.int p2), .val (.int p3), .val (.int p4), .val (.ref a1), .val (.ref r470), .val (.ref r473), .val (.int (p1 &&& (3 : Int32))), .val (.ref r470), .val (.int (own_bi (own_lg p2))), .unset] []))
    refine own_go (fun _ kont => XS.goto X479.here hx rfl (pc0 := 54) (pc' := 170) rfl (hb hby at_54) (by decide) (by decide) kont) ?_
    show own_Go p.tables e below _ (T479.setTop (mkF m 170 #[.val (.int p1), .val (.int p2), .val (.int p3), .val (.int p4), .val (.ref a1), .val (.ref r470), .val (.ref r473), .val (.int (p1 &&& (3 : Int32))), .val (.ref r470), .val (.int (own_bi (own_lg p2))), .unset] []))
    exact c170 r470 (own_lg p2) _ _ _ _ _ _ _ (T_x_475) Z476 (rfl) (X479.mono (by decide) (by decide)) hS (Nat.le_refl _) hZ hown NA479 e479
  · skip
    refine own_go (fun _ kont => XS.ifYes X473.here hx rfl (pc0 := 41) (pc' := 57) rfl (hb hby at_41) rfl (XT.i0_ne_t (d0)) (by decide) (by decide) kont) ?_
    show own_Go p.tables e below _ (T473.setTop (mkF m 57 #[.val (.int p1), .val (.int p2), .val (.int p3), .val (.int p4), .val (.ref a1), .val (.ref r470), .val (.ref r473), .val (.int (p1 &&& (3 : Int32))), .unset, .unset, .unset] []))
    refine own_go (fun _ kont => XS.iload X473.here hx rfl (hb hby at_57) rfl kont) ?_
    show own_Go p.tables e below _ (T473.setTop (mkF m 59 #[.val (.int p1), .val (.int p2), .val (.int p3), .val (.int p4), .val (.ref a1), .val (.ref r470), .val (.ref r473), .val (.int (p1 &&& (3 : Int32))), .unset, .unset, .unset] [(.int (p1 &&& (3 : Int32)))]))
    refine own_go (fun _ kont => XS.iconst X473.here hx rfl (hb hby at_59) kont) ?_
    show own_Go p.tables e below _ (T473.setTop (mkF m 60 #[.val (.int p1), .val (.int p2), .val (.int p3), .val (.int p4), .val (.ref a1), .val (.ref r470), .val (.ref r473), .val (.int (p1 &&& (3 : Int32))), .unset, .unset, .unset] [(.int (1 : Int32)), (.int (p1 &&& (3 : Int32)))]))
    by_cases d1 : (p1 &&& (3 : Int32)) = (1 : Int32)
    · skip
      refine own_go (fun _ kont => XS.icmpNo X473.here hx rfl (hb hby at_60) rfl (XT.ii_ne_f (d1)) kont) ?_
      show own_Go p.tables e below _ (T473.setTop (mkF m 63 #[.val (.int p1), .val (.int p2), .val (.int p3), .val (.int p4), .val (.ref a1), .val (.ref r470), .val (.ref r473), .val (.int (p1 &&& (3 : Int32))), .unset, .unset, .unset] []))
      obtain ⟨T480, h480, X480, e480, E480, A480, D480, -, st480⟩ := newO X473 hx hZ hown (hw _ (List.mem_of_getElem? (i := 52) rfl)) (hw _ (List.mem_of_getElem? (i := 53) rfl)) (hw _ (List.mem_of_getElem? (i := 54) rfl)) rfl (g := (mkF m 63 #[.val (.int p1), .val (.int p2), .val (.int p3), .val (.int p4), .val (.ref a1), .val (.ref r470), .val (.ref r473), .val (.int (p1 &&& (3 : Int32))), .unset, .unset, .unset] [])) rfl (hb hby at_63) (by decide) (by decide)
      obtain ⟨c1, g480⟩ : ∃ z, z = T473.heap.size := ⟨_, rfl⟩
      rw [← g480] at A480 D480 st480
      have ne481 : a1 ≠ c1 := by rw [g480]; exact Nat.ne_of_lt E_a1_474.lt
      have ne482 : r470 ≠ c1 := by rw [g480]; exact Nat.ne_of_lt T_x_475.lt
      have ne483 : r473 ≠ c1 := by rw [g480]; exact Nat.ne_of_lt M473.lt
      have ge_c1 : n0 ≤ c1 := by rw [g480]; exact Z476
      have E_a1_484 : Exa Z h480 a1 "com/example/nashwaak/nashwaak/terms/Atom" := Exa.ext E480 E_a1_474
      have T_x_485 : own_Tm Z h480 r470 (own_lg p2) := own_Tm.ext E480 T_x_475
      have T_y_486 : own_Tm Z h480 r473 (own_lg p3) := own_Tm.ext E480 M473
      have Z487 : n0 ≤ h480.size := Nat.le_trans Z476 E480.1
      have hk487 := Nat.le_trans (Nat.le_refl _) E480.1
      have E_c1_488 : Exa Z h480 c1 "com/example/nashwaak/nashwaak/terms/Compound" := A480
      have F_c1_name_489 : Fld Z h480 c1 "com/example/nashwaak/nashwaak/terms/Compound" "name" "Ljava/lang/String;" (.null) := D480 (Or.inr (hw _ (List.mem_of_getElem? (i := 78) rfl))) (ty := (.object "java/lang/String")) (by decide)
      have F_c1_args_490 : Fld Z h480 c1 "com/example/nashwaak/nashwaak/terms/Compound" "args" "[Lcom/example/nashwaak/nashwaak/terms/Term;" (.null) := D480 (Or.inr (hw _ (List.mem_of_getElem? (i := 80) rfl))) (ty := (.array (.object "com/example/nashwaak/nashwaak/terms/Term"))) (by decide)
      have F_c1_ground_491 : Fld Z h480 c1 "com/example/nashwaak/nashwaak/terms/Compound" "ground" "Z" (.int (0 : Int32)) := D480 (Or.inr (hw _ (List.mem_of_getElem? (i := 90) rfl))) (ty := .boolean) (by decide)
      refine own_go st480 ?_
      show own_Go p.tables e below _ (T480.setTop (mkF m 66 #[.val (.int p1), .val (.int p2), .val (.int p3), .val (.int p4), .val (.ref a1), .val (.ref r470), .val (.ref r473), .val (.int (p1 &&& (3 : Int32))), .unset, .unset, .unset] [(.ref c1)]))
      refine own_go (fun _ kont => XS.dup X480.here hx rfl (hb hby at_66) rfl rfl kont) ?_
      show own_Go p.tables e below _ (T480.setTop (mkF m 67 #[.val (.int p1), .val (.int p2), .val (.int p3), .val (.int p4), .val (.ref a1), .val (.ref r470), .val (.ref r473), .val (.int (p1 &&& (3 : Int32))), .unset, .unset, .unset] [(.ref c1), (.ref c1)]))
      obtain ⟨u492, T492, h492, kz492, X492, e492, E492, hS, hk, hZ, hown, st492⟩ := ldcS X480 hx hZ hown (hw _ (List.mem_of_getElem? (i := 124) rfl)) wS e480 hS hk487 (g := (mkF m 67 #[.val (.int p1), .val (.int p2), .val (.int p3), .val (.int p4), .val (.ref a1), .val (.ref r470), .val (.ref r473), .val (.int (p1 &&& (3 : Int32))), .unset, .unset, .unset] [(.ref c1), (.ref c1)])) rfl (hb hby at_67) (n := 4) (by decide) (by decide) (by decide) (by decide)
      have E_a1_493 : Exa Z h492 a1 "com/example/nashwaak/nashwaak/terms/Atom" := Exa.ext E492 E_a1_484
      have T_x_494 : own_Tm Z h492 r470 (own_lg p2) := own_Tm.ext E492 T_x_485
      have T_y_495 : own_Tm Z h492 r473 (own_lg p3) := own_Tm.ext E492 T_y_486
      have E_c1_496 : Exa Z h492 c1 "com/example/nashwaak/nashwaak/terms/Compound" := Exa.ext E492 E_c1_488
      have F_c1_name_497 : Fld Z h492 c1 "com/example/nashwaak/nashwaak/terms/Compound" "name" "Ljava/lang/String;" (.null) := Fld.ext E492 F_c1_name_489
      have F_c1_args_498 : Fld Z h492 c1 "com/example/nashwaak/nashwaak/terms/Compound" "args" "[Lcom/example/nashwaak/nashwaak/terms/Term;" (.null) := Fld.ext E492 F_c1_args_490
      have F_c1_ground_499 : Fld Z h492 c1 "com/example/nashwaak/nashwaak/terms/Compound" "ground" "Z" (.int (0 : Int32)) := Fld.ext E492 F_c1_ground_491
      have Z500 : n0 ≤ h492.size := Nat.le_trans Z487 E492.1
      refine own_go st492 ?_
      show own_Go p.tables e below _ (T492.setTop (mkF m 69 #[.val (.int p1), .val (.int p2), .val (.int p3), .val (.int p4), .val (.ref a1), .val (.ref r470), .val (.ref r473), .val (.int (p1 &&& (3 : Int32))), .unset, .unset, .unset] [(.ref u492), (.ref c1), (.ref c1)]))
      refine own_go (fun _ kont => XS.iconst X492.here hx rfl (hb hby at_69) kont) ?_
      show own_Go p.tables e below _ (T492.setTop (mkF m 70 #[.val (.int p1), .val (.int p2), .val (.int p3), .val (.int p4), .val (.ref a1), .val (.ref r470), .val (.ref r473), .val (.int (p1 &&& (3 : Int32))), .unset, .unset, .unset] [(.int (2 : Int32)), (.ref u492), (.ref c1), (.ref c1)]))
      obtain ⟨T501, h501, cA501, X501, e501, E501, A501, B501, O501, st501⟩ := newRE X492 hx hZ hown (hw _ (List.mem_of_getElem? (i := 56) rfl)) (hw _ (List.mem_of_getElem? (i := 57) rfl)) e492 (g := (mkF m 70 #[.val (.int p1), .val (.int p2), .val (.int p3), .val (.int p4), .val (.ref a1), .val (.ref r470), .val (.ref r473), .val (.int (p1 &&& (3 : Int32))), .unset, .unset, .unset] [(.int (2 : Int32)), (.ref u492), (.ref c1), (.ref c1)])) rfl (hb hby at_70) rfl (by decide) (cap := 2) (by decide) (by decide) (by decide) (by decide) rfl
      obtain ⟨q1, g501⟩ : ∃ z, z = h492.size := ⟨_, rfl⟩
      rw [← g501] at A501 B501 st501
      have ne502 : a1 ≠ q1 := by rw [g501]; exact Nat.ne_of_lt E_a1_493.lt
      have ne503 : r470 ≠ q1 := by rw [g501]; exact Nat.ne_of_lt T_x_494.lt
      have ne504 : r473 ≠ q1 := by rw [g501]; exact Nat.ne_of_lt T_y_495.lt
      have ne505 : c1 ≠ q1 := by rw [g501]; exact Nat.ne_of_lt E_c1_496.lt
      have ge_q1 : n0 ≤ q1 := by rw [g501]; exact Z500
      have E_a1_506 : Exa Z h501 a1 "com/example/nashwaak/nashwaak/terms/Atom" := Exa.ext E501 E_a1_493
      have T_x_507 : own_Tm Z h501 r470 (own_lg p2) := own_Tm.ext E501 T_x_494
      have T_y_508 : own_Tm Z h501 r473 (own_lg p3) := own_Tm.ext E501 T_y_495
      have E_c1_509 : Exa Z h501 c1 "com/example/nashwaak/nashwaak/terms/Compound" := Exa.ext E501 E_c1_496
      have F_c1_name_510 : Fld Z h501 c1 "com/example/nashwaak/nashwaak/terms/Compound" "name" "Ljava/lang/String;" (.null) := Fld.ext E501 F_c1_name_497
      have F_c1_args_511 : Fld Z h501 c1 "com/example/nashwaak/nashwaak/terms/Compound" "args" "[Lcom/example/nashwaak/nashwaak/terms/Term;" (.null) := Fld.ext E501 F_c1_args_498
      have F_c1_ground_512 : Fld Z h501 c1 "com/example/nashwaak/nashwaak/terms/Compound" "ground" "Z" (.int (0 : Int32)) := Fld.ext E501 F_c1_ground_499
      have Z513 : n0 ≤ h501.size := Nat.le_trans Z500 E501.1
      have hk513 := Nat.le_trans hk E501.1
      have E_q1_514 : Exa Z h501 q1 "[Lcom/example/nashwaak/nashwaak/terms/Term;" := B501
      have V_q1_515 : own_Av Z h501 q1 cA501 (.object "com/example/nashwaak/nashwaak/terms/Term") 2 (fun _ => Value.null) := own_Av.new (ty := (.object "com/example/nashwaak/nashwaak/terms/Term")) A501 (by decide)
      refine own_go st501 ?_
      show own_Go p.tables e below _ (T501.setTop (mkF m 73 #[.val (.int p1), .val (.int p2), .val (.int p3), .val (.int p4), .val (.ref a1), .val (.ref r470), .val (.ref r473), .val (.int (p1 &&& (3 : Int32))), .unset, .unset, .unset] [(.ref q1), (.ref u492), (.ref c1), (.ref c1)]))
      have OV501 := O501
      refine own_go (fun _ kont => XS.dup X501.here hx rfl (hb hby at_73) rfl rfl kont) ?_
      show own_Go p.tables e below _ (T501.setTop (mkF m 74 #[.val (.int p1), .val (.int p2), .val (.int p3), .val (.int p4), .val (.ref a1), .val (.ref r470), .val (.ref r473), .val (.int (p1 &&& (3 : Int32))), .unset, .unset, .unset] [(.ref q1), (.ref q1), (.ref u492), (.ref c1), (.ref c1)]))
      refine own_go (fun _ kont => XS.iconst X501.here hx rfl (hb hby at_74) kont) ?_
      show own_Go p.tables e below _ (T501.setTop (mkF m 75 #[.val (.int p1), .val (.int p2), .val (.int p3), .val (.int p4), .val (.ref a1), .val (.ref r470), .val (.ref r473), .val (.int (p1 &&& (3 : Int32))), .unset, .unset, .unset] [(.int (0 : Int32)), (.ref q1), (.ref q1), (.ref u492), (.ref c1), (.ref c1)]))
      refine own_go (fun _ kont => XS.aload X501.here hx rfl (hb hby at_75) rfl rfl kont) ?_
      show own_Go p.tables e below _ (T501.setTop (mkF m 77 #[.val (.int p1), .val (.int p2), .val (.int p3), .val (.int p4), .val (.ref a1), .val (.ref r470), .val (.ref r473), .val (.int (p1 &&& (3 : Int32))), .unset, .unset, .unset] [(.ref r470), (.int (0 : Int32)), (.ref q1), (.ref q1), (.ref u492), (.ref c1), (.ref c1)]))
      refine own_aast X501 hx hZ e501 V_q1_515 rfl (own_sto hw V_q1_515 OV501 T_x_507) 0 (by decide) (by decide) (by decide) (hb hby at_77) ?_
      intro T516 h516 X516 e516 W516
      have E_a1_517 : Exa Z h516 a1 "com/example/nashwaak/nashwaak/terms/Atom" := Exa.wr W516 E_a1_506
      have T_x_518 : own_Tm Z h516 r470 (own_lg p2) := own_Tm.other W516 T_x_507 ne503
      have T_y_519 : own_Tm Z h516 r473 (own_lg p3) := own_Tm.other W516 T_y_508 ne504
      have E_c1_520 : Exa Z h516 c1 "com/example/nashwaak/nashwaak/terms/Compound" := Exa.wr W516 E_c1_509
      have F_c1_name_521 : Fld Z h516 c1 "com/example/nashwaak/nashwaak/terms/Compound" "name" "Ljava/lang/String;" (.null) := Fld.other W516 F_c1_name_510 (Or.inl ne505)
      have F_c1_args_522 : Fld Z h516 c1 "com/example/nashwaak/nashwaak/terms/Compound" "args" "[Lcom/example/nashwaak/nashwaak/terms/Term;" (.null) := Fld.other W516 F_c1_args_511 (Or.inl ne505)
      have F_c1_ground_523 : Fld Z h516 c1 "com/example/nashwaak/nashwaak/terms/Compound" "ground" "Z" (.int (0 : Int32)) := Fld.other W516 F_c1_ground_512 (Or.inl ne505)
      have E_q1_524 : Exa Z h516 q1 "[Lcom/example/nashwaak/nashwaak/terms/Term;" := Exa.wr W516 E_q1_514
      have V_q1_525 : own_Av Z h516 q1 cA501 (.object "com/example/nashwaak/nashwaak/terms/Term") 2 (fun x => if x = 0 then .ref r470 else (fun _ => Value.null) x) := own_Av.set V_q1_515 W516 (by decide)
      have N526 := Fr.snoc X516 NA473 ge_q1
      have Z526 : n0 ≤ h516.size := by rw [W516.size]; exact Z513
      have hk526 := Nat.le_trans hk513 (Nat.le_of_eq W516.size.symm)
      show own_Go p.tables e below _ (T516.setTop (mkF m 78 #[.val (.int p1), .val (.int p2), .val (.int p3), .val (.int p4), .val (.ref a1), .val (.ref r470), .val (.ref r473), .val (.int (p1 &&& (3 : Int32))), .unset, .unset, .unset] [(.ref q1), (.ref u492), (.ref c1), (.ref c1)]))
      refine own_go (fun _ kont => XS.dup X516.here hx rfl (hb hby at_78) rfl rfl kont) ?_
      show own_Go p.tables e below _ (T516.setTop (mkF m 79 #[.val (.int p1), .val (.int p2), .val (.int p3), .val (.int p4), .val (.ref a1), .val (.ref r470), .val (.ref r473), .val (.int (p1 &&& (3 : Int32))), .unset, .unset, .unset] [(.ref q1), (.ref q1), (.ref u492), (.ref c1), (.ref c1)]))
      refine own_go (fun _ kont => XS.iconst X516.here hx rfl (hb hby at_79) kont) ?_
      show own_Go p.tables e below _ (T516.setTop (mkF m 80 #[.val (.int p1), .val (.int p2), .val (.int p3), .val (.int p4), .val (.ref a1), .val (.ref r470), .val (.ref r473), .val (.int (p1 &&& (3 : Int32))), .unset, .unset, .unset] [(.int (1 : Int32)), (.ref q1), (.ref q1), (.ref u492), (.ref c1), (.ref c1)]))
      refine own_go (fun _ kont => XS.aload X516.here hx rfl (hb hby at_80) rfl rfl kont) ?_
      show own_Go p.tables e below _ (T516.setTop (mkF m 82 #[.val (.int p1), .val (.int p2), .val (.int p3), .val (.int p4), .val (.ref a1), .val (.ref r470), .val (.ref r473), .val (.int (p1 &&& (3 : Int32))), .unset, .unset, .unset] [(.ref r473), (.int (1 : Int32)), (.ref q1), (.ref q1), (.ref u492), (.ref c1), (.ref c1)]))
      refine own_aast X516 hx hZ e516 V_q1_525 rfl (own_sto hw V_q1_525 OV501 T_y_519) 1 (by decide) (by decide) (by decide) (hb hby at_82) ?_
      intro T527 h527 X527 e527 W527
      have E_a1_528 : Exa Z h527 a1 "com/example/nashwaak/nashwaak/terms/Atom" := Exa.wr W527 E_a1_517
      have T_x_529 : own_Tm Z h527 r470 (own_lg p2) := own_Tm.other W527 T_x_518 ne503
      have T_y_530 : own_Tm Z h527 r473 (own_lg p3) := own_Tm.other W527 T_y_519 ne504
      have E_c1_531 : Exa Z h527 c1 "com/example/nashwaak/nashwaak/terms/Compound" := Exa.wr W527 E_c1_520
      have F_c1_name_532 : Fld Z h527 c1 "com/example/nashwaak/nashwaak/terms/Compound" "name" "Ljava/lang/String;" (.null) := Fld.other W527 F_c1_name_521 (Or.inl ne505)
      have F_c1_args_533 : Fld Z h527 c1 "com/example/nashwaak/nashwaak/terms/Compound" "args" "[Lcom/example/nashwaak/nashwaak/terms/Term;" (.null) := Fld.other W527 F_c1_args_522 (Or.inl ne505)
      have F_c1_ground_534 : Fld Z h527 c1 "com/example/nashwaak/nashwaak/terms/Compound" "ground" "Z" (.int (0 : Int32)) := Fld.other W527 F_c1_ground_523 (Or.inl ne505)
      have E_q1_535 : Exa Z h527 q1 "[Lcom/example/nashwaak/nashwaak/terms/Term;" := Exa.wr W527 E_q1_524
      have V_q1_536 : own_Av Z h527 q1 cA501 (.object "com/example/nashwaak/nashwaak/terms/Term") 2 (fun x => if x = 1 then .ref r473 else (fun x => if x = 0 then .ref r470 else (fun _ => Value.null) x) x) := own_Av.set V_q1_525 W527 (by decide)
      have N537 := Fr.snoc X527 N526 ge_q1
      have Z537 : n0 ≤ h527.size := by rw [W527.size]; exact Z526
      have hk537 := Nat.le_trans hk526 (Nat.le_of_eq W527.size.symm)
      show own_Go p.tables e below _ (T527.setTop (mkF m 83 #[.val (.int p1), .val (.int p2), .val (.int p3), .val (.int p4), .val (.ref a1), .val (.ref r470), .val (.ref r473), .val (.int (p1 &&& (3 : Int32))), .unset, .unset, .unset] [(.ref q1), (.ref u492), (.ref c1), (.ref c1)]))
      have Q538 : own_Tms Z h527 2 (fun j => if j = 0 then r470 else r473) (fun j => if j = 0 then (own_lg p2) else (own_lg p3)) := fun j hj => by rcases j with _ | _ | j <;> first | exact T_x_529 | exact T_y_530 | omega
      have R538 : ∀ j, j < 2 → (fun x => if x = 1 then .ref r473 else (fun x => if x = 0 then .ref r470 else (fun _ => Value.null) x) x) j = Value.ref ((fun j => if j = 0 then r470 else r473) j) := fun j hj => by rcases j with _ | _ | j <;> first | rfl | omega
      have U538 : ∀ j, j < 2 → (fun j => if j = 0 then r470 else r473) j ≠ c1 := fun j hj => by rcases j with _ | _ | j <;> first | exact ne482 | exact ne483 | omega
      refine own_callIW X527 hS hk537 hx hZ (y := (⟨"com/example/nashwaak/nashwaak/terms/Compound", "<init>", "(Ljava/lang/String;[Lcom/example/nashwaak/nashwaak/terms/Term;)V"⟩ : MethodName)) (argsL := [(.ref u492), (.ref q1)]) (rest := [(.ref c1)]) (W := 1) hown (hw _ (List.mem_of_getElem? (i := 59) rfl)) (hw _ (List.mem_of_getElem? (i := 60) rfl)) (hw _ (List.mem_of_getElem? (i := 61) rfl)) (hw _ (List.mem_of_getElem? (i := 54) rfl)) rfl (by decide) (own_rm10 l Z a0 hw c1 u492 q1 h527 n0 Z537 2 _ _ (fun j => if j = 0 then r470 else r473) (fun j => if j = 0 then (own_lg p2) else (own_lg p3)) F_c1_name_532 F_c1_args_533 F_c1_ground_534 E_c1_531 ge_c1 V_q1_536 R538 Q538 (by decide) (by decide) (Ne.symm ne505) U538 E_q1_535) e527 (by decide) (by decide) (by decide) (by decide) (by rw [hml]; rfl) (lenOf own_pd__Ljava_lang_String__Lcom_example_nashwaak_nashwaak_terms_Term__V rfl) rfl (Nat.le_of_eq rfl) (hb hby at_83) ?_
      rintro _ T539 L539 X539 hS hZ hown ⟨rfl, N539, K539, M539⟩
      have NA539 := Fr.app N537 N539
      have E_a1_540 : Exa Z T539.heap a1 "com/example/nashwaak/nashwaak/terms/Atom" := Exa.keep E_a1_528 K539
      have T_x_541 : own_Tm Z T539.heap r470 (own_lg p2) := own_Tm.keep T_x_529 K539 (ninS ne482 nin0)
      have T_y_542 : own_Tm Z T539.heap r473 (own_lg p3) := own_Tm.keep T_y_530 K539 (ninS ne483 nin0)
      have E_c1_543 : Exa Z T539.heap c1 "com/example/nashwaak/nashwaak/terms/Compound" := Exa.keep E_c1_531 K539
      have E_q1_544 : Exa Z T539.heap q1 "[Lcom/example/nashwaak/nashwaak/terms/Term;" := Exa.keep E_q1_535 K539
      have V_q1_545 : own_Av Z T539.heap q1 cA501 (.object "com/example/nashwaak/nashwaak/terms/Term") 2 (fun x => if x = 1 then .ref r473 else (fun x => if x = 0 then .ref r470 else (fun _ => Value.null) x) x) := own_Av.keep V_q1_536 K539 (ninS (Ne.symm ne505) nin0)
      have Z546 : n0 ≤ T539.heap.size := Nat.le_trans Z537 K539.1
      show own_Go p.tables e below _ (T539.setTop (mkF m 86 #[.val (.int p1), .val (.int p2), .val (.int p3), .val (.int p4), .val (.ref a1), .val (.ref r470), .val (.ref r473), .val (.int (p1 &&& (3 : Int32))), .unset, .unset, .unset] [(.ref c1)]))
      have MM : own_Tm Z T539.heap c1 (own_lg p2 && own_lg p3) := by have q := M539; simpa [own_all] using q
      refine own_go (fun _ kont => XS.astore X539.here hx rfl (hb hby at_86) rfl rfl (l' := #[.val (.int p1), .val (.int p2), .val (.int p3), .val (.int p4), .val (.ref a1), .val (.ref r470), .val (.ref r473), .val (.int (p1 &&& (3 : Int32))), .val (.ref c1), .unset, .unset]) rfl kont) ?_
      show own_Go p.tables e below _ (T539.setTop (mkF m 88 #[.val (.int p1), .val (.int p2), .val (.int p3), .val (.int p4), .val (.ref a1), .val (.ref r470), .val (.ref r473), .val (.int (p1 &&& (3 : Int32))), .val (.ref c1), .unset, .unset] []))
      refine own_go (fun _ kont => XS.iloadN X539.here hx rfl (hb hby at_88) rfl kont) ?_
      show own_Go p.tables e below _ (T539.setTop (mkF m 89 #[.val (.int p1), .val (.int p2), .val (.int p3), .val (.int p4), .val (.ref a1), .val (.ref r470), .val (.ref r473), .val (.int (p1 &&& (3 : Int32))), .val (.ref c1), .unset, .unset] [(.int p2)]))
      refine own_callS X539 hx hZ (y := (⟨"com/example/nashwaak/nashwaak/terms/CompoundIsWrittenGroundPinLaw", "leafGround", "(I)Z"⟩ : MethodName)) (argsL := [(.int p2)]) (rest := []) (W := 0) hown (hw _ (List.mem_of_getElem? (i := 115) rfl)) (hw _ (List.mem_of_getElem? (i := 116) rfl)) (hw _ (List.mem_of_getElem? (i := 50) rfl)) (hw _ (List.mem_of_getElem? (i := 117) rfl)) (by decide) (own_rm16 l Z a0 hw p2 T539.heap n0 Z546) rfl (by decide) (by decide) (by decide) (by decide) (by rw [hml]; rfl) (lenOf own_pd__I_Z rfl) rfl (Nat.le_of_eq rfl) (hb hby at_89) ?_
      rintro _ T547 L547 X547 ⟨rfl, N547, e547⟩
      have NA547 := Fr.app NA539 N547
      show own_Go p.tables e below _ (T547.setTop (mkF m 92 #[.val (.int p1), .val (.int p2), .val (.int p3), .val (.int p4), .val (.ref a1), .val (.ref r470), .val (.ref r473), .val (.int (p1 &&& (3 : Int32))), .val (.ref c1), .unset, .unset] [(.int (own_bi (own_lg p2)))]))
      cases g2 : own_lg p2 with
      | false =>
        rw [g2] at MM
        show own_Go p.tables e below _ (T547.setTop (mkF m 92 #[.val (.int p1), .val (.int p2), .val (.int p3), .val (.int p4), .val (.ref a1), .val (.ref r470), .val (.ref r473), .val (.int (p1 &&& (3 : Int32))), .val (.ref c1), .unset, .unset] [(.int (0 : Int32))]))
        refine own_go (fun _ kont => XS.ifYes X547.here hx rfl (pc0 := 92) (pc' := 106) rfl (hb hby at_92) rfl (XT.i0_eq_t (rfl)) (by decide) (by decide) kont) ?_
        show own_Go p.tables e below _ (T547.setTop (mkF m 106 #[.val (.int p1), .val (.int p2), .val (.int p3), .val (.int p4), .val (.ref a1), .val (.ref r470), .val (.ref r473), .val (.int (p1 &&& (3 : Int32))), .val (.ref c1), .unset, .unset] []))
        refine own_go (fun _ kont => XS.iconst X547.here hx rfl (hb hby at_106) kont) ?_
        show own_Go p.tables e below _ (T547.setTop (mkF m 107 #[.val (.int p1), .val (.int p2), .val (.int p3), .val (.int p4), .val (.ref a1), .val (.ref r470), .val (.ref r473), .val (.int (p1 &&& (3 : Int32))), .val (.ref c1), .unset, .unset] [(.int (0 : Int32))]))
        refine own_go (fun _ kont => XS.istore X547.here hx rfl (hb hby at_107) rfl (l' := #[.val (.int p1), .val (.int p2), .val (.int p3), .val (.int p4), .val (.ref a1), .val (.ref r470), .val (.ref r473), .val (.int (p1 &&& (3 : Int32))), .val (.ref c1), .val (.int (0 : Int32)), .unset]) rfl kont) ?_
        show own_Go p.tables e below _ (T547.setTop (mkF m 109 #[.val (.int p1), .val (.int p2), .val (.int p3), .val (.int p4), .val (.ref a1), .val (.ref r470), .val (.ref r473), .val (.int (p1 &&& (3 : Int32))), .val (.ref c1), .val (.int (0 : Int32)), .unset] []))
        refine own_go (fun _ kont => XS.goto X547.here hx rfl (pc0 := 109) (pc' := 170) rfl (hb hby at_109) (by decide) (by decide) kont) ?_
        show own_Go p.tables e below _ (T547.setTop (mkF m 170 #[.val (.int p1), .val (.int p2), .val (.int p3), .val (.int p4), .val (.ref a1), .val (.ref r470), .val (.ref r473), .val (.int (p1 &&& (3 : Int32))), .val (.ref c1), .val (.int (0 : Int32)), .unset] []))
        exact c170 c1 (false) _ _ _ _ _ _ _ (by simpa using MM) Z546 (rfl) (X547.mono (by decide) (by decide)) hS (Nat.le_refl _) hZ hown NA547 e547
      | true =>
        rw [g2] at MM
        show own_Go p.tables e below _ (T547.setTop (mkF m 92 #[.val (.int p1), .val (.int p2), .val (.int p3), .val (.int p4), .val (.ref a1), .val (.ref r470), .val (.ref r473), .val (.int (p1 &&& (3 : Int32))), .val (.ref c1), .unset, .unset] [(.int (1 : Int32))]))
        refine own_go (fun _ kont => XS.ifNo X547.here hx rfl (hb hby at_92) rfl (XT.i0_eq_f (by decide)) kont) ?_
        show own_Go p.tables e below _ (T547.setTop (mkF m 95 #[.val (.int p1), .val (.int p2), .val (.int p3), .val (.int p4), .val (.ref a1), .val (.ref r470), .val (.ref r473), .val (.int (p1 &&& (3 : Int32))), .val (.ref c1), .unset, .unset] []))
        refine own_go (fun _ kont => XS.iloadN X547.here hx rfl (hb hby at_95) rfl kont) ?_
        show own_Go p.tables e below _ (T547.setTop (mkF m 96 #[.val (.int p1), .val (.int p2), .val (.int p3), .val (.int p4), .val (.ref a1), .val (.ref r470), .val (.ref r473), .val (.int (p1 &&& (3 : Int32))), .val (.ref c1), .unset, .unset] [(.int p3)]))
        refine own_callS X547 hx hZ (y := (⟨"com/example/nashwaak/nashwaak/terms/CompoundIsWrittenGroundPinLaw", "leafGround", "(I)Z"⟩ : MethodName)) (argsL := [(.int p3)]) (rest := []) (W := 0) hown (hw _ (List.mem_of_getElem? (i := 115) rfl)) (hw _ (List.mem_of_getElem? (i := 116) rfl)) (hw _ (List.mem_of_getElem? (i := 50) rfl)) (hw _ (List.mem_of_getElem? (i := 117) rfl)) (by decide) (own_rm16 l Z a0 hw p3 T539.heap n0 Z546) e547 (by decide) (by decide) (by decide) (by decide) (by rw [hml]; rfl) (lenOf own_pd__I_Z rfl) rfl (Nat.le_of_eq rfl) (hb hby at_96) ?_
        rintro _ T548 L548 X548 ⟨rfl, N548, e548⟩
        have NA548 := Fr.app NA547 N548
        show own_Go p.tables e below _ (T548.setTop (mkF m 99 #[.val (.int p1), .val (.int p2), .val (.int p3), .val (.int p4), .val (.ref a1), .val (.ref r470), .val (.ref r473), .val (.int (p1 &&& (3 : Int32))), .val (.ref c1), .unset, .unset] [(.int (own_bi (own_lg p3)))]))
        cases g3 : own_lg p3 with
        | false =>
          rw [g3] at MM
          show own_Go p.tables e below _ (T548.setTop (mkF m 99 #[.val (.int p1), .val (.int p2), .val (.int p3), .val (.int p4), .val (.ref a1), .val (.ref r470), .val (.ref r473), .val (.int (p1 &&& (3 : Int32))), .val (.ref c1), .unset, .unset] [(.int (0 : Int32))]))
          refine own_go (fun _ kont => XS.ifYes X548.here hx rfl (pc0 := 99) (pc' := 106) rfl (hb hby at_99) rfl (XT.i0_eq_t (rfl)) (by decide) (by decide) kont) ?_
          show own_Go p.tables e below _ (T548.setTop (mkF m 106 #[.val (.int p1), .val (.int p2), .val (.int p3), .val (.int p4), .val (.ref a1), .val (.ref r470), .val (.ref r473), .val (.int (p1 &&& (3 : Int32))), .val (.ref c1), .unset, .unset] []))
          refine own_go (fun _ kont => XS.iconst X548.here hx rfl (hb hby at_106) kont) ?_
          show own_Go p.tables e below _ (T548.setTop (mkF m 107 #[.val (.int p1), .val (.int p2), .val (.int p3), .val (.int p4), .val (.ref a1), .val (.ref r470), .val (.ref r473), .val (.int (p1 &&& (3 : Int32))), .val (.ref c1), .unset, .unset] [(.int (0 : Int32))]))
          refine own_go (fun _ kont => XS.istore X548.here hx rfl (hb hby at_107) rfl (l' := #[.val (.int p1), .val (.int p2), .val (.int p3), .val (.int p4), .val (.ref a1), .val (.ref r470), .val (.ref r473), .val (.int (p1 &&& (3 : Int32))), .val (.ref c1), .val (.int (0 : Int32)), .unset]) rfl kont) ?_
          show own_Go p.tables e below _ (T548.setTop (mkF m 109 #[.val (.int p1), .val (.int p2), .val (.int p3), .val (.int p4), .val (.ref a1), .val (.ref r470), .val (.ref r473), .val (.int (p1 &&& (3 : Int32))), .val (.ref c1), .val (.int (0 : Int32)), .unset] []))
          refine own_go (fun _ kont => XS.goto X548.here hx rfl (pc0 := 109) (pc' := 170) rfl (hb hby at_109) (by decide) (by decide) kont) ?_
          show own_Go p.tables e below _ (T548.setTop (mkF m 170 #[.val (.int p1), .val (.int p2), .val (.int p3), .val (.int p4), .val (.ref a1), .val (.ref r470), .val (.ref r473), .val (.int (p1 &&& (3 : Int32))), .val (.ref c1), .val (.int (0 : Int32)), .unset] []))
          exact c170 c1 (false) _ _ _ _ _ _ _ (by simpa using MM) Z546 (rfl) (X548.mono (by decide) (by decide)) hS (Nat.le_refl _) hZ hown NA548 e548
        | true =>
          rw [g3] at MM
          show own_Go p.tables e below _ (T548.setTop (mkF m 99 #[.val (.int p1), .val (.int p2), .val (.int p3), .val (.int p4), .val (.ref a1), .val (.ref r470), .val (.ref r473), .val (.int (p1 &&& (3 : Int32))), .val (.ref c1), .unset, .unset] [(.int (1 : Int32))]))
          refine own_go (fun _ kont => XS.ifNo X548.here hx rfl (hb hby at_99) rfl (XT.i0_eq_f (by decide)) kont) ?_
          show own_Go p.tables e below _ (T548.setTop (mkF m 102 #[.val (.int p1), .val (.int p2), .val (.int p3), .val (.int p4), .val (.ref a1), .val (.ref r470), .val (.ref r473), .val (.int (p1 &&& (3 : Int32))), .val (.ref c1), .unset, .unset] []))
          refine own_go (fun _ kont => XS.iconst X548.here hx rfl (hb hby at_102) kont) ?_
          show own_Go p.tables e below _ (T548.setTop (mkF m 103 #[.val (.int p1), .val (.int p2), .val (.int p3), .val (.int p4), .val (.ref a1), .val (.ref r470), .val (.ref r473), .val (.int (p1 &&& (3 : Int32))), .val (.ref c1), .unset, .unset] [(.int (1 : Int32))]))
          refine own_go (fun _ kont => XS.goto X548.here hx rfl (pc0 := 103) (pc' := 107) rfl (hb hby at_103) (by decide) (by decide) kont) ?_
          show own_Go p.tables e below _ (T548.setTop (mkF m 107 #[.val (.int p1), .val (.int p2), .val (.int p3), .val (.int p4), .val (.ref a1), .val (.ref r470), .val (.ref r473), .val (.int (p1 &&& (3 : Int32))), .val (.ref c1), .unset, .unset] [(.int (1 : Int32))]))
          refine own_go (fun _ kont => XS.istore X548.here hx rfl (hb hby at_107) rfl (l' := #[.val (.int p1), .val (.int p2), .val (.int p3), .val (.int p4), .val (.ref a1), .val (.ref r470), .val (.ref r473), .val (.int (p1 &&& (3 : Int32))), .val (.ref c1), .val (.int (1 : Int32)), .unset]) rfl kont) ?_
          show own_Go p.tables e below _ (T548.setTop (mkF m 109 #[.val (.int p1), .val (.int p2), .val (.int p3), .val (.int p4), .val (.ref a1), .val (.ref r470), .val (.ref r473), .val (.int (p1 &&& (3 : Int32))), .val (.ref c1), .val (.int (1 : Int32)), .unset] []))
          refine own_go (fun _ kont => XS.goto X548.here hx rfl (pc0 := 109) (pc' := 170) rfl (hb hby at_109) (by decide) (by decide) kont) ?_
          show own_Go p.tables e below _ (T548.setTop (mkF m 170 #[.val (.int p1), .val (.int p2), .val (.int p3), .val (.int p4), .val (.ref a1), .val (.ref r470), .val (.ref r473), .val (.int (p1 &&& (3 : Int32))), .val (.ref c1), .val (.int (1 : Int32)), .unset] []))
          exact c170 c1 (true) _ _ _ _ _ _ _ (by simpa using MM) Z546 (rfl) (X548.mono (by decide) (by decide)) hS (Nat.le_refl _) hZ hown NA548 e548
    · skip
      refine own_go (fun _ kont => XS.icmpYes X473.here hx rfl (pc0 := 60) (pc' := 112) rfl (hb hby at_60) rfl (XT.ii_ne_t (d1)) (by decide) (by decide) kont) ?_
      show own_Go p.tables e below _ (T473.setTop (mkF m 112 #[.val (.int p1), .val (.int p2), .val (.int p3), .val (.int p4), .val (.ref a1), .val (.ref r470), .val (.ref r473), .val (.int (p1 &&& (3 : Int32))), .unset, .unset, .unset] []))
      refine own_go (fun _ kont => XS.iload X473.here hx rfl (hb hby at_112) rfl kont) ?_
      show own_Go p.tables e below _ (T473.setTop (mkF m 114 #[.val (.int p1), .val (.int p2), .val (.int p3), .val (.int p4), .val (.ref a1), .val (.ref r470), .val (.ref r473), .val (.int (p1 &&& (3 : Int32))), .unset, .unset, .unset] [(.int (p1 &&& (3 : Int32)))]))
      refine own_go (fun _ kont => XS.iconst X473.here hx rfl (hb hby at_114) kont) ?_
      show own_Go p.tables e below _ (T473.setTop (mkF m 115 #[.val (.int p1), .val (.int p2), .val (.int p3), .val (.int p4), .val (.ref a1), .val (.ref r470), .val (.ref r473), .val (.int (p1 &&& (3 : Int32))), .unset, .unset, .unset] [(.int (2 : Int32)), (.int (p1 &&& (3 : Int32)))]))
      by_cases d2 : (p1 &&& (3 : Int32)) = (2 : Int32)
      · skip
        refine own_go (fun _ kont => XS.icmpNo X473.here hx rfl (hb hby at_115) rfl (XT.ii_ne_f (d2)) kont) ?_
        show own_Go p.tables e below _ (T473.setTop (mkF m 118 #[.val (.int p1), .val (.int p2), .val (.int p3), .val (.int p4), .val (.ref a1), .val (.ref r470), .val (.ref r473), .val (.int (p1 &&& (3 : Int32))), .unset, .unset, .unset] []))
        obtain ⟨T549, h549, X549, e549, E549, A549, D549, -, st549⟩ := newO X473 hx hZ hown (hw _ (List.mem_of_getElem? (i := 52) rfl)) (hw _ (List.mem_of_getElem? (i := 53) rfl)) (hw _ (List.mem_of_getElem? (i := 54) rfl)) rfl (g := (mkF m 118 #[.val (.int p1), .val (.int p2), .val (.int p3), .val (.int p4), .val (.ref a1), .val (.ref r470), .val (.ref r473), .val (.int (p1 &&& (3 : Int32))), .unset, .unset, .unset] [])) rfl (hb hby at_118) (by decide) (by decide)
        obtain ⟨c1, g549⟩ : ∃ z, z = T473.heap.size := ⟨_, rfl⟩
        rw [← g549] at A549 D549 st549
        have ne550 : a1 ≠ c1 := by rw [g549]; exact Nat.ne_of_lt E_a1_474.lt
        have ne551 : r470 ≠ c1 := by rw [g549]; exact Nat.ne_of_lt T_x_475.lt
        have ne552 : r473 ≠ c1 := by rw [g549]; exact Nat.ne_of_lt M473.lt
        have ge_c1 : n0 ≤ c1 := by rw [g549]; exact Z476
        have E_a1_553 : Exa Z h549 a1 "com/example/nashwaak/nashwaak/terms/Atom" := Exa.ext E549 E_a1_474
        have T_x_554 : own_Tm Z h549 r470 (own_lg p2) := own_Tm.ext E549 T_x_475
        have T_y_555 : own_Tm Z h549 r473 (own_lg p3) := own_Tm.ext E549 M473
        have Z556 : n0 ≤ h549.size := Nat.le_trans Z476 E549.1
        have hk556 := Nat.le_trans (Nat.le_refl _) E549.1
        have E_c1_557 : Exa Z h549 c1 "com/example/nashwaak/nashwaak/terms/Compound" := A549
        have F_c1_name_558 : Fld Z h549 c1 "com/example/nashwaak/nashwaak/terms/Compound" "name" "Ljava/lang/String;" (.null) := D549 (Or.inr (hw _ (List.mem_of_getElem? (i := 78) rfl))) (ty := (.object "java/lang/String")) (by decide)
        have F_c1_args_559 : Fld Z h549 c1 "com/example/nashwaak/nashwaak/terms/Compound" "args" "[Lcom/example/nashwaak/nashwaak/terms/Term;" (.null) := D549 (Or.inr (hw _ (List.mem_of_getElem? (i := 80) rfl))) (ty := (.array (.object "com/example/nashwaak/nashwaak/terms/Term"))) (by decide)
        have F_c1_ground_560 : Fld Z h549 c1 "com/example/nashwaak/nashwaak/terms/Compound" "ground" "Z" (.int (0 : Int32)) := D549 (Or.inr (hw _ (List.mem_of_getElem? (i := 90) rfl))) (ty := .boolean) (by decide)
        refine own_go st549 ?_
        show own_Go p.tables e below _ (T549.setTop (mkF m 121 #[.val (.int p1), .val (.int p2), .val (.int p3), .val (.int p4), .val (.ref a1), .val (.ref r470), .val (.ref r473), .val (.int (p1 &&& (3 : Int32))), .unset, .unset, .unset] [(.ref c1)]))
        refine own_go (fun _ kont => XS.dup X549.here hx rfl (hb hby at_121) rfl rfl kont) ?_
        show own_Go p.tables e below _ (T549.setTop (mkF m 122 #[.val (.int p1), .val (.int p2), .val (.int p3), .val (.int p4), .val (.ref a1), .val (.ref r470), .val (.ref r473), .val (.int (p1 &&& (3 : Int32))), .unset, .unset, .unset] [(.ref c1), (.ref c1)]))
        obtain ⟨u561, T561, h561, kz561, X561, e561, E561, hS, hk, hZ, hown, st561⟩ := ldcS X549 hx hZ hown (hw _ (List.mem_of_getElem? (i := 124) rfl)) wS e549 hS hk556 (g := (mkF m 122 #[.val (.int p1), .val (.int p2), .val (.int p3), .val (.int p4), .val (.ref a1), .val (.ref r470), .val (.ref r473), .val (.int (p1 &&& (3 : Int32))), .unset, .unset, .unset] [(.ref c1), (.ref c1)])) rfl (hb hby at_122) (n := 4) (by decide) (by decide) (by decide) (by decide)
        have E_a1_562 : Exa Z h561 a1 "com/example/nashwaak/nashwaak/terms/Atom" := Exa.ext E561 E_a1_553
        have T_x_563 : own_Tm Z h561 r470 (own_lg p2) := own_Tm.ext E561 T_x_554
        have T_y_564 : own_Tm Z h561 r473 (own_lg p3) := own_Tm.ext E561 T_y_555
        have E_c1_565 : Exa Z h561 c1 "com/example/nashwaak/nashwaak/terms/Compound" := Exa.ext E561 E_c1_557
        have F_c1_name_566 : Fld Z h561 c1 "com/example/nashwaak/nashwaak/terms/Compound" "name" "Ljava/lang/String;" (.null) := Fld.ext E561 F_c1_name_558
        have F_c1_args_567 : Fld Z h561 c1 "com/example/nashwaak/nashwaak/terms/Compound" "args" "[Lcom/example/nashwaak/nashwaak/terms/Term;" (.null) := Fld.ext E561 F_c1_args_559
        have F_c1_ground_568 : Fld Z h561 c1 "com/example/nashwaak/nashwaak/terms/Compound" "ground" "Z" (.int (0 : Int32)) := Fld.ext E561 F_c1_ground_560
        have Z569 : n0 ≤ h561.size := Nat.le_trans Z556 E561.1
        refine own_go st561 ?_
        show own_Go p.tables e below _ (T561.setTop (mkF m 124 #[.val (.int p1), .val (.int p2), .val (.int p3), .val (.int p4), .val (.ref a1), .val (.ref r470), .val (.ref r473), .val (.int (p1 &&& (3 : Int32))), .unset, .unset, .unset] [(.ref u561), (.ref c1), (.ref c1)]))
        refine own_go (fun _ kont => XS.iconst X561.here hx rfl (hb hby at_124) kont) ?_
        show own_Go p.tables e below _ (T561.setTop (mkF m 125 #[.val (.int p1), .val (.int p2), .val (.int p3), .val (.int p4), .val (.ref a1), .val (.ref r470), .val (.ref r473), .val (.int (p1 &&& (3 : Int32))), .unset, .unset, .unset] [(.int (1 : Int32)), (.ref u561), (.ref c1), (.ref c1)]))
        obtain ⟨T570, h570, cA570, X570, e570, E570, A570, B570, O570, st570⟩ := newRE X561 hx hZ hown (hw _ (List.mem_of_getElem? (i := 56) rfl)) (hw _ (List.mem_of_getElem? (i := 57) rfl)) e561 (g := (mkF m 125 #[.val (.int p1), .val (.int p2), .val (.int p3), .val (.int p4), .val (.ref a1), .val (.ref r470), .val (.ref r473), .val (.int (p1 &&& (3 : Int32))), .unset, .unset, .unset] [(.int (1 : Int32)), (.ref u561), (.ref c1), (.ref c1)])) rfl (hb hby at_125) rfl (by decide) (cap := 1) (by decide) (by decide) (by decide) (by decide) rfl
        obtain ⟨q1, g570⟩ : ∃ z, z = h561.size := ⟨_, rfl⟩
        rw [← g570] at A570 B570 st570
        have ne571 : a1 ≠ q1 := by rw [g570]; exact Nat.ne_of_lt E_a1_562.lt
        have ne572 : r470 ≠ q1 := by rw [g570]; exact Nat.ne_of_lt T_x_563.lt
        have ne573 : r473 ≠ q1 := by rw [g570]; exact Nat.ne_of_lt T_y_564.lt
        have ne574 : c1 ≠ q1 := by rw [g570]; exact Nat.ne_of_lt E_c1_565.lt
        have ge_q1 : n0 ≤ q1 := by rw [g570]; exact Z569
        have E_a1_575 : Exa Z h570 a1 "com/example/nashwaak/nashwaak/terms/Atom" := Exa.ext E570 E_a1_562
        have T_x_576 : own_Tm Z h570 r470 (own_lg p2) := own_Tm.ext E570 T_x_563
        have T_y_577 : own_Tm Z h570 r473 (own_lg p3) := own_Tm.ext E570 T_y_564
        have E_c1_578 : Exa Z h570 c1 "com/example/nashwaak/nashwaak/terms/Compound" := Exa.ext E570 E_c1_565
        have F_c1_name_579 : Fld Z h570 c1 "com/example/nashwaak/nashwaak/terms/Compound" "name" "Ljava/lang/String;" (.null) := Fld.ext E570 F_c1_name_566
        have F_c1_args_580 : Fld Z h570 c1 "com/example/nashwaak/nashwaak/terms/Compound" "args" "[Lcom/example/nashwaak/nashwaak/terms/Term;" (.null) := Fld.ext E570 F_c1_args_567
        have F_c1_ground_581 : Fld Z h570 c1 "com/example/nashwaak/nashwaak/terms/Compound" "ground" "Z" (.int (0 : Int32)) := Fld.ext E570 F_c1_ground_568
        have Z582 : n0 ≤ h570.size := Nat.le_trans Z569 E570.1
        have hk582 := Nat.le_trans hk E570.1
        have E_q1_583 : Exa Z h570 q1 "[Lcom/example/nashwaak/nashwaak/terms/Term;" := B570
        have V_q1_584 : own_Av Z h570 q1 cA570 (.object "com/example/nashwaak/nashwaak/terms/Term") 1 (fun _ => Value.null) := own_Av.new (ty := (.object "com/example/nashwaak/nashwaak/terms/Term")) A570 (by decide)
        refine own_go st570 ?_
        show own_Go p.tables e below _ (T570.setTop (mkF m 128 #[.val (.int p1), .val (.int p2), .val (.int p3), .val (.int p4), .val (.ref a1), .val (.ref r470), .val (.ref r473), .val (.int (p1 &&& (3 : Int32))), .unset, .unset, .unset] [(.ref q1), (.ref u561), (.ref c1), (.ref c1)]))
        have OV570 := O570
        refine own_go (fun _ kont => XS.dup X570.here hx rfl (hb hby at_128) rfl rfl kont) ?_
        show own_Go p.tables e below _ (T570.setTop (mkF m 129 #[.val (.int p1), .val (.int p2), .val (.int p3), .val (.int p4), .val (.ref a1), .val (.ref r470), .val (.ref r473), .val (.int (p1 &&& (3 : Int32))), .unset, .unset, .unset] [(.ref q1), (.ref q1), (.ref u561), (.ref c1), (.ref c1)]))
        refine own_go (fun _ kont => XS.iconst X570.here hx rfl (hb hby at_129) kont) ?_
        show own_Go p.tables e below _ (T570.setTop (mkF m 130 #[.val (.int p1), .val (.int p2), .val (.int p3), .val (.int p4), .val (.ref a1), .val (.ref r470), .val (.ref r473), .val (.int (p1 &&& (3 : Int32))), .unset, .unset, .unset] [(.int (0 : Int32)), (.ref q1), (.ref q1), (.ref u561), (.ref c1), (.ref c1)]))
        refine own_go (fun _ kont => XS.aload X570.here hx rfl (hb hby at_130) rfl rfl kont) ?_
        show own_Go p.tables e below _ (T570.setTop (mkF m 132 #[.val (.int p1), .val (.int p2), .val (.int p3), .val (.int p4), .val (.ref a1), .val (.ref r470), .val (.ref r473), .val (.int (p1 &&& (3 : Int32))), .unset, .unset, .unset] [(.ref r470), (.int (0 : Int32)), (.ref q1), (.ref q1), (.ref u561), (.ref c1), (.ref c1)]))
        refine own_aast X570 hx hZ e570 V_q1_584 rfl (own_sto hw V_q1_584 OV570 T_x_576) 0 (by decide) (by decide) (by decide) (hb hby at_132) ?_
        intro T585 h585 X585 e585 W585
        have E_a1_586 : Exa Z h585 a1 "com/example/nashwaak/nashwaak/terms/Atom" := Exa.wr W585 E_a1_575
        have T_x_587 : own_Tm Z h585 r470 (own_lg p2) := own_Tm.other W585 T_x_576 ne572
        have T_y_588 : own_Tm Z h585 r473 (own_lg p3) := own_Tm.other W585 T_y_577 ne573
        have E_c1_589 : Exa Z h585 c1 "com/example/nashwaak/nashwaak/terms/Compound" := Exa.wr W585 E_c1_578
        have F_c1_name_590 : Fld Z h585 c1 "com/example/nashwaak/nashwaak/terms/Compound" "name" "Ljava/lang/String;" (.null) := Fld.other W585 F_c1_name_579 (Or.inl ne574)
        have F_c1_args_591 : Fld Z h585 c1 "com/example/nashwaak/nashwaak/terms/Compound" "args" "[Lcom/example/nashwaak/nashwaak/terms/Term;" (.null) := Fld.other W585 F_c1_args_580 (Or.inl ne574)
        have F_c1_ground_592 : Fld Z h585 c1 "com/example/nashwaak/nashwaak/terms/Compound" "ground" "Z" (.int (0 : Int32)) := Fld.other W585 F_c1_ground_581 (Or.inl ne574)
        have E_q1_593 : Exa Z h585 q1 "[Lcom/example/nashwaak/nashwaak/terms/Term;" := Exa.wr W585 E_q1_583
        have V_q1_594 : own_Av Z h585 q1 cA570 (.object "com/example/nashwaak/nashwaak/terms/Term") 1 (fun x => if x = 0 then .ref r470 else (fun _ => Value.null) x) := own_Av.set V_q1_584 W585 (by decide)
        have N595 := Fr.snoc X585 NA473 ge_q1
        have Z595 : n0 ≤ h585.size := by rw [W585.size]; exact Z582
        have hk595 := Nat.le_trans hk582 (Nat.le_of_eq W585.size.symm)
        show own_Go p.tables e below _ (T585.setTop (mkF m 133 #[.val (.int p1), .val (.int p2), .val (.int p3), .val (.int p4), .val (.ref a1), .val (.ref r470), .val (.ref r473), .val (.int (p1 &&& (3 : Int32))), .unset, .unset, .unset] [(.ref q1), (.ref u561), (.ref c1), (.ref c1)]))
        have Q596 : own_Tms Z h585 1 (fun j => if j = 0 then r470 else r470) (fun j => if j = 0 then (own_lg p2) else (own_lg p2)) := fun j hj => by rcases j with _ | j <;> first | exact T_x_587 | exact T_x_587 | omega
        have R596 : ∀ j, j < 1 → (fun x => if x = 0 then .ref r470 else (fun _ => Value.null) x) j = Value.ref ((fun j => if j = 0 then r470 else r470) j) := fun j hj => by rcases j with _ | j <;> first | rfl | omega
        have U596 : ∀ j, j < 1 → (fun j => if j = 0 then r470 else r470) j ≠ c1 := fun j hj => by rcases j with _ | j <;> first | exact ne551 | exact ne551 | omega
        refine own_callIW X585 hS hk595 hx hZ (y := (⟨"com/example/nashwaak/nashwaak/terms/Compound", "<init>", "(Ljava/lang/String;[Lcom/example/nashwaak/nashwaak/terms/Term;)V"⟩ : MethodName)) (argsL := [(.ref u561), (.ref q1)]) (rest := [(.ref c1)]) (W := 1) hown (hw _ (List.mem_of_getElem? (i := 59) rfl)) (hw _ (List.mem_of_getElem? (i := 60) rfl)) (hw _ (List.mem_of_getElem? (i := 61) rfl)) (hw _ (List.mem_of_getElem? (i := 54) rfl)) rfl (by decide) (own_rm10 l Z a0 hw c1 u561 q1 h585 n0 Z595 1 _ _ (fun j => if j = 0 then r470 else r470) (fun j => if j = 0 then (own_lg p2) else (own_lg p2)) F_c1_name_590 F_c1_args_591 F_c1_ground_592 E_c1_589 ge_c1 V_q1_594 R596 Q596 (by decide) (by decide) (Ne.symm ne574) U596 E_q1_593) e585 (by decide) (by decide) (by decide) (by decide) (by rw [hml]; rfl) (lenOf own_pd__Ljava_lang_String__Lcom_example_nashwaak_nashwaak_terms_Term__V rfl) rfl (Nat.le_of_eq rfl) (hb hby at_133) ?_
        rintro _ T597 L597 X597 hS hZ hown ⟨rfl, N597, K597, M597⟩
        have NA597 := Fr.app N595 N597
        have E_a1_598 : Exa Z T597.heap a1 "com/example/nashwaak/nashwaak/terms/Atom" := Exa.keep E_a1_586 K597
        have T_x_599 : own_Tm Z T597.heap r470 (own_lg p2) := own_Tm.keep T_x_587 K597 (ninS ne551 nin0)
        have T_y_600 : own_Tm Z T597.heap r473 (own_lg p3) := own_Tm.keep T_y_588 K597 (ninS ne552 nin0)
        have E_c1_601 : Exa Z T597.heap c1 "com/example/nashwaak/nashwaak/terms/Compound" := Exa.keep E_c1_589 K597
        have E_q1_602 : Exa Z T597.heap q1 "[Lcom/example/nashwaak/nashwaak/terms/Term;" := Exa.keep E_q1_593 K597
        have V_q1_603 : own_Av Z T597.heap q1 cA570 (.object "com/example/nashwaak/nashwaak/terms/Term") 1 (fun x => if x = 0 then .ref r470 else (fun _ => Value.null) x) := own_Av.keep V_q1_594 K597 (ninS (Ne.symm ne574) nin0)
        have Z604 : n0 ≤ T597.heap.size := Nat.le_trans Z595 K597.1
        show own_Go p.tables e below _ (T597.setTop (mkF m 136 #[.val (.int p1), .val (.int p2), .val (.int p3), .val (.int p4), .val (.ref a1), .val (.ref r470), .val (.ref r473), .val (.int (p1 &&& (3 : Int32))), .unset, .unset, .unset] [(.ref c1)]))
        have MM : own_Tm Z T597.heap c1 (own_lg p2) := by have q := M597; simpa [own_all] using q
        refine own_go (fun _ kont => XS.astore X597.here hx rfl (hb hby at_136) rfl rfl (l' := #[.val (.int p1), .val (.int p2), .val (.int p3), .val (.int p4), .val (.ref a1), .val (.ref r470), .val (.ref r473), .val (.int (p1 &&& (3 : Int32))), .val (.ref c1), .unset, .unset]) rfl kont) ?_
        show own_Go p.tables e below _ (T597.setTop (mkF m 138 #[.val (.int p1), .val (.int p2), .val (.int p3), .val (.int p4), .val (.ref a1), .val (.ref r470), .val (.ref r473), .val (.int (p1 &&& (3 : Int32))), .val (.ref c1), .unset, .unset] []))
        refine own_go (fun _ kont => XS.iloadN X597.here hx rfl (hb hby at_138) rfl kont) ?_
        show own_Go p.tables e below _ (T597.setTop (mkF m 139 #[.val (.int p1), .val (.int p2), .val (.int p3), .val (.int p4), .val (.ref a1), .val (.ref r470), .val (.ref r473), .val (.int (p1 &&& (3 : Int32))), .val (.ref c1), .unset, .unset] [(.int p2)]))
        refine own_callS X597 hx hZ (y := (⟨"com/example/nashwaak/nashwaak/terms/CompoundIsWrittenGroundPinLaw", "leafGround", "(I)Z"⟩ : MethodName)) (argsL := [(.int p2)]) (rest := []) (W := 0) hown (hw _ (List.mem_of_getElem? (i := 115) rfl)) (hw _ (List.mem_of_getElem? (i := 116) rfl)) (hw _ (List.mem_of_getElem? (i := 50) rfl)) (hw _ (List.mem_of_getElem? (i := 117) rfl)) (by decide) (own_rm16 l Z a0 hw p2 T597.heap n0 Z604) rfl (by decide) (by decide) (by decide) (by decide) (by rw [hml]; rfl) (lenOf own_pd__I_Z rfl) rfl (Nat.le_of_eq rfl) (hb hby at_139) ?_
        rintro _ T605 L605 X605 ⟨rfl, N605, e605⟩
        have NA605 := Fr.app NA597 N605
        show own_Go p.tables e below _ (T605.setTop (mkF m 142 #[.val (.int p1), .val (.int p2), .val (.int p3), .val (.int p4), .val (.ref a1), .val (.ref r470), .val (.ref r473), .val (.int (p1 &&& (3 : Int32))), .val (.ref c1), .unset, .unset] [(.int (own_bi (own_lg p2)))]))
        refine own_go (fun _ kont => XS.istore X605.here hx rfl (hb hby at_142) rfl (l' := #[.val (.int p1), .val (.int p2), .val (.int p3), .val (.int p4), .val (.ref a1), .val (.ref r470), .val (.ref r473), .val (.int (p1 &&& (3 : Int32))), .val (.ref c1), .val (.int (own_bi (own_lg p2))), .unset]) rfl kont) ?_
        show own_Go p.tables e below _ (T605.setTop (mkF m 144 #[.val (.int p1), .val (.int p2), .val (.int p3), .val (.int p4), .val (.ref a1), .val (.ref r470), .val (.ref r473), .val (.int (p1 &&& (3 : Int32))), .val (.ref c1), .val (.int (own_bi (own_lg p2))), .unset] []))
        refine own_go (fun _ kont => XS.goto X605.here hx rfl (pc0 := 144) (pc' := 170) rfl (hb hby at_144) (by decide) (by decide) kont) ?_
        show own_Go p.tables e below _ (T605.setTop (mkF m 170 #[.val (.int p1), .val (.int p2), .val (.int p3), .val (.int p4), .val (.ref a1), .val (.ref r470), .val (.ref r473), .val (.int (p1 &&& (3 : Int32))), .val (.ref c1), .val (.int (own_bi (own_lg p2))), .unset] []))
        exact c170 c1 (own_lg p2) _ _ _ _ _ _ _ (MM) Z604 (rfl) (X605.mono (by decide) (by decide)) hS (Nat.le_refl _) hZ hown NA605 e605
      · skip
        refine own_go (fun _ kont => XS.icmpYes X473.here hx rfl (pc0 := 115) (pc' := 147) rfl (hb hby at_115) rfl (XT.ii_ne_t (d2)) (by decide) (by decide) kont) ?_
        show own_Go p.tables e below _ (T473.setTop (mkF m 147 #[.val (.int p1), .val (.int p2), .val (.int p3), .val (.int p4), .val (.ref a1), .val (.ref r470), .val (.ref r473), .val (.int (p1 &&& (3 : Int32))), .unset, .unset, .unset] []))
        obtain ⟨T606, h606, X606, e606, E606, A606, D606, -, st606⟩ := newO X473 hx hZ hown (hw _ (List.mem_of_getElem? (i := 91) rfl)) (hw _ (List.mem_of_getElem? (i := 92) rfl)) (hw _ (List.mem_of_getElem? (i := 93) rfl)) rfl (g := (mkF m 147 #[.val (.int p1), .val (.int p2), .val (.int p3), .val (.int p4), .val (.ref a1), .val (.ref r470), .val (.ref r473), .val (.int (p1 &&& (3 : Int32))), .unset, .unset, .unset] [])) rfl (hb hby at_147) (by decide) (by decide)
        obtain ⟨v1, g606⟩ : ∃ z, z = T473.heap.size := ⟨_, rfl⟩
        rw [← g606] at A606 D606 st606
        have ne607 : a1 ≠ v1 := by rw [g606]; exact Nat.ne_of_lt E_a1_474.lt
        have ne608 : r470 ≠ v1 := by rw [g606]; exact Nat.ne_of_lt T_x_475.lt
        have ne609 : r473 ≠ v1 := by rw [g606]; exact Nat.ne_of_lt M473.lt
        have ge_v1 : n0 ≤ v1 := by rw [g606]; exact Z476
        have E_a1_610 : Exa Z h606 a1 "com/example/nashwaak/nashwaak/terms/Atom" := Exa.ext E606 E_a1_474
        have T_x_611 : own_Tm Z h606 r470 (own_lg p2) := own_Tm.ext E606 T_x_475
        have T_y_612 : own_Tm Z h606 r473 (own_lg p3) := own_Tm.ext E606 M473
        have Z613 : n0 ≤ h606.size := Nat.le_trans Z476 E606.1
        have hk613 := Nat.le_trans (Nat.le_refl _) E606.1
        have E_v1_614 : Exa Z h606 v1 "com/example/nashwaak/nashwaak/terms/Variable" := A606
        have F_v1_number_615 : Fld Z h606 v1 "com/example/nashwaak/nashwaak/terms/Variable" "number" "I" (.int (0 : Int32)) := D606 (Or.inr (hw _ (List.mem_of_getElem? (i := 102) rfl))) (ty := .int) (by decide)
        have F_v1_level_616 : Fld Z h606 v1 "com/example/nashwaak/nashwaak/terms/Variable" "level" "I" (.int (0 : Int32)) := D606 (Or.inr (hw _ (List.mem_of_getElem? (i := 104) rfl))) (ty := .int) (by decide)
        have F_v1_binding_617 : Fld Z h606 v1 "com/example/nashwaak/nashwaak/terms/Variable" "binding" "Lcom/example/nashwaak/nashwaak/terms/Term;" (.null) := D606 (Or.inl (hw _ (List.mem_of_getElem? (i := 111) rfl))) (ty := (.object "com/example/nashwaak/nashwaak/terms/Term")) (by decide)
        refine own_go st606 ?_
        show own_Go p.tables e below _ (T606.setTop (mkF m 150 #[.val (.int p1), .val (.int p2), .val (.int p3), .val (.int p4), .val (.ref a1), .val (.ref r470), .val (.ref r473), .val (.int (p1 &&& (3 : Int32))), .unset, .unset, .unset] [(.ref v1)]))
        refine own_go (fun _ kont => XS.dup X606.here hx rfl (hb hby at_150) rfl rfl kont) ?_
        show own_Go p.tables e below _ (T606.setTop (mkF m 151 #[.val (.int p1), .val (.int p2), .val (.int p3), .val (.int p4), .val (.ref a1), .val (.ref r470), .val (.ref r473), .val (.int (p1 &&& (3 : Int32))), .unset, .unset, .unset] [(.ref v1), (.ref v1)]))
        refine own_callI X606 hx hZ (y := (⟨"com/example/nashwaak/nashwaak/terms/Variable", "<init>", "()V"⟩ : MethodName)) (argsL := []) (rest := [(.ref v1)]) (W := 1) hown (hw _ (List.mem_of_getElem? (i := 94) rfl)) (hw _ (List.mem_of_getElem? (i := 95) rfl)) (hw _ (List.mem_of_getElem? (i := 96) rfl)) (hw _ (List.mem_of_getElem? (i := 93) rfl)) rfl (by decide) (own_rm13 l Z a0 hw v1 h606 n0 Z613 F_v1_number_615 F_v1_level_616 F_v1_binding_617 E_v1_614 ge_v1) e606 (by decide) (by decide) (by decide) (by decide) (by rw [hml]; rfl) (lenOf own_pd___V rfl) rfl (Nat.le_of_eq rfl) (hb hby at_151) ?_
        rintro _ T618 L618 X618 ⟨rfl, N618, K618, F618⟩
        have NA618 := Fr.app NA473 N618
        have E_a1_619 : Exa Z T618.heap a1 "com/example/nashwaak/nashwaak/terms/Atom" := Exa.keep E_a1_610 K618
        have T_x_620 : own_Tm Z T618.heap r470 (own_lg p2) := own_Tm.keep T_x_611 K618 (ninS ne608 nin0)
        have T_y_621 : own_Tm Z T618.heap r473 (own_lg p3) := own_Tm.keep T_y_612 K618 (ninS ne609 nin0)
        have E_v1_622 : Exa Z T618.heap v1 "com/example/nashwaak/nashwaak/terms/Variable" := Exa.keep E_v1_614 K618
        have Z623 : n0 ≤ T618.heap.size := Nat.le_trans Z613 K618.1
        have hk623 := Nat.le_trans hk613 K618.1
        show own_Go p.tables e below _ (T618.setTop (mkF m 154 #[.val (.int p1), .val (.int p2), .val (.int p3), .val (.int p4), .val (.ref a1), .val (.ref r470), .val (.ref r473), .val (.int (p1 &&& (3 : Int32))), .unset, .unset, .unset] [(.ref v1)]))
        refine own_go (fun _ kont => XS.astore X618.here hx rfl (hb hby at_154) rfl rfl (l' := #[.val (.int p1), .val (.int p2), .val (.int p3), .val (.int p4), .val (.ref a1), .val (.ref r470), .val (.ref r473), .val (.int (p1 &&& (3 : Int32))), .unset, .unset, .val (.ref v1)]) rfl kont) ?_
        show own_Go p.tables e below _ (T618.setTop (mkF m 156 #[.val (.int p1), .val (.int p2), .val (.int p3), .val (.int p4), .val (.ref a1), .val (.ref r470), .val (.ref r473), .val (.int (p1 &&& (3 : Int32))), .unset, .unset, .val (.ref v1)] []))
        refine own_go (fun _ kont => XS.aload X618.here hx rfl (hb hby at_156) rfl rfl kont) ?_
        show own_Go p.tables e below _ (T618.setTop (mkF m 158 #[.val (.int p1), .val (.int p2), .val (.int p3), .val (.int p4), .val (.ref a1), .val (.ref r470), .val (.ref r473), .val (.int (p1 &&& (3 : Int32))), .unset, .unset, .val (.ref v1)] [(.ref v1)]))
        refine own_go (fun _ kont => XS.aload X618.here hx rfl (hb hby at_158) rfl rfl kont) ?_
        show own_Go p.tables e below _ (T618.setTop (mkF m 160 #[.val (.int p1), .val (.int p2), .val (.int p3), .val (.int p4), .val (.ref a1), .val (.ref r470), .val (.ref r473), .val (.int (p1 &&& (3 : Int32))), .unset, .unset, .val (.ref v1)] [(.ref r470), (.ref v1)]))
        refine own_callVW X618 hS hk623 hx hZ (z := (⟨"com/example/nashwaak/nashwaak/terms/Variable", "bind", "(Lcom/example/nashwaak/nashwaak/terms/Term;)V"⟩ : MethodName)) (argsL := [(.ref r470)]) (rest := []) (W := 0) hown (hw _ (List.mem_of_getElem? (i := 105) rfl)) (hw _ (List.mem_of_getElem? (i := 106) rfl)) (hw _ (List.mem_of_getElem? (i := 108) rfl)) (hw _ (List.mem_of_getElem? (i := 107) rfl)) (hw _ (List.mem_of_getElem? (i := 109) rfl)) (hw _ (List.mem_of_getElem? (i := 93) rfl)) (by decide) (E_v1_622) (own_rm15 l Z a0 hw v1 r470 T618.heap n0 Z623 (own_lg p2) F618 E_v1_622 ge_v1 T_x_620 ne608) rfl (by decide) (by decide) (by decide) (by decide) (by rw [hml]; rfl) (lenOf own_pd__Lcom_example_nashwaak_nashwaak_terms_Term__V rfl) rfl (Nat.le_of_eq rfl) (hb hby at_160) ?_
        rintro _ T624 L624 X624 hS hZ hown ⟨rfl, N624, K624⟩
        have NA624 := Fr.app NA618 N624
        have E_a1_625 : Exa Z T624.heap a1 "com/example/nashwaak/nashwaak/terms/Atom" := Exa.keep E_a1_619 K624
        have T_x_626 : own_Tm Z T624.heap r470 (own_lg p2) := own_Tm.keep T_x_620 K624 (ninS ne608 nin0)
        have T_y_627 : own_Tm Z T624.heap r473 (own_lg p3) := own_Tm.keep T_y_621 K624 (ninS ne609 nin0)
        have E_v1_628 : Exa Z T624.heap v1 "com/example/nashwaak/nashwaak/terms/Variable" := Exa.keep E_v1_622 K624
        have Z629 : n0 ≤ T624.heap.size := Nat.le_trans Z623 K624.1
        show own_Go p.tables e below _ (T624.setTop (mkF m 163 #[.val (.int p1), .val (.int p2), .val (.int p3), .val (.int p4), .val (.ref a1), .val (.ref r470), .val (.ref r473), .val (.int (p1 &&& (3 : Int32))), .unset, .unset, .val (.ref v1)] []))
        refine own_go (fun _ kont => XS.aload X624.here hx rfl (hb hby at_163) rfl rfl kont) ?_
        show own_Go p.tables e below _ (T624.setTop (mkF m 165 #[.val (.int p1), .val (.int p2), .val (.int p3), .val (.int p4), .val (.ref a1), .val (.ref r470), .val (.ref r473), .val (.int (p1 &&& (3 : Int32))), .unset, .unset, .val (.ref v1)] [(.ref v1)]))
        refine own_go (fun _ kont => XS.astore X624.here hx rfl (hb hby at_165) rfl rfl (l' := #[.val (.int p1), .val (.int p2), .val (.int p3), .val (.int p4), .val (.ref a1), .val (.ref r470), .val (.ref r473), .val (.int (p1 &&& (3 : Int32))), .val (.ref v1), .unset, .val (.ref v1)]) rfl kont) ?_
        show own_Go p.tables e below _ (T624.setTop (mkF m 167 #[.val (.int p1), .val (.int p2), .val (.int p3), .val (.int p4), .val (.ref a1), .val (.ref r470), .val (.ref r473), .val (.int (p1 &&& (3 : Int32))), .val (.ref v1), .unset, .val (.ref v1)] []))
        refine own_go (fun _ kont => XS.iconst X624.here hx rfl (hb hby at_167) kont) ?_
        show own_Go p.tables e below _ (T624.setTop (mkF m 168 #[.val (.int p1), .val (.int p2), .val (.int p3), .val (.int p4), .val (.ref a1), .val (.ref r470), .val (.ref r473), .val (.int (p1 &&& (3 : Int32))), .val (.ref v1), .unset, .val (.ref v1)] [(.int (0 : Int32))]))
        refine own_go (fun _ kont => XS.istore X624.here hx rfl (hb hby at_168) rfl (l' := #[.val (.int p1), .val (.int p2), .val (.int p3), .val (.int p4), .val (.ref a1), .val (.ref r470), .val (.ref r473), .val (.int (p1 &&& (3 : Int32))), .val (.ref v1), .val (.int (0 : Int32)), .val (.ref v1)]) rfl kont) ?_
        show own_Go p.tables e below _ (T624.setTop (mkF m 170 #[.val (.int p1), .val (.int p2), .val (.int p3), .val (.int p4), .val (.ref a1), .val (.ref r470), .val (.ref r473), .val (.int (p1 &&& (3 : Int32))), .val (.ref v1), .val (.int (0 : Int32)), .val (.ref v1)] []))
        exact c170 v1 (false) _ _ _ _ _ _ _ (Or.inr (Or.inl ⟨E_v1_628, rfl⟩)) Z629 (rfl) (X624.mono (by decide) (by decide)) hS (Nat.le_refl _) hZ hown NA624 rfl
set_option maxRecDepth 65536 in
set_option maxHeartbeats 40000000 in
theorem own_comes {Post : Tables → Env → Array Value → State → Outcome → State → Prop} (hpost : ∀ tb e args s v u, (limb_1_1.after args s (.returned v) u = true ∧ limb_1_2.after args s (.returned v) u = true) → ReturnedEndW s (.returned v) u (Jvm.fieldLocs frame_1_writes args s ++ Jvm.arrayLocs frame_1_arrays args s ++ Jvm.staticLocs frame_1_statics s) 64 5312 → Post tb e args s (.returned v) u) :
    ArmFor flags0 classFile x code maxLocals ret World_1 tables_1 room_1 Calls_1 rest_1 Pre_1 Post := by
  intro l hfl _ _ p e ha hc hk s m args below hf hA hF happ hP
  obtain ⟨hcalls, hrest, hpre⟩ := hP
  obtain ⟨-, -, -, hnamed, -, -, -, hat⟩ := (Spec.applies_iff hf).mp happ
  obtain ⟨hg, hn⟩ := and_e (Cond.before_iff.mp (show (Jvm.Cond.and given_1 narrow_1).before args s = true from hpre))
  obtain ⟨g0, g1⟩ := and_e hg
  obtain ⟨i0, g2⟩ := and_e g1
  obtain ⟨i1, g3⟩ := and_e g2
  obtain ⟨i2, g4⟩ := and_e g3
  have i3 := g4
  obtain ⟨w0, w1, w2, w3, rfl⟩ : ∃ w0 w1 w2 w3 : Value, args = #[w0, w1, w2, w3] := by
    have hs : args.size = 4 := by simpa [Cond.value, given_1] using g0
    obtain ⟨L⟩ := args
    match L, hs with
    | [w0, w1, w2, w3], _ => exact ⟨w0, w1, w2, w3, rfl⟩
  have hw := fun d (hd : d ∈ tables_1) => atoms_spec (ws := Jvm.Cond.code x code maxLocals ret :: tables_1) hat d (List.mem_cons_of_mem _ hd)
  have hfit : Fit s := fun {y c} hc i hi => by
    obtain ⟨ha, rfl⟩ := Array.getElem?_eq_some_iff.mp hc
    have q := List.all_eq_true.mp ((Array.all_eq_true_iff_forall_mem.mp hF) _ (Array.getElem_mem ha)) i (List.mem_range.mpr hi)
    simpa [Array.getElem?_eq_getElem hi] using q
  obtain ⟨z0, ez0⟩ := is_v i0
  obtain rfl : w0 = (.int z0) := Option.some.inj ez0
  obtain ⟨z1, ez1⟩ := is_v i1
  obtain rfl : w1 = (.int z1) := Option.some.inj ez1
  obtain ⟨z2, ez2⟩ := is_v i2
  obtain rfl : w2 = (.int z2) := Option.some.inj ez2
  obtain ⟨z3, ez3⟩ := is_v i3
  obtain rfl : w3 = (.int z3) := Option.some.inj ez3
  obtain ⟨hsets, hown0⟩ := atoms_of _ (rest_1_c_eq ▸ (show rest_1_c.before _ s = true from hrest))
  have n5 := not_v (Cond.before_iff.mp (hsets _ (List.mem_of_getElem? (i := 2) rfl)))
  obtain ⟨cs, e10⟩ := is_v (Cond.before_iff.mp (hsets _ (List.mem_of_getElem? (i := 1) rfl)))
  have CS : Sta s s.heap "java/lang/String" "COMPACT_STRINGS" "Z" (.int cs) := Sta.start e10 (Or.inl (hsets _ (List.mem_of_getElem? (i := 0) rfl)))
  have cz : ¬ (cs = (0 : Int32)) := gotF (Cond.eq_ints e10 (Term.int_eval (0))) n5
  obtain ⟨n, o, h1, h2, h3, _, L, rfl, ⟨rfl, N⟩, hq⟩ := own_rm0 l s _ hw tables_1 z0 z1 z2 z3 s.heap s.heap.size (Nat.le_refl _) cs CS cz p e ha hc hk s m _ below hf ((Spec.applies_iff_loose hf).mp happ).1 ⟨rfl, State.Warmed39.refl s, rfl⟩ trivial
  refine ⟨n, _, h1, h2, h3, hpost _ _ _ _ _ _ ⟨Cond.after_iff.mpr rfl, Cond.after_iff.mpr (eq_i res_at (Term.int_eval (1)) rfl)⟩ ⟨hq.1, hq.2.1, hq.2.2.1, (hq.2.2.2.sift fun y hy => Or.inr (N y hy)).mono (by decide) (by decide)⟩⟩
theorem main_1_1 : Claimed_1_1 := own_comes fun _ _ _ _ _ _ h hF => ⟨h.1, hF⟩
theorem main_1_2 : Claimed_1_2 := own_comes fun _ _ _ _ _ _ h hF => ⟨h.2, hF⟩
end Jvm.Pilot.@@N@@
namespace Jvm.Pilot.@@N@@
open Jvm Jvm.ClassFile Sem Op Lib Jvm.Free Jvm.Stand Jvm.Pilot.@@N@@.Jvm.D
/-! MADE BY PROGRAM (witnessworld.py) out of the Statement's table words and the real class files: 22 classes; the members and pool entries that the words name. The judged class is class 1, her method 3. -/
namespace start1
open Jvm.ClassFile
def u (s : String) : CpInfo := .utf8 (stringToUtf16 s)
/-- a pool by its gaps: so many unusable entries, then the entry; so many at the end -/
def gap : Nat → List CpInfo → List CpInfo
  | 0, r => r
  | n + 1, r => .unusable :: gap n r
def poolList (es : List (Nat × CpInfo)) (last : Nat) : List CpInfo := es.foldr (fun e r => gap e.1 (e.2 :: r)) (gap last [])
def pool (es : List (Nat × CpInfo)) (last : Nat) : Array CpInfo := ⟨poolList es last⟩
def fileOf (pool : Array CpInfo) (this : Nat) (attrs : Array Attribute := #[]) (ms : Array MethodInfo := #[]) (fl : Nat := 33) (sup : Nat := 0) (ifs : Array Nat := #[]) (fds : Array FieldInfo := #[]) : ClassFile where
  minorVersion := 0
  majorVersion := 65
  constantPool := pool
  accessFlags := fl
  thisClass := this
  superClass := sup
  interfaces := ifs
  fields := fds
  methods := ms
  attributes := attrs
def plain (name : String) (sup : Option ClassId) : Class where
  name := name
  kind := .ordinary
  loader := none
  accessFlags := 33
  super := sup
  interfaces := #[]
  cf := none
  fields := #[]
  methods := #[]
  instanceTypes := #[]
  staticTypes := #[]
  resolved := #[]
  callSites := []
  init := .initialized
  statics := none
  mirror := none

def pool0 : Array CpInfo := pool [(5, u "<init>"), (0, u "()V"), (1, .class_ 10), (1, u "java/lang/Object"), (85, u "clone"), (0, u "()Ljava/lang/Object;")] 26

def k0c0 : Code := { maxStack := 0, maxLocals := 1, code := object_method_1_code, exceptionTable := #[], attributes := #[] }
def k0m0 : Method := { name := "<init>", desc := "()V", sig := { parameters := [], returnType := none }, accessFlags := 1, code := some k0c0 }
def k0m1 : Method := { name := "clone", desc := "()Ljava/lang/Object;", sig := { parameters := [], returnType := some (.object "java/lang/Object") }, accessFlags := 260, code := none }
/-- java/lang/Object -/
def k0 : Class := { plain "java/lang/Object" none with
  accessFlags := 33
  interfaces := #[]
  cf := some (fileOf pool0 8 #[] #[{ accessFlags := 1, nameIndex := 5, descriptorIndex := 6, attributes := #[] }, { accessFlags := 260, nameIndex := 96, descriptorIndex := 97, attributes := #[] }] 33 0 #[] #[])
  fields := #[]
  methods := #[k0m0, k0m1]
  instanceTypes := #[]
  staticTypes := #[]
  resolved := Array.replicate 124 none
  statics := none }

def pool1 : Array CpInfo := pool [(2, .class_ 4), (0, .nameAndType 5 6), (0, u "java/lang/Object"), (0, u "<init>"), (0, u "()V"), (0, .class_ 8), (0, u "com/example/nashwaak/nashwaak/terms/Variable"), (0, .methodref 7 3), (0, .methodref 7 11), (0, .nameAndType 12 13), (0, u "bind"), (0, u "(Lcom/example/nashwaak/nashwaak/terms/Term;)V"), (0, .class_ 15), (0, u "com/example/nashwaak/nashwaak/terms/Compound"), (0, .string 17), (0, u "g"), (0, .class_ 19), (0, u "com/example/nashwaak/nashwaak/terms/Term"), (0, .methodref 14 21), (0, .nameAndType 5 22), (0, u "(Ljava/lang/String;[Lcom/example/nashwaak/nashwaak/terms/Term;)V"), (0, .class_ 24), (0, u "com/example/nashwaak/nashwaak/terms/Atom"), (0, .methodref 26 27), (0, .class_ 28), (0, .nameAndType 29 30), (0, u "java/lang/String"), (0, u "valueOf"), (0, u "(C)Ljava/lang/String;"), (0, .methodref 23 32), (0, .nameAndType 5 33), (0, u "(Ljava/lang/String;)V"), (0, .methodref 35 36), (0, .class_ 37), (0, .nameAndType 38 39), (0, u "com/example/nashwaak/nashwaak/terms/CompoundIsWrittenGroundPinLaw"), (0, u "leaf"), (0, u "(ILcom/example/nashwaak/nashwaak/terms/Atom;)Lcom/example/nashwaak/nashwaak/terms/Term;"), (0, .methodref 35 41), (0, .nameAndType 42 43), (0, u "leafGround"), (0, u "(I)Z"), (0, .string 45), (0, u "f"), (0, .methodref 14 47), (0, .nameAndType 48 49), (0, u "isWrittenGround"), (0, u "(Lcom/example/nashwaak/nashwaak/terms/Term;)Z"), (3, u "law"), (0, u "(IIII)Z")] 2

def k1m0 : Method := { name := "<init>", desc := "()V", sig := { parameters := [], returnType := none }, accessFlags := 1, code := none }
def k1c1 : Code := { maxStack := 2, maxLocals := 2, code := method_2_code, exceptionTable := #[], attributes := #[] }
def k1m1 : Method := { name := "leafGround", desc := "(I)Z", sig := { parameters := [.int], returnType := some .boolean }, accessFlags := 10, code := some k1c1 }
def k1c2 : Code := { maxStack := 8, maxLocals := 6, code := method_3_code, exceptionTable := #[], attributes := #[] }
def k1m2 : Method := { name := "leaf", desc := "(ILcom/example/nashwaak/nashwaak/terms/Atom;)Lcom/example/nashwaak/nashwaak/terms/Term;", sig := { parameters := [.int, (.object "com/example/nashwaak/nashwaak/terms/Atom")], returnType := some (.object "com/example/nashwaak/nashwaak/terms/Term") }, accessFlags := 10, code := some k1c2 }
def k1c3 : Code := { maxStack := 7, maxLocals := 11, code := code, exceptionTable := #[], attributes := #[] }
def k1m3 : Method := { name := "law", desc := "(IIII)Z", sig := { parameters := [.int, .int, .int, .int], returnType := some .boolean }, accessFlags := 9, code := some k1c3 }
/-- com/example/nashwaak/nashwaak/terms/CompoundIsWrittenGroundPinLaw -/
def k1 : Class := { plain "com/example/nashwaak/nashwaak/terms/CompoundIsWrittenGroundPinLaw" (some 0) with
  accessFlags := 49
  interfaces := #[]
  cf := some (fileOf pool1 35 #[] #[{ accessFlags := 1, nameIndex := 5, descriptorIndex := 6, attributes := #[] }, { accessFlags := 10, nameIndex := 42, descriptorIndex := 43, attributes := #[] }, { accessFlags := 10, nameIndex := 38, descriptorIndex := 39, attributes := #[] }, { accessFlags := 9, nameIndex := 53, descriptorIndex := 54, attributes := #[] }] 49 2 #[] #[])
  fields := #[]
  methods := #[k1m0, k1m1, k1m2, k1m3]
  instanceTypes := #[]
  staticTypes := #[]
  resolved := Array.replicate 57 none
  statics := none }

def pool2 : Array CpInfo := pool [(1, .methodref 2 3), (0, .class_ 4), (0, .nameAndType 5 6), (0, u "java/lang/Object"), (0, u "<init>"), (0, u "()V"), (7, .class_ 16), (1, u "com/example/nashwaak/nashwaak/terms/Term")] 38

def k2c0 : Code := { maxStack := 1, maxLocals := 1, code := prog_166_method_1_code, exceptionTable := #[], attributes := #[] }
def k2m0 : Method := { name := "<init>", desc := "()V", sig := { parameters := [], returnType := none }, accessFlags := 1, code := some k2c0 }
/-- com/example/nashwaak/nashwaak/terms/Term -/
def k2 : Class := { plain "com/example/nashwaak/nashwaak/terms/Term" (some 0) with
  accessFlags := 1057
  interfaces := #[]
  cf := some (fileOf pool2 14 #[] #[{ accessFlags := 1, nameIndex := 5, descriptorIndex := 6, attributes := #[] }] 1057 2 #[] #[])
  fields := #[]
  methods := #[k2m0]
  instanceTypes := #[]
  staticTypes := #[]
  resolved := Array.replicate 55 none
  statics := none }

def pool3 : Array CpInfo := pool [(1, .methodref 2 3), (0, .class_ 4), (0, .nameAndType 5 6), (0, u "com/example/nashwaak/nashwaak/terms/Term"), (0, u "<init>"), (0, u "()V"), (0, .string 8), (0, u "name"), (0, .methodref 10 11), (0, .class_ 12), (0, .nameAndType 13 14), (0, u "java/util/Objects"), (0, u "requireNonNull"), (0, u "(Ljava/lang/Object;Ljava/lang/String;)Ljava/lang/Object;"), (0, .class_ 16), (0, u "java/lang/String"), (0, .fieldref 18 19), (0, .class_ 20), (0, .nameAndType 8 21), (0, u "com/example/nashwaak/nashwaak/terms/Atom"), (0, u "Ljava/lang/String;"), (8, u "(Ljava/lang/String;)V")] 6

def k3c0 : Code := { maxStack := 3, maxLocals := 2, code := prog_153_method_1_code, exceptionTable := #[], attributes := #[] }
def k3m0 : Method := { name := "<init>", desc := "(Ljava/lang/String;)V", sig := { parameters := [(.object "java/lang/String")], returnType := none }, accessFlags := 1, code := some k3c0 }
/-- com/example/nashwaak/nashwaak/terms/Atom -/
def k3 : Class := { plain "com/example/nashwaak/nashwaak/terms/Atom" (some 2) with
  accessFlags := 49
  interfaces := #[]
  cf := some (fileOf pool3 18 #[] #[{ accessFlags := 1, nameIndex := 5, descriptorIndex := 30, attributes := #[] }] 49 2 #[] #[{ accessFlags := 18, nameIndex := 8, descriptorIndex := 21, attributes := #[] }])
  fields := #[{ name := "name", type := (.object "java/lang/String"), accessFlags := 18, slot := 0, constantValue := 0 }]
  methods := #[k3m0]
  instanceTypes := #[(.object "java/lang/String")]
  staticTypes := #[]
  resolved := Array.replicate 37 none
  statics := none }

def pool4 : Array CpInfo := pool [(1, .class_ 2), (0, u "java/io/Serializable"), (0, .class_ 4), (0, u "java/lang/Object")] 2

/-- java/io/Serializable -/
def k4 : Class := { plain "java/io/Serializable" (some 0) with
  accessFlags := 1537
  interfaces := #[]
  cf := some (fileOf pool4 1 #[] #[] 1537 3 #[] #[])
  fields := #[]
  methods := #[]
  instanceTypes := #[]
  staticTypes := #[]
  resolved := Array.replicate 7 none
  statics := none }

def pool5 : Array CpInfo := pool [(1, .class_ 2), (0, u "java/lang/Comparable"), (0, .class_ 4), (0, u "java/lang/Object")] 7

/-- java/lang/Comparable -/
def k5 : Class := { plain "java/lang/Comparable" (some 0) with
  accessFlags := 1537
  interfaces := #[]
  cf := some (fileOf pool5 1 #[] #[] 1537 3 #[] #[])
  fields := #[]
  methods := #[]
  instanceTypes := #[]
  staticTypes := #[]
  resolved := Array.replicate 12 none
  statics := none }

def pool6 : Array CpInfo := pool [(2, .class_ 4), (1, u "java/lang/CharSequence"), (42, .class_ 48), (0, u "java/lang/CharSequence$1CodePointIterator"), (10, .class_ 60), (0, u "java/lang/CharSequence$1CharIterator"), (5, .class_ 67), (0, u "java/lang/Object")] 63

/-- java/lang/CharSequence -/
def k6 : Class := { plain "java/lang/CharSequence" (some 0) with
  accessFlags := 1537
  interfaces := #[]
  cf := some (fileOf pool6 2 #[.nestMembers #[47, 59]] #[] 1537 66 #[] #[])
  fields := #[]
  methods := #[]
  instanceTypes := #[]
  staticTypes := #[]
  resolved := Array.replicate 131 none
  statics := none }

def pool7 : Array CpInfo := pool [(1, .class_ 2), (0, u "java/lang/constant/Constable"), (0, .class_ 4), (0, u "java/lang/Object")] 6

/-- java/lang/constant/Constable -/
def k7 : Class := { plain "java/lang/constant/Constable" (some 0) with
  accessFlags := 1537
  interfaces := #[]
  cf := some (fileOf pool7 1 #[] #[] 1537 3 #[] #[])
  fields := #[]
  methods := #[]
  instanceTypes := #[]
  staticTypes := #[]
  resolved := Array.replicate 11 none
  statics := none }

def pool8 : Array CpInfo := pool [(1, .class_ 2), (0, u "java/lang/constant/ConstantDesc"), (0, .class_ 4), (0, u "java/lang/Object")] 32

/-- java/lang/constant/ConstantDesc -/
def k8 : Class := { plain "java/lang/constant/ConstantDesc" (some 0) with
  accessFlags := 1537
  interfaces := #[]
  cf := some (fileOf pool8 1 #[] #[] 1537 3 #[] #[])
  fields := #[]
  methods := #[]
  instanceTypes := #[]
  staticTypes := #[]
  resolved := Array.replicate 37 none
  statics := none }

def pool9 : Array CpInfo := pool [(1, .methodref 2 3), (0, .class_ 4), (0, .nameAndType 5 6), (0, u "java/lang/Object"), (0, u "<init>"), (0, u "()V"), (2, .fieldref 10 11), (0, .class_ 12), (0, .nameAndType 13 14), (0, u "java/lang/String"), (0, u "value"), (0, u "[B"), (0, .fieldref 10 16), (0, .nameAndType 17 18), (0, u "coder"), (0, u "B"), (2, u "hash"), (0, u "I"), (2, u "hashIsZero"), (0, u "Z"), (11, .fieldref 10 39), (0, .nameAndType 40 26), (0, u "COMPACT_STRINGS"), (12, u "toBytes"), (53, .class_ 109), (1, u "java/lang/StringLatin1"), (99, .methodref 10 210), (0, .nameAndType 5 211), (0, u "([BB)V"), (157, u "(C)Z"), (205, .class_ 576), (0, u "java/lang/CharSequence"), (22, u "CASE_INSENSITIVE_ORDER"), (0, u "Ljava/util/Comparator;"), (181, u "valueOf"), (0, u "(C)Ljava/lang/String;"), (231, .methodref 107 1016), (0, .nameAndType 1017 369), (0, u "canEncode"), (0, .methodref 107 1019), (0, .nameAndType 53 1020), (0, u "(C)[B"), (80, u "serialPersistentFields"), (0, u "[Ljava/io/ObjectStreamField;"), (0, .class_ 1104), (0, u "java/lang/String$CaseInsensitiveComparator"), (1, .class_ 1107), (0, u "java/io/Serializable"), (0, .class_ 1109), (0, u "java/lang/Comparable"), (0, .class_ 1111), (0, u "java/lang/constant/Constable"), (0, .class_ 1113), (0, u "java/lang/constant/ConstantDesc"), (2, u "serialVersionUID"), (0, u "J"), (3, u "REPL"), (0, u "C"), (2, u "LATIN1"), (1, u "UTF16")] 323

def k9m0 : Method := { name := "<init>", desc := "()V", sig := { parameters := [], returnType := none }, accessFlags := 1, code := none }
def k9c1 : Code := { maxStack := 4, maxLocals := 1, code := jdk_42_method_139_code, exceptionTable := #[], attributes := #[] }
def k9m1 : Method := { name := "valueOf", desc := "(C)Ljava/lang/String;", sig := { parameters := [.char], returnType := some (.object "java/lang/String") }, accessFlags := 9, code := some k9c1 }
def k9c2 : Code := { maxStack := 2, maxLocals := 3, code := jdk_42_method_151_code, exceptionTable := #[], attributes := #[] }
def k9m2 : Method := { name := "<init>", desc := "([BB)V", sig := { parameters := [(.array .byte), .byte], returnType := none }, accessFlags := 0, code := some k9c2 }
/-- java/lang/String -/
def k9 : Class := { plain "java/lang/String" (some 0) with
  accessFlags := 49
  interfaces := #[4, 5, 6, 7, 8]
  cf := some (fileOf pool9 10 #[.nestMembers #[1103]] #[{ accessFlags := 1, nameIndex := 5, descriptorIndex := 6, attributes := #[] }, { accessFlags := 9, nameIndex := 782, descriptorIndex := 783, attributes := #[] }, { accessFlags := 0, nameIndex := 5, descriptorIndex := 211, attributes := #[] }] 49 2 #[1106, 1108, 575, 1110, 1112] #[{ accessFlags := 18, nameIndex := 13, descriptorIndex := 14, attributes := #[] }, { accessFlags := 18, nameIndex := 17, descriptorIndex := 18, attributes := #[] }, { accessFlags := 2, nameIndex := 21, descriptorIndex := 22, attributes := #[] }, { accessFlags := 2, nameIndex := 25, descriptorIndex := 26, attributes := #[] }, { accessFlags := 26, nameIndex := 1116, descriptorIndex := 1117, attributes := #[] }, { accessFlags := 24, nameIndex := 40, descriptorIndex := 26, attributes := #[] }, { accessFlags := 26, nameIndex := 1101, descriptorIndex := 1102, attributes := #[] }, { accessFlags := 26, nameIndex := 1121, descriptorIndex := 1122, attributes := #[] }, { accessFlags := 25, nameIndex := 599, descriptorIndex := 600, attributes := #[] }, { accessFlags := 24, nameIndex := 1125, descriptorIndex := 18, attributes := #[] }, { accessFlags := 24, nameIndex := 1127, descriptorIndex := 18, attributes := #[] }])
  fields := #[{ name := "value", type := (.array .byte), accessFlags := 18, slot := 0, constantValue := 0 }, { name := "coder", type := .byte, accessFlags := 18, slot := 1, constantValue := 0 }, { name := "hash", type := .int, accessFlags := 2, slot := 2, constantValue := 0 }, { name := "hashIsZero", type := .boolean, accessFlags := 2, slot := 3, constantValue := 0 }, { name := "serialVersionUID", type := .long, accessFlags := 26, slot := 0, constantValue := 0 }, { name := "COMPACT_STRINGS", type := .boolean, accessFlags := 24, slot := 1, constantValue := 0 }, { name := "serialPersistentFields", type := (.array (.object "java/io/ObjectStreamField")), accessFlags := 26, slot := 2, constantValue := 0 }, { name := "REPL", type := .char, accessFlags := 26, slot := 3, constantValue := 0 }, { name := "CASE_INSENSITIVE_ORDER", type := (.object "java/util/Comparator"), accessFlags := 25, slot := 4, constantValue := 0 }, { name := "LATIN1", type := .byte, accessFlags := 24, slot := 5, constantValue := 0 }, { name := "UTF16", type := .byte, accessFlags := 24, slot := 6, constantValue := 0 }]
  methods := #[k9m0, k9m1, k9m2]
  instanceTypes := #[(.array .byte), .byte, .int, .boolean]
  staticTypes := #[.long, .boolean, (.array (.object "java/io/ObjectStreamField")), .char, (.object "java/util/Comparator"), .byte, .byte]
  resolved := Array.replicate 1451 none
  statics := some 0 }

def pool10 : Array CpInfo := pool [(4, .class_ 6), (1, u "java/lang/Object"), (0, u "<init>"), (0, u "()V"), (5, .class_ 16), (1, u "java/lang/StringLatin1"), (73, u "canEncode"), (14, u "(C)Z"), (15, u "$assertionsDisabled"), (0, u "Z"), (98, .class_ 223), (1, u "java/lang/StringLatin1$LinesSpliterator"), (156, u "toBytes"), (1, u "(C)[B"), (7, .class_ 391), (0, u "java/lang/StringLatin1$CharsSpliterator")] 3

def k10m0 : Method := { name := "<init>", desc := "()V", sig := { parameters := [], returnType := none }, accessFlags := 0, code := none }
def k10c1 : Code := { maxStack := 2, maxLocals := 1, code := jdk_43_method_3_code, exceptionTable := #[], attributes := #[] }
def k10m1 : Method := { name := "canEncode", desc := "(C)Z", sig := { parameters := [.char], returnType := some .boolean }, accessFlags := 9, code := some k10c1 }
def k10c2 : Code := { maxStack := 4, maxLocals := 1, code := jdk_43_method_46_code, exceptionTable := #[], attributes := #[] }
def k10m2 : Method := { name := "toBytes", desc := "(C)[B", sig := { parameters := [.char], returnType := some (.array .byte) }, accessFlags := 9, code := some k10c2 }
/-- java/lang/StringLatin1 -/
def k10 : Class := { plain "java/lang/StringLatin1" (some 0) with
  accessFlags := 48
  interfaces := #[]
  cf := some (fileOf pool10 14 #[.nestMembers #[390, 221]] #[{ accessFlags := 0, nameIndex := 7, descriptorIndex := 8, attributes := #[] }, { accessFlags := 9, nameIndex := 90, descriptorIndex := 105, attributes := #[] }, { accessFlags := 9, nameIndex := 380, descriptorIndex := 382, attributes := #[] }] 48 4 #[] #[{ accessFlags := 4120, nameIndex := 121, descriptorIndex := 122, attributes := #[] }])
  fields := #[{ name := "$assertionsDisabled", type := .boolean, accessFlags := 4120, slot := 0, constantValue := 0 }]
  methods := #[k10m0, k10m1, k10m2]
  instanceTypes := #[]
  staticTypes := #[.boolean]
  resolved := Array.replicate 395 none
  statics := none }

def pool11 : Array CpInfo := pool [(2, .class_ 4), (1, u "java/lang/Object"), (0, u "<init>"), (0, u "()V"), (35, .class_ 44), (1, u "java/util/Objects"), (0, u "requireNonNull"), (48, u "(Ljava/lang/Object;Ljava/lang/String;)Ljava/lang/Object;")] 89

def k11m0 : Method := { name := "<init>", desc := "()V", sig := { parameters := [], returnType := none }, accessFlags := 2, code := none }
def k11c1 : Code := { maxStack := 3, maxLocals := 2, code := jdk_31_method_11_code, exceptionTable := #[], attributes := #[] }
def k11m1 : Method := { name := "requireNonNull", desc := "(Ljava/lang/Object;Ljava/lang/String;)Ljava/lang/Object;", sig := { parameters := [(.object "java/lang/Object"), (.object "java/lang/String")], returnType := some (.object "java/lang/Object") }, accessFlags := 9, code := some k11c1 }
/-- java/util/Objects -/
def k11 : Class := { plain "java/util/Objects" (some 0) with
  accessFlags := 49
  interfaces := #[]
  cf := some (fileOf pool11 42 #[] #[{ accessFlags := 2, nameIndex := 5, descriptorIndex := 6, attributes := #[] }, { accessFlags := 9, nameIndex := 45, descriptorIndex := 94, attributes := #[] }] 49 2 #[] #[])
  fields := #[]
  methods := #[k11m0, k11m1]
  instanceTypes := #[]
  staticTypes := #[]
  resolved := Array.replicate 184 none
  statics := none }

def pool12 : Array CpInfo := pool [(1, .methodref 2 3), (0, .class_ 4), (0, .nameAndType 5 6), (0, u "[Lcom/example/nashwaak/nashwaak/terms/Term;"), (0, u "clone"), (0, u "()Ljava/lang/Object;"), (0, .methodref 8 9), (0, .class_ 10), (0, .nameAndType 11 12), (0, u "com/example/nashwaak/nashwaak/terms/Compound"), (0, u "<init>"), (0, u "([Lcom/example/nashwaak/nashwaak/terms/Term;Ljava/lang/String;)V"), (0, .methodref 14 15), (0, .class_ 16), (0, .nameAndType 11 17), (0, u "com/example/nashwaak/nashwaak/terms/Term"), (0, u "()V"), (0, .string 19), (0, u "name"), (0, .methodref 21 22), (0, .class_ 23), (0, .nameAndType 24 25), (0, u "java/util/Objects"), (0, u "requireNonNull"), (0, u "(Ljava/lang/Object;Ljava/lang/String;)Ljava/lang/Object;"), (9, .fieldref 8 36), (0, .nameAndType 19 37), (0, u "Ljava/lang/String;"), (0, .fieldref 8 39), (0, .nameAndType 40 4), (0, u "args"), (4, .methodref 8 46), (0, .nameAndType 47 48), (0, u "isWrittenGround"), (0, u "(Lcom/example/nashwaak/nashwaak/terms/Term;)Z"), (0, .fieldref 8 50), (0, .nameAndType 51 52), (0, u "ground"), (0, u "Z"), (3, .class_ 57), (0, u "com/example/nashwaak/nashwaak/terms/Variable"), (0, u "(Ljava/lang/String;[Lcom/example/nashwaak/nashwaak/terms/Term;)V")] 34

def k12c0 : Code := { maxStack := 3, maxLocals := 3, code := prog_155_method_1_code, exceptionTable := #[], attributes := #[] }
def k12m0 : Method := { name := "<init>", desc := "(Ljava/lang/String;[Lcom/example/nashwaak/nashwaak/terms/Term;)V", sig := { parameters := [(.object "java/lang/String"), (.array (.object "com/example/nashwaak/nashwaak/terms/Term"))], returnType := none }, accessFlags := 129, code := some k12c0 }
def k12c1 : Code := { maxStack := 3, maxLocals := 8, code := prog_155_method_2_code, exceptionTable := #[], attributes := #[] }
def k12m1 : Method := { name := "<init>", desc := "([Lcom/example/nashwaak/nashwaak/terms/Term;Ljava/lang/String;)V", sig := { parameters := [(.array (.object "com/example/nashwaak/nashwaak/terms/Term")), (.object "java/lang/String")], returnType := none }, accessFlags := 2, code := some k12c1 }
def k12c2 : Code := { maxStack := 1, maxLocals := 2, code := prog_155_method_10_code, exceptionTable := #[], attributes := #[] }
def k12m2 : Method := { name := "isWrittenGround", desc := "(Lcom/example/nashwaak/nashwaak/terms/Term;)Z", sig := { parameters := [(.object "com/example/nashwaak/nashwaak/terms/Term")], returnType := some .boolean }, accessFlags := 8, code := some k12c2 }
/-- com/example/nashwaak/nashwaak/terms/Compound -/
def k12 : Class := { plain "com/example/nashwaak/nashwaak/terms/Compound" (some 2) with
  accessFlags := 49
  interfaces := #[]
  cf := some (fileOf pool12 8 #[] #[{ accessFlags := 129, nameIndex := 11, descriptorIndex := 58, attributes := #[] }, { accessFlags := 2, nameIndex := 11, descriptorIndex := 12, attributes := #[] }, { accessFlags := 8, nameIndex := 47, descriptorIndex := 48, attributes := #[] }] 49 14 #[] #[{ accessFlags := 18, nameIndex := 19, descriptorIndex := 37, attributes := #[] }, { accessFlags := 18, nameIndex := 40, descriptorIndex := 4, attributes := #[] }, { accessFlags := 18, nameIndex := 51, descriptorIndex := 52, attributes := #[] }])
  fields := #[{ name := "name", type := (.object "java/lang/String"), accessFlags := 18, slot := 0, constantValue := 0 }, { name := "args", type := (.array (.object "com/example/nashwaak/nashwaak/terms/Term")), accessFlags := 18, slot := 1, constantValue := 0 }, { name := "ground", type := .boolean, accessFlags := 18, slot := 2, constantValue := 0 }]
  methods := #[k12m0, k12m1, k12m2]
  instanceTypes := #[(.object "java/lang/String"), (.array (.object "com/example/nashwaak/nashwaak/terms/Term")), .boolean]
  staticTypes := #[]
  resolved := Array.replicate 93 none
  statics := none }

def pool13 : Array CpInfo := pool [(1, .class_ 2), (0, u "java/lang/Cloneable"), (0, .class_ 4), (0, u "java/lang/Object")] 2

/-- java/lang/Cloneable -/
def k13 : Class := { plain "java/lang/Cloneable" (some 0) with
  accessFlags := 1537
  interfaces := #[]
  cf := some (fileOf pool13 1 #[] #[] 1537 3 #[] #[])
  fields := #[]
  methods := #[]
  instanceTypes := #[]
  staticTypes := #[]
  resolved := Array.replicate 7 none
  statics := none }

def pool14 : Array CpInfo := pool [(1, .methodref 2 3), (0, .class_ 4), (0, .nameAndType 5 6), (0, u "com/example/nashwaak/nashwaak/terms/Variable"), (0, u "<init>"), (0, u "(II)V"), (0, .methodref 8 9), (0, .class_ 10), (0, .nameAndType 5 11), (0, u "com/example/nashwaak/nashwaak/terms/Term"), (0, u "()V"), (0, .fieldref 2 13), (0, .nameAndType 14 15), (0, u "number"), (0, u "I"), (0, .fieldref 2 17), (0, .nameAndType 18 15), (0, u "level"), (0, .fieldref 2 20), (0, .nameAndType 21 22), (0, u "binding"), (0, u "Lcom/example/nashwaak/nashwaak/terms/Term;"), (7, .string 31), (0, u "value"), (0, .methodref 33 34), (0, .class_ 35), (0, .nameAndType 36 37), (0, u "java/util/Objects"), (0, u "requireNonNull"), (0, u "(Ljava/lang/Object;Ljava/lang/String;)Ljava/lang/Object;"), (67, u "bind"), (0, u "(Lcom/example/nashwaak/nashwaak/terms/Term;)V")] 38

def k14c0 : Code := { maxStack := 3, maxLocals := 1, code := prog_170_method_1_code, exceptionTable := #[], attributes := #[] }
def k14m0 : Method := { name := "<init>", desc := "()V", sig := { parameters := [], returnType := none }, accessFlags := 1, code := some k14c0 }
def k14c1 : Code := { maxStack := 2, maxLocals := 3, code := prog_170_method_2_code, exceptionTable := #[], attributes := #[] }
def k14m1 : Method := { name := "<init>", desc := "(II)V", sig := { parameters := [.int, .int], returnType := none }, accessFlags := 0, code := some k14c1 }
def k14c2 : Code := { maxStack := 3, maxLocals := 2, code := prog_170_method_5_code, exceptionTable := #[], attributes := #[] }
def k14m2 : Method := { name := "bind", desc := "(Lcom/example/nashwaak/nashwaak/terms/Term;)V", sig := { parameters := [(.object "com/example/nashwaak/nashwaak/terms/Term")], returnType := none }, accessFlags := 1, code := some k14c2 }
/-- com/example/nashwaak/nashwaak/terms/Variable -/
def k14 : Class := { plain "com/example/nashwaak/nashwaak/terms/Variable" (some 2) with
  accessFlags := 49
  interfaces := #[]
  cf := some (fileOf pool14 2 #[] #[{ accessFlags := 1, nameIndex := 5, descriptorIndex := 11, attributes := #[] }, { accessFlags := 0, nameIndex := 5, descriptorIndex := 6, attributes := #[] }, { accessFlags := 1, nameIndex := 105, descriptorIndex := 106, attributes := #[] }] 49 8 #[] #[{ accessFlags := 2, nameIndex := 21, descriptorIndex := 22, attributes := #[] }, { accessFlags := 18, nameIndex := 14, descriptorIndex := 15, attributes := #[] }, { accessFlags := 18, nameIndex := 18, descriptorIndex := 15, attributes := #[] }])
  fields := #[{ name := "binding", type := (.object "com/example/nashwaak/nashwaak/terms/Term"), accessFlags := 2, slot := 0, constantValue := 0 }, { name := "number", type := .int, accessFlags := 18, slot := 1, constantValue := 0 }, { name := "level", type := .int, accessFlags := 18, slot := 2, constantValue := 0 }]
  methods := #[k14m0, k14m1, k14m2]
  instanceTypes := #[(.object "com/example/nashwaak/nashwaak/terms/Term"), .int, .int]
  staticTypes := #[]
  resolved := Array.replicate 145 none
  statics := none }

def pool15 : Array CpInfo := pool [(2, .class_ 4), (1, u "java/lang/Object"), (0, u "<init>"), (0, u "()V"), (17, .class_ 26), (1, u "jdk/internal/util/Preconditions"), (28, .class_ 56), (0, u "jdk/internal/util/Preconditions$4"), (57, .class_ 115), (0, u "jdk/internal/util/Preconditions$1"), (7, u "SIOOBE_FORMATTER"), (0, u "Ljava/util/function/BiFunction;"), (0, .class_ 126), (0, u "jdk/internal/util/Preconditions$2"), (3, u "AIOOBE_FORMATTER"), (0, .class_ 132), (0, u "jdk/internal/util/Preconditions$3"), (3, u "IOOBE_FORMATTER")] 57

def k15m0 : Method := { name := "<init>", desc := "()V", sig := { parameters := [], returnType := none }, accessFlags := 1, code := none }
/-- jdk/internal/util/Preconditions -/
def k15 : Class := { plain "jdk/internal/util/Preconditions" (some 0) with
  accessFlags := 33
  interfaces := #[]
  cf := some (fileOf pool15 24 #[.nestMembers #[55, 131, 125, 114]] #[{ accessFlags := 1, nameIndex := 5, descriptorIndex := 6, attributes := #[] }] 33 2 #[] #[{ accessFlags := 25, nameIndex := 123, descriptorIndex := 124, attributes := #[] }, { accessFlags := 25, nameIndex := 130, descriptorIndex := 124, attributes := #[] }, { accessFlags := 25, nameIndex := 136, descriptorIndex := 124, attributes := #[] }])
  fields := #[{ name := "SIOOBE_FORMATTER", type := (.object "java/util/function/BiFunction"), accessFlags := 25, slot := 0, constantValue := 0 }, { name := "AIOOBE_FORMATTER", type := (.object "java/util/function/BiFunction"), accessFlags := 25, slot := 1, constantValue := 0 }, { name := "IOOBE_FORMATTER", type := (.object "java/util/function/BiFunction"), accessFlags := 25, slot := 2, constantValue := 0 }]
  methods := #[k15m0]
  instanceTypes := #[]
  staticTypes := #[(.object "java/util/function/BiFunction"), (.object "java/util/function/BiFunction"), (.object "java/util/function/BiFunction")]
  resolved := Array.replicate 194 none
  statics := some 1 }

def pool16 : Array CpInfo := pool [(9, u "<init>"), (6, .class_ 18), (1, u "java/lang/Object"), (0, u "()V"), (1, .class_ 23), (1, u "jdk/internal/util/ArraysSupport"), (0, u "LOG2_ARRAY_LONG_INDEX_SCALE"), (0, u "I"), (2, u "U"), (0, u "Ljdk/internal/misc/Unsafe;"), (8, u "BIG_ENDIAN"), (0, u "Z"), (8, u "LOG2_BYTE_BIT_SIZE"), (4, u "LOG2_ARRAY_INT_INDEX_SCALE"), (54, u "JLA"), (0, u "Ljdk/internal/access/JavaLangAccess;"), (11, u "LOG2_ARRAY_BOOLEAN_INDEX_SCALE"), (9, u "LOG2_ARRAY_BYTE_INDEX_SCALE"), (5, u "LOG2_ARRAY_CHAR_INDEX_SCALE"), (5, u "LOG2_ARRAY_SHORT_INDEX_SCALE"), (18, u "LOG2_ARRAY_FLOAT_INDEX_SCALE"), (24, u "LOG2_ARRAY_DOUBLE_INDEX_SCALE"), (89, u "T_BOOLEAN"), (2, u "T_CHAR"), (1, u "T_FLOAT"), (1, u "T_DOUBLE"), (1, u "T_BYTE"), (1, u "T_SHORT"), (1, u "T_INT"), (1, u "T_LONG"), (1, u "SOFT_MAX_ARRAY_LENGTH")] 83

def k16m0 : Method := { name := "<init>", desc := "()V", sig := { parameters := [], returnType := none }, accessFlags := 2, code := none }
/-- jdk/internal/util/ArraysSupport -/
def k16 : Class := { plain "jdk/internal/util/ArraysSupport" (some 0) with
  accessFlags := 33
  interfaces := #[]
  cf := some (fileOf pool16 21 #[] #[{ accessFlags := 2, nameIndex := 9, descriptorIndex := 19, attributes := #[] }] 33 16 #[] #[{ accessFlags := 24, nameIndex := 28, descriptorIndex := 29, attributes := #[] }, { accessFlags := 26, nameIndex := 38, descriptorIndex := 39, attributes := #[] }, { accessFlags := 25, nameIndex := 121, descriptorIndex := 25, attributes := #[] }, { accessFlags := 25, nameIndex := 131, descriptorIndex := 25, attributes := #[] }, { accessFlags := 25, nameIndex := 137, descriptorIndex := 25, attributes := #[] }, { accessFlags := 25, nameIndex := 143, descriptorIndex := 25, attributes := #[] }, { accessFlags := 25, nameIndex := 53, descriptorIndex := 25, attributes := #[] }, { accessFlags := 25, nameIndex := 24, descriptorIndex := 25, attributes := #[] }, { accessFlags := 25, nameIndex := 162, descriptorIndex := 25, attributes := #[] }, { accessFlags := 25, nameIndex := 187, descriptorIndex := 25, attributes := #[] }, { accessFlags := 26, nameIndex := 48, descriptorIndex := 25, attributes := #[] }, { accessFlags := 25, nameIndex := 277, descriptorIndex := 25, attributes := #[] }, { accessFlags := 25, nameIndex := 280, descriptorIndex := 25, attributes := #[] }, { accessFlags := 25, nameIndex := 282, descriptorIndex := 25, attributes := #[] }, { accessFlags := 25, nameIndex := 284, descriptorIndex := 25, attributes := #[] }, { accessFlags := 25, nameIndex := 286, descriptorIndex := 25, attributes := #[] }, { accessFlags := 25, nameIndex := 288, descriptorIndex := 25, attributes := #[] }, { accessFlags := 25, nameIndex := 290, descriptorIndex := 25, attributes := #[] }, { accessFlags := 25, nameIndex := 292, descriptorIndex := 25, attributes := #[] }, { accessFlags := 26, nameIndex := 108, descriptorIndex := 109, attributes := #[] }, { accessFlags := 25, nameIndex := 294, descriptorIndex := 25, attributes := #[] }])
  fields := #[{ name := "U", type := (.object "jdk/internal/misc/Unsafe"), accessFlags := 24, slot := 0, constantValue := 0 }, { name := "BIG_ENDIAN", type := .boolean, accessFlags := 26, slot := 1, constantValue := 0 }, { name := "LOG2_ARRAY_BOOLEAN_INDEX_SCALE", type := .int, accessFlags := 25, slot := 2, constantValue := 0 }, { name := "LOG2_ARRAY_BYTE_INDEX_SCALE", type := .int, accessFlags := 25, slot := 3, constantValue := 0 }, { name := "LOG2_ARRAY_CHAR_INDEX_SCALE", type := .int, accessFlags := 25, slot := 4, constantValue := 0 }, { name := "LOG2_ARRAY_SHORT_INDEX_SCALE", type := .int, accessFlags := 25, slot := 5, constantValue := 0 }, { name := "LOG2_ARRAY_INT_INDEX_SCALE", type := .int, accessFlags := 25, slot := 6, constantValue := 0 }, { name := "LOG2_ARRAY_LONG_INDEX_SCALE", type := .int, accessFlags := 25, slot := 7, constantValue := 0 }, { name := "LOG2_ARRAY_FLOAT_INDEX_SCALE", type := .int, accessFlags := 25, slot := 8, constantValue := 0 }, { name := "LOG2_ARRAY_DOUBLE_INDEX_SCALE", type := .int, accessFlags := 25, slot := 9, constantValue := 0 }, { name := "LOG2_BYTE_BIT_SIZE", type := .int, accessFlags := 26, slot := 10, constantValue := 0 }, { name := "T_BOOLEAN", type := .int, accessFlags := 25, slot := 11, constantValue := 0 }, { name := "T_CHAR", type := .int, accessFlags := 25, slot := 12, constantValue := 0 }, { name := "T_FLOAT", type := .int, accessFlags := 25, slot := 13, constantValue := 0 }, { name := "T_DOUBLE", type := .int, accessFlags := 25, slot := 14, constantValue := 0 }, { name := "T_BYTE", type := .int, accessFlags := 25, slot := 15, constantValue := 0 }, { name := "T_SHORT", type := .int, accessFlags := 25, slot := 16, constantValue := 0 }, { name := "T_INT", type := .int, accessFlags := 25, slot := 17, constantValue := 0 }, { name := "T_LONG", type := .int, accessFlags := 25, slot := 18, constantValue := 0 }, { name := "JLA", type := (.object "jdk/internal/access/JavaLangAccess"), accessFlags := 26, slot := 19, constantValue := 0 }, { name := "SOFT_MAX_ARRAY_LENGTH", type := .int, accessFlags := 25, slot := 20, constantValue := 0 }]
  methods := #[k16m0]
  instanceTypes := #[]
  staticTypes := #[(.object "jdk/internal/misc/Unsafe"), .boolean, .int, .int, .int, .int, .int, .int, .int, .int, .int, .int, .int, .int, .int, .int, .int, .int, .int, (.object "jdk/internal/access/JavaLangAccess"), .int]
  resolved := Array.replicate 378 none
  statics := none }

/-- the primitive byte -/
def k17 : Class := { plain "byte" none with kind := .primitive 'B', accessFlags := 0x411 }
/-- [B -/
def k18 : Class := { plain "[B" (some 0) with kind := .array 17 .byte, interfaces := #[13, 4], accessFlags := 1041 }

/-- the primitive int -/
def k19 : Class := { plain "int" none with kind := .primitive 'I', accessFlags := 0x411 }
/-- [I -/
def k20 : Class := { plain "[I" (some 0) with kind := .array 19 .int, interfaces := #[13, 4], accessFlags := 1041 }

/-- [Lcom/example/nashwaak/nashwaak/terms/Term; -/
def k21 : Class := { plain "[Lcom/example/nashwaak/nashwaak/terms/Term;" (some 0) with kind := .array 2 (.object "com/example/nashwaak/nashwaak/terms/Term"), interfaces := #[13, 4], accessFlags := 1041 }

def heap : Heap := #[{ cls := 9, slots := #[.long 0, .int 1, .null, .int 0, .null, .int 0, .int 0], vm := .statics 9 },
  { cls := 15, slots := #[.null, .null, .null], vm := .statics 15 }]
def classes : Array Class := #[k0, k1, k2, k3, k4, k5, k6, k7, k8, k9, k10, k11, k12, k13, k14, k15, k16, k17, k18, k19, k20, k21]
def interned : List (Array UInt16 × Addr) := []
def slotsUsed : Nat := 10
def theMethod : MethodId := ⟨1, 3⟩
def args0 : Array Value := #[.int 5, .int 8, .int 8, .int 8]
def aboutOver (below : List Frame) : State where
  vm := { classes := classes, interned := interned.toArray }
  heap := heap
  slotsUsed := slotsUsed
  threads := #[{ frames := .invoking theMethod args0 :: below }]
def below0 : List Frame := [.native { method := ⟨0, 0⟩, args := #[] }]
def about1 : State := aboutOver below0
def p0 : Program := .bare "" "" ""
def e0 : Env := launch0.env 0 0 0
theorem w_frames : about1.frames = Frame.invoking theMethod args0 :: below0 := rfl
set_option maxRecDepth 65536 in
theorem w_args : argsFit about1.vm theMethod args0 = true := by decide +kernel
set_option maxRecDepth 65536 in
theorem w_heap : heapFits about1 = true := by decide +kernel
set_option maxRecDepth 65536 in
theorem w_runnable : about1.curStatus? = some .runnable := by decide +kernel
set_option maxRecDepth 65536 in
theorem w_alone : about1.alone = true := by decide +kernel
set_option maxRecDepth 65536 in
theorem w_named : about1.methodNamed? x = some theMethod := by decide +kernel
set_option maxRecDepth 65536 in
theorem w_hears : about1.hears theMethod below0 = true := by decide +kernel
set_option maxRecDepth 65536 in
theorem w_ripe : about1.ripe theMethod args0 below0 = true := by decide +kernel
theorem w_running : about1.status = .running := rfl
set_option maxRecDepth 65536 in
theorem w_room : about1.hasRoom e0.platform room_1 = true :=
  launch0.hasRoom_least _ room_1 (by decide +kernel) (by decide +kernel) (by decide +kernel) (by decide +kernel) (by decide +kernel) (by decide +kernel)
theorem allAtoms_all (ts : List Jvm.Cond) (a : Array Jvm.Value) (st : Jvm.State) : (allAtoms ts).before a st = ts.all (fun c => c.before a st) := by
  induction ts with
  | nil => rfl
  | cons c t ih =>
    show (Jvm.Cond.and c (allAtoms t)).before a st = _
    rw [Jvm.Cond.before_and, ih, List.all_cons]
def words1 : List Jvm.Cond := Jvm.Cond.code x code maxLocals ret :: tables_1
/-- a 'code' word, met by the world's own term for the bytes: nothing is compared byte by byte -/
theorem code_word {y : MethodName} {bytes : ByteArray} {mx : Nat} {rt : Option FieldType} {a : Array Value} {s : State} {m : MethodId} {meth : Method} {c : Code} (h1 : s.methodNamed? y = some m) (h2 : s.vm.method? m = some meth) (h3 : meth.code = some c) (h4 : c.code = bytes)
    (h5 : (c.maxLocals == mx && c.exceptionTable.isEmpty && decide (c.maxStack ≤ mostOperands) && decide (meth.sig.returnType = rt) && !meth.locks && decide (parseMethodDescriptor y.desc = some meth.sig)) = true) : (Jvm.Cond.code y bytes mx rt).before a s = true := by
  simp only [Bool.and_eq_true, beq_iff_eq, Bool.not_eq_true', decide_eq_true_eq] at h5
  obtain ⟨⟨⟨⟨⟨g1, g2⟩, g3⟩, g4⟩, g5⟩, g6⟩ := h5
  simp [Cond.before, Cond.holds, Cond.value, h1, h2, h3, h4, g1, g2, g3, g4, g5, g6]
def isCode : Jvm.Cond → Bool
  | .code _ _ _ _ => true
  | _ => false
theorem all_split {L : List Jvm.Cond} {P : Jvm.Cond → Bool} (h1 : L.all (fun c => isCode c || P c) = true) (h2 : ∀ c ∈ L.filter isCode, P c = true) : L.all P = true := by
  refine List.all_eq_true.mpr fun c hc => ?_
  have h := List.all_eq_true.mp h1 c hc
  rcases Bool.eq_false_or_eq_true (isCode c) with hi | hi
  · exact h2 c (List.mem_filter.mpr ⟨hc, hi⟩)
  · simpa [hi] using h
set_option maxRecDepth 65536 in
theorem w_c0 : (Jvm.Cond.code x code maxLocals ret).before args0 about1 = true := code_word (m := ⟨1, 3⟩) (meth := k1m3) (c := k1c3) (by decide +kernel) rfl rfl rfl (by decide +kernel)
set_option maxRecDepth 65536 in
theorem w_c1 : (Jvm.Cond.code ({ cls := "java/lang/String", name := "valueOf", desc := "(C)Ljava/lang/String;" } : Jvm.MethodName) jdk_42_method_139_code (1 : Nat) (Option.some (Jvm.ClassFile.FieldType.object "java/lang/String"))).before args0 about1 = true := code_word (m := ⟨9, 1⟩) (meth := k9m1) (c := k9c1) (by decide +kernel) rfl rfl rfl (by decide +kernel)
set_option maxRecDepth 65536 in
theorem w_c2 : (Jvm.Cond.code ({ cls := "java/lang/StringLatin1", name := "canEncode", desc := "(C)Z" } : Jvm.MethodName) jdk_43_method_3_code (1 : Nat) (Option.some Jvm.ClassFile.FieldType.boolean)).before args0 about1 = true := code_word (m := ⟨10, 1⟩) (meth := k10m1) (c := k10c1) (by decide +kernel) rfl rfl rfl (by decide +kernel)
set_option maxRecDepth 65536 in
theorem w_c3 : (Jvm.Cond.code ({ cls := "java/lang/StringLatin1", name := "toBytes", desc := "(C)[B" } : Jvm.MethodName) jdk_43_method_46_code (1 : Nat) (Option.some (Jvm.ClassFile.FieldType.array Jvm.ClassFile.FieldType.byte))).before args0 about1 = true := code_word (m := ⟨10, 2⟩) (meth := k10m2) (c := k10c2) (by decide +kernel) rfl rfl rfl (by decide +kernel)
set_option maxRecDepth 65536 in
theorem w_c4 : (Jvm.Cond.code ({ cls := "java/lang/String", name := "<init>", desc := "([BB)V" } : Jvm.MethodName) jdk_42_method_151_code (3 : Nat) (Option.none : Option Jvm.ClassFile.FieldType)).before args0 about1 = true := code_word (m := ⟨9, 2⟩) (meth := k9m2) (c := k9c2) (by decide +kernel) rfl rfl rfl (by decide +kernel)
set_option maxRecDepth 65536 in
theorem w_c5 : (Jvm.Cond.code ({ cls := "java/lang/Object", name := "<init>", desc := "()V" } : Jvm.MethodName) object_method_1_code (1 : Nat) (Option.none : Option Jvm.ClassFile.FieldType)).before args0 about1 = true := code_word (m := ⟨0, 0⟩) (meth := k0m0) (c := k0c0) (by decide +kernel) rfl rfl rfl (by decide +kernel)
set_option maxRecDepth 65536 in
theorem w_c6 : (Jvm.Cond.code ({ cls := "com/example/nashwaak/nashwaak/terms/Atom", name := "<init>", desc := "(Ljava/lang/String;)V" } : Jvm.MethodName) prog_153_method_1_code (2 : Nat) (Option.none : Option Jvm.ClassFile.FieldType)).before args0 about1 = true := code_word (m := ⟨3, 0⟩) (meth := k3m0) (c := k3c0) (by decide +kernel) rfl rfl rfl (by decide +kernel)
set_option maxRecDepth 65536 in
theorem w_c7 : (Jvm.Cond.code ({ cls := "com/example/nashwaak/nashwaak/terms/Term", name := "<init>", desc := "()V" } : Jvm.MethodName) prog_166_method_1_code (1 : Nat) (Option.none : Option Jvm.ClassFile.FieldType)).before args0 about1 = true := code_word (m := ⟨2, 0⟩) (meth := k2m0) (c := k2c0) (by decide +kernel) rfl rfl rfl (by decide +kernel)
set_option maxRecDepth 65536 in
theorem w_c8 : (Jvm.Cond.code ({ cls := "java/util/Objects", name := "requireNonNull", desc := "(Ljava/lang/Object;Ljava/lang/String;)Ljava/lang/Object;" } : Jvm.MethodName) jdk_31_method_11_code (2 : Nat) (Option.some (Jvm.ClassFile.FieldType.object "java/lang/Object"))).before args0 about1 = true := code_word (m := ⟨11, 1⟩) (meth := k11m1) (c := k11c1) (by decide +kernel) rfl rfl rfl (by decide +kernel)
set_option maxRecDepth 65536 in
theorem w_c9 : (Jvm.Cond.code ({ cls := "com/example/nashwaak/nashwaak/terms/CompoundIsWrittenGroundPinLaw", name := "leaf", desc := "(ILcom/example/nashwaak/nashwaak/terms/Atom;)Lcom/example/nashwaak/nashwaak/terms/Term;" } : Jvm.MethodName) method_3_code (6 : Nat) (Option.some (Jvm.ClassFile.FieldType.object "com/example/nashwaak/nashwaak/terms/Term"))).before args0 about1 = true := code_word (m := ⟨1, 2⟩) (meth := k1m2) (c := k1c2) (by decide +kernel) rfl rfl rfl (by decide +kernel)
set_option maxRecDepth 65536 in
theorem w_c10 : (Jvm.Cond.code ({ cls := "com/example/nashwaak/nashwaak/terms/Compound", name := "<init>", desc := "(Ljava/lang/String;[Lcom/example/nashwaak/nashwaak/terms/Term;)V" } : Jvm.MethodName) prog_155_method_1_code (3 : Nat) (Option.none : Option Jvm.ClassFile.FieldType)).before args0 about1 = true := code_word (m := ⟨12, 0⟩) (meth := k12m0) (c := k12c0) (by decide +kernel) rfl rfl rfl (by decide +kernel)
set_option maxRecDepth 65536 in
theorem w_c11 : (Jvm.Cond.code ({ cls := "com/example/nashwaak/nashwaak/terms/Compound", name := "<init>", desc := "([Lcom/example/nashwaak/nashwaak/terms/Term;Ljava/lang/String;)V" } : Jvm.MethodName) prog_155_method_2_code (8 : Nat) (Option.none : Option Jvm.ClassFile.FieldType)).before args0 about1 = true := code_word (m := ⟨12, 1⟩) (meth := k12m1) (c := k12c1) (by decide +kernel) rfl rfl rfl (by decide +kernel)
set_option maxRecDepth 65536 in
theorem w_c12 : (Jvm.Cond.code ({ cls := "com/example/nashwaak/nashwaak/terms/Compound", name := "isWrittenGround", desc := "(Lcom/example/nashwaak/nashwaak/terms/Term;)Z" } : Jvm.MethodName) prog_155_method_10_code (2 : Nat) (Option.some Jvm.ClassFile.FieldType.boolean)).before args0 about1 = true := code_word (m := ⟨12, 2⟩) (meth := k12m2) (c := k12c2) (by decide +kernel) rfl rfl rfl (by decide +kernel)
set_option maxRecDepth 65536 in
theorem w_c13 : (Jvm.Cond.code ({ cls := "com/example/nashwaak/nashwaak/terms/Variable", name := "<init>", desc := "()V" } : Jvm.MethodName) prog_170_method_1_code (1 : Nat) (Option.none : Option Jvm.ClassFile.FieldType)).before args0 about1 = true := code_word (m := ⟨14, 0⟩) (meth := k14m0) (c := k14c0) (by decide +kernel) rfl rfl rfl (by decide +kernel)
set_option maxRecDepth 65536 in
theorem w_c14 : (Jvm.Cond.code ({ cls := "com/example/nashwaak/nashwaak/terms/Variable", name := "<init>", desc := "(II)V" } : Jvm.MethodName) prog_170_method_2_code (3 : Nat) (Option.none : Option Jvm.ClassFile.FieldType)).before args0 about1 = true := code_word (m := ⟨14, 1⟩) (meth := k14m1) (c := k14c1) (by decide +kernel) rfl rfl rfl (by decide +kernel)
set_option maxRecDepth 65536 in
theorem w_c15 : (Jvm.Cond.code ({ cls := "com/example/nashwaak/nashwaak/terms/Variable", name := "bind", desc := "(Lcom/example/nashwaak/nashwaak/terms/Term;)V" } : Jvm.MethodName) prog_170_method_5_code (2 : Nat) (Option.none : Option Jvm.ClassFile.FieldType)).before args0 about1 = true := code_word (m := ⟨14, 2⟩) (meth := k14m2) (c := k14c2) (by decide +kernel) rfl rfl rfl (by decide +kernel)
set_option maxRecDepth 65536 in
theorem w_c16 : (Jvm.Cond.code ({ cls := "com/example/nashwaak/nashwaak/terms/CompoundIsWrittenGroundPinLaw", name := "leafGround", desc := "(I)Z" } : Jvm.MethodName) method_2_code (2 : Nat) (Option.some Jvm.ClassFile.FieldType.boolean)).before args0 about1 = true := code_word (m := ⟨1, 1⟩) (meth := k1m1) (c := k1c1) (by decide +kernel) rfl rfl rfl (by decide +kernel)
def codes1 : List Jvm.Cond := [Jvm.Cond.code x code maxLocals ret, Jvm.Cond.code ({ cls := "java/lang/String", name := "valueOf", desc := "(C)Ljava/lang/String;" } : Jvm.MethodName) jdk_42_method_139_code (1 : Nat) (Option.some (Jvm.ClassFile.FieldType.object "java/lang/String")), Jvm.Cond.code ({ cls := "java/lang/StringLatin1", name := "canEncode", desc := "(C)Z" } : Jvm.MethodName) jdk_43_method_3_code (1 : Nat) (Option.some Jvm.ClassFile.FieldType.boolean), Jvm.Cond.code ({ cls := "java/lang/StringLatin1", name := "toBytes", desc := "(C)[B" } : Jvm.MethodName) jdk_43_method_46_code (1 : Nat) (Option.some (Jvm.ClassFile.FieldType.array Jvm.ClassFile.FieldType.byte)), Jvm.Cond.code ({ cls := "java/lang/String", name := "<init>", desc := "([BB)V" } : Jvm.MethodName) jdk_42_method_151_code (3 : Nat) (Option.none : Option Jvm.ClassFile.FieldType), Jvm.Cond.code ({ cls := "java/lang/Object", name := "<init>", desc := "()V" } : Jvm.MethodName) object_method_1_code (1 : Nat) (Option.none : Option Jvm.ClassFile.FieldType), Jvm.Cond.code ({ cls := "com/example/nashwaak/nashwaak/terms/Atom", name := "<init>", desc := "(Ljava/lang/String;)V" } : Jvm.MethodName) prog_153_method_1_code (2 : Nat) (Option.none : Option Jvm.ClassFile.FieldType), Jvm.Cond.code ({ cls := "com/example/nashwaak/nashwaak/terms/Term", name := "<init>", desc := "()V" } : Jvm.MethodName) prog_166_method_1_code (1 : Nat) (Option.none : Option Jvm.ClassFile.FieldType), Jvm.Cond.code ({ cls := "java/util/Objects", name := "requireNonNull", desc := "(Ljava/lang/Object;Ljava/lang/String;)Ljava/lang/Object;" } : Jvm.MethodName) jdk_31_method_11_code (2 : Nat) (Option.some (Jvm.ClassFile.FieldType.object "java/lang/Object")), Jvm.Cond.code ({ cls := "com/example/nashwaak/nashwaak/terms/CompoundIsWrittenGroundPinLaw", name := "leaf", desc := "(ILcom/example/nashwaak/nashwaak/terms/Atom;)Lcom/example/nashwaak/nashwaak/terms/Term;" } : Jvm.MethodName) method_3_code (6 : Nat) (Option.some (Jvm.ClassFile.FieldType.object "com/example/nashwaak/nashwaak/terms/Term")), Jvm.Cond.code ({ cls := "com/example/nashwaak/nashwaak/terms/Compound", name := "<init>", desc := "(Ljava/lang/String;[Lcom/example/nashwaak/nashwaak/terms/Term;)V" } : Jvm.MethodName) prog_155_method_1_code (3 : Nat) (Option.none : Option Jvm.ClassFile.FieldType), Jvm.Cond.code ({ cls := "com/example/nashwaak/nashwaak/terms/Compound", name := "<init>", desc := "([Lcom/example/nashwaak/nashwaak/terms/Term;Ljava/lang/String;)V" } : Jvm.MethodName) prog_155_method_2_code (8 : Nat) (Option.none : Option Jvm.ClassFile.FieldType), Jvm.Cond.code ({ cls := "com/example/nashwaak/nashwaak/terms/Compound", name := "isWrittenGround", desc := "(Lcom/example/nashwaak/nashwaak/terms/Term;)Z" } : Jvm.MethodName) prog_155_method_10_code (2 : Nat) (Option.some Jvm.ClassFile.FieldType.boolean), Jvm.Cond.code ({ cls := "com/example/nashwaak/nashwaak/terms/Variable", name := "<init>", desc := "()V" } : Jvm.MethodName) prog_170_method_1_code (1 : Nat) (Option.none : Option Jvm.ClassFile.FieldType), Jvm.Cond.code ({ cls := "com/example/nashwaak/nashwaak/terms/Variable", name := "<init>", desc := "(II)V" } : Jvm.MethodName) prog_170_method_2_code (3 : Nat) (Option.none : Option Jvm.ClassFile.FieldType), Jvm.Cond.code ({ cls := "com/example/nashwaak/nashwaak/terms/Variable", name := "bind", desc := "(Lcom/example/nashwaak/nashwaak/terms/Term;)V" } : Jvm.MethodName) prog_170_method_5_code (2 : Nat) (Option.none : Option Jvm.ClassFile.FieldType), Jvm.Cond.code ({ cls := "com/example/nashwaak/nashwaak/terms/CompoundIsWrittenGroundPinLaw", name := "leafGround", desc := "(I)Z" } : Jvm.MethodName) method_2_code (2 : Nat) (Option.some Jvm.ClassFile.FieldType.boolean)]
set_option maxRecDepth 65536 in
theorem codes_eq : words1.filter isCode = codes1 := rfl
theorem w_codes : ∀ c ∈ words1.filter isCode, c.before args0 about1 = true := by
  rw [codes_eq]
  intro c hc
  simp only [codes1, List.mem_cons, List.not_mem_nil, or_false] at hc
  rcases hc with rfl | rfl | rfl | rfl | rfl | rfl | rfl | rfl | rfl | rfl | rfl | rfl | rfl | rfl | rfl | rfl | rfl
  · exact w_c0
  · exact w_c1
  · exact w_c2
  · exact w_c3
  · exact w_c4
  · exact w_c5
  · exact w_c6
  · exact w_c7
  · exact w_c8
  · exact w_c9
  · exact w_c10
  · exact w_c11
  · exact w_c12
  · exact w_c13
  · exact w_c14
  · exact w_c15
  · exact w_c16
set_option maxRecDepth 65536 in
theorem w_t1 : (words1.take 24).all (fun c => isCode c || c.before args0 about1) = true := by decide +kernel
set_option maxRecDepth 65536 in
theorem w_t2 : ((words1.drop 24).take 24).all (fun c => isCode c || c.before args0 about1) = true := by decide +kernel
set_option maxRecDepth 65536 in
theorem w_t3 : (((words1.drop 24).drop 24).take 24).all (fun c => isCode c || c.before args0 about1) = true := by decide +kernel
set_option maxRecDepth 65536 in
theorem w_t4 : ((((words1.drop 24).drop 24).drop 24).take 24).all (fun c => isCode c || c.before args0 about1) = true := by decide +kernel
set_option maxRecDepth 65536 in
theorem w_t5 : (((((words1.drop 24).drop 24).drop 24).drop 24).take 24).all (fun c => isCode c || c.before args0 about1) = true := by decide +kernel
set_option maxRecDepth 65536 in
theorem w_t6 : (((((words1.drop 24).drop 24).drop 24).drop 24).drop 24).all (fun c => isCode c || c.before args0 about1) = true := by decide +kernel
theorem w_tables : (allAtoms (Jvm.Cond.code x code maxLocals ret :: tables_1)).before args0 about1 = true := by
  rw [allAtoms_all]
  show words1.all (fun c => c.before args0 about1) = true
  refine all_split ?_ w_codes
  rw [← List.take_append_drop 24 words1, List.all_append, w_t1, ← List.take_append_drop 24 (words1.drop 24), List.all_append, w_t2, ← List.take_append_drop 24 ((words1.drop 24).drop 24), List.all_append, w_t3, ← List.take_append_drop 24 (((words1.drop 24).drop 24).drop 24), List.all_append, w_t4, ← List.take_append_drop 24 ((((words1.drop 24).drop 24).drop 24).drop 24), List.all_append, w_t5, w_t6]
  rfl
set_option maxRecDepth 65536 in
theorem w_rest : rest_1_c.before args0 about1 = true := by decide +kernel
set_option maxRecDepth 65536 in
theorem w_case : (Jvm.Cond.and given_1 narrow_1).before args0 about1 = true := by decide +kernel
theorem w_applies : (headSpec (Jvm.Cond.code x code maxLocals ret :: tables_1) room_1).applies x e0.platform about1 = true :=
  (Spec.applies_iff w_frames).mpr ⟨w_running, w_runnable, w_alone, w_named, w_hears, w_ripe, w_room, w_tables⟩
theorem atStart : AtStart classFile x code maxLocals ret World_1 tables_1 room_1 Calls_1 rest_1 Pre_1 launch0 p0 e0 about1 theMethod args0 below0 :=
  ⟨lists_1, trivial, launch0.admits_env _ _ _, launch0.least_env, fairChoices_fair.cas, fairChoices_fair.clock, w_frames, w_args, w_heap, w_applies, trivial, w_rest, w_case⟩
end start1
theorem witness_1 : WitnessClaimed_1 := ⟨start1.p0, start1.e0, start1.about1, start1.theMethod, start1.args0, start1.below0, start1.atStart⟩
end Jvm.Pilot.@@N@@
