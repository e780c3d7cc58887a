import JvmDerived
import JvmDerived.Pilot.@@N@@Statement
import JvmDerived.Pilot.@@N@@Code
set_option linter.unusedVariables false
set_option linter.unusedSimpArgs false
namespace Jvm.Pilot.@@N@@
open Jvm Jvm.ClassFile Sem Op Lib Jvm.Free Jvm.Stand Jvm.LawKit Jvm.RoadKit Bundle Jvm.Pilot.@@N@@.Jvm.D

/-! own kit: the walk goes forward, from state to state, to an end that the contract names -/
section OwnKit
variable {p : Program} {l : Launch} {e : Env} {R : Room} {s : State} {m : MethodId} {args : Array Value} {below : List Frame} {meth : Method} {c : Code} {T : State} {locs : List Loc} {cells slots : Nat} {Z : State} {a0 : Array Value} {h : Heap}
def own_Go (tb : Tables) (e : Env) (below : List Frame) (F : State → Outcome → Prop) (S : State) : Prop := ∃ t o, Steps tb e below S t ∧ F t o
theorem own_go {tb : Tables} {F : State → Outcome → Prop} {S S' : State} (k : ∀ t, Steps tb e below S' t → Steps tb e below S t) (q : own_Go tb e below F S') : own_Go tb e below F S := by
  obtain ⟨t, o, a, b⟩ := q; exact ⟨t, o, k t a, b⟩
theorem own_gt {tb : Tables} {F : State → Outcome → Prop} {S S' : State} (k : Steps tb e below S S') (q : own_Go tb e below F S') : own_Go tb e below F S := own_go (fun _ r => k.trans r) q
def own_Fin (s : State) (below : List Frame) (Q : Option Value → Heap → List Loc → Prop) (nc ns : Nat) (t : State) (o : Outcome) : Prop :=
  t.status = .running ∧ Ended t below o ∧ ∃ v L, o = .returned v ∧ Q v t.heap L ∧ FrameEnd s o t L nc ns
def own_Met (l : Launch) (y : MethodName) (ws : List Jvm.Cond) (rm : Room) (Z : State) (h : Heap) (as : Array Value) (Q : Option Value → Heap → List Loc → Prop) : Prop :=
  MetFree l y (head1 ws rm) (fun a U => a = as ∧ Z.Warmed39 U.vm ∧ U.heap = h) (fun _ _ _ _ _ => True) (fun _ U o U' => ∃ v L, o = .returned v ∧ Q v U'.heap L ∧ FrameEnd U o U' L rm.cells rm.slots)
theorem own_body {y : MethodName} {bytes : ByteArray} {mx : Nat} {rt : Option FieldType} {rm : Room} {ws : List Jvm.Cond} {as : Array Value} {Q : Option Value → Heap → List Loc → Prop} (pn : plainName y.cls = true)
    (H : ∀ (p : Program) (e : Env) (s : State) (m : MethodId) (below : List Frame) (meth : Method) (c : Code) (s₁ : State), p.tables.exec = Jvm.exec → c.code = bytes → c.maxLocals = mx → s.vm.findClass y.cls = some m.cls → meth.name = y.name → meth.sig.returnType = rt → meth.locks = false → Z.Warmed39 s.vm →
      Stand p l e rm s m as below meth c s₁ [] 0 0 → s₁.heap = h → own_Go p.tables e below (own_Fin s below Q rm.cells rm.slots) (s₁.setTop (entryFrame m as mx))) :
    own_Met l y (Jvm.Cond.code y bytes mx rt :: ws) rm Z h as Q := by
  refine MetFree.of_bodySF (plainFor_of_name pn) hisR ?_
  intro p e s m args below meth c s₁ Bd hml hP hK
  obtain ⟨rfl, hZ, hh⟩ := hP
  exact H p e s m below meth c s₁ Bd.exec Bd.bytes hml (findClass_of_methodNamed Bd.named) (name_of_methodNamed Bd.named Bd.method).1 Bd.returns Bd.notSynchronized hZ (Stand.of_body Bd) (by rw [← hh, Bd.state]; rfl)
theorem own_end (X : Stand p l e R s m args below meth c T locs cells slots) {v : Option Value} {g : JFrame} {Q : Option Value → Heap → List Loc → Prop} {nc ns : Nat} (hlk : meth.locks = false) (hv : meth.sig.returnType = none → v = none)
    (st : ∀ fs, (∀ (f : JFrame) (acts : List Action), f.method = m → f.locked = none → f.entered = [] → (doReturn e (T.setTop f) acts v).1 = T.setFrames fs) → Steps p.tables e below (T.setTop g) (T.setFrames fs)) (hQ : Q v T.heap locs) (h1 : cells ≤ nc) (h2 : slots ≤ ns) :
    own_Go p.tables e below (own_Fin s below Q nc ns) (T.setTop g) := by
  obtain ⟨fs, hr, hrun, hended, hW, hsame⟩ := X.leave (v := v) hv hlk
  exact ⟨_, _, st fs hr, hrun, hended, _, _, rfl, hQ, ⟨_, rfl⟩, hW, hsame.mono h1 h2⟩
theorem own_retI (X : Stand p l e R s m args below meth c T locs cells slots) (hx : p.tables.exec = Jvm.exec) {pc : Nat} {Ls : Array Slot} {z : Int32} {t : FieldType} {rest : List Value} {Q : Option Value → Heap → List Loc → Prop} {nc ns : Nat} (hlk : meth.locks = false) (hret : meth.sig.returnType = some t) (ht : t = .int ∨ t = .boolean ∨ t = .byte ∨ t = .char ∨ t = .short) (hn : narrow t (.int z) = .int z)
    (hd : decode c.code pc = .ok (.ireturn, 1)) (hQ : Q (some (.int z)) T.heap locs) (h1 : cells ≤ nc) (h2 : slots ≤ ns) : own_Go p.tables e below (own_Fin s below Q nc ns) (T.setTop (mkF m pc Ls (.int z :: rest))) :=
  own_end X hlk (fun q => by rw [hret] at q; cases q) (fun fs hr => retOut X hx hret hn (Or.inl ⟨rfl, ht, _, rfl⟩) hd hr) hQ h1 h2
theorem own_retJ (X : Stand p l e R s m args below meth c T locs cells slots) (hx : p.tables.exec = Jvm.exec) {pc : Nat} {Ls : Array Slot} {z : Int64} {rest : List Value} {Q : Option Value → Heap → List Loc → Prop} {nc ns : Nat} (hlk : meth.locks = false) (hret : meth.sig.returnType = some .long)
    (hd : decode c.code pc = .ok (.lreturn, 1)) (hQ : Q (some (.long z)) T.heap locs) (h1 : cells ≤ nc) (h2 : slots ≤ ns) : own_Go p.tables e below (own_Fin s below Q nc ns) (T.setTop (mkF m pc Ls (.long z :: rest))) :=
  own_end X hlk (fun q => by rw [hret] at q; cases q) (fun fs hr => retOut X hx hret rfl (Or.inr (Or.inl ⟨rfl, rfl, _, rfl⟩)) hd hr) hQ h1 h2
theorem own_retA (X : Stand p l e R s m args below meth c T locs cells slots) (hx : p.tables.exec = Jvm.exec) {pc : Nat} {Ls : Array Slot} {w : Value} {t : FieldType} {rest : List Value} {Q : Option Value → Heap → List Loc → Prop} {nc ns : Nat} (hlk : meth.locks = false) (hret : meth.sig.returnType = some t) (ht : t.isReference = true) (hw : w.isRef = true)
    (hd : decode c.code pc = .ok (.areturn, 1)) (hQ : Q (some w) T.heap locs) (h1 : cells ≤ nc) (h2 : slots ≤ ns) : own_Go p.tables e below (own_Fin s below Q nc ns) (T.setTop (mkF m pc Ls (w :: rest))) :=
  own_end X hlk (fun q => by rw [hret] at q; cases q) (fun fs hr => retOut X hx hret (by cases t <;> first | (cases ht; done) | (cases w <;> first | rfl | cases hw)) (Or.inr (Or.inr (Or.inr (Or.inr ⟨rfl, ht, hw⟩)))) hd hr) hQ h1 h2
theorem own_retV (X : Stand p l e R s m args below meth c T locs cells slots) (hx : p.tables.exec = Jvm.exec) {pc : Nat} {Ls : Array Slot} {Q : Option Value → Heap → List Loc → Prop} {nc ns : Nat} (hlk : meth.locks = false) (hret : meth.sig.returnType = none)
    (hd : decode c.code pc = .ok (.return_, 1)) (hQ : Q none T.heap locs) (h1 : cells ≤ nc) (h2 : slots ≤ ns) : own_Go p.tables e below (own_Fin s below Q nc ns) (T.setTop (mkF m pc Ls [])) :=
  own_end X hlk (fun _ => rfl) (fun fs hr => X.returnOut hx hret hd hr) hQ h1 h2
theorem own_callS (X : Stand p l e R s m args below meth c T locs cells slots) (hx : p.tables.exec = Jvm.exec) (hZ : Z.Warmed39 s.vm) {own : String} {index : Nat} {y : MethodName} {bytes : ByteArray} {mx : Nat} {rt : Option FieldType} {rm : Room} {W pc : Nat} {Ls : Array Slot} {St argsL rest : List Value} {Q : Option Value → Heap → List Loc → Prop} {F : State → Outcome → Prop}
    (hown : s.vm.findClass own = some m.cls) (w1 : (Jvm.Cond.methodLink own index y).before a0 Z = true) (w2 : (Jvm.Cond.static y).before a0 Z = true) (w3 : (Jvm.Cond.initialized y.cls).before a0 Z = true) (w4 : (Jvm.Cond.code y bytes mx rt).before a0 Z = true)
    (hy : y.cls ≠ "java/lang/invoke/MethodHandle" ∧ y.cls ≠ "java/lang/invoke/VarHandle") (M : own_Met l y [Jvm.Cond.code y bytes mx rt] rm Z h argsL.toArray Q) (eT : T.heap = h) (hf : rm.frames + 1 ≤ R.frames) (hl : W + (mx + 11) + rm.locals ≤ R.locals) (hc : cells + rm.cells ≤ R.cells) (hs : slots + rm.slots ≤ R.slots)
    (hsz : Ls.size = c.maxLocals) (hlen : ∀ sig, parseMethodDescriptor y.desc = some sig → argsL.length = sig.parameters.length) (hst : St = argsL.reverse ++ rest) (hW : (rest.map fun v => v.category).sum ≤ W) (hd : decode c.code pc = .ok (.invokestatic index, 3))
    (K : ∀ v T' L, Stand p l e R s m args below meth c T' (locs ++ L) (cells + rm.cells) (slots + rm.slots) → Q v T'.heap L → own_Go p.tables e below F (T'.setTop (mkF m (pc + 3) Ls (v.toList ++ rest)))) :
    own_Go p.tables e below F (T.setTop (mkF m pc Ls St)) := by
  obtain ⟨v, _, ⟨T', L', k', n'⟩, -, X', ⟨L, hQ, l1, l2, l3⟩, st⟩ := Jvm.LawKit.callS X hx (y := y) hown (mvT hZ w1) (mvT hZ w2) (mvT hZ w3) (mvT hZ w4) hy (backOf (W := W) M hZ w4 w3 hf hl) (g := mkF m pc Ls St) rfl hsz (argsL := argsL) (rest := rest) hlen hst (by show 2 * 0 + _ ≤ _; rw [Nat.mul_zero, Nat.zero_add]; exact hW) hd (fun _ _ => ⟨rfl, eT, hc, hs⟩)
  dsimp only [Pt.U, Pt.locs, Pt.cells, Pt.slots] at X' l1 l2 l3 st hQ
  subst l1 l2 l3
  exact own_go st (K v T' L X' hQ)
theorem own_callV (X : Stand p l e R s m args below meth c T locs cells slots) (hx : p.tables.exec = Jvm.exec) (hZ : Z.Warmed39 s.vm) {own C : String} {index : Nat} {z : MethodName} {bytes : ByteArray} {mx : Nat} {rt : Option FieldType} {rm : Room} {W pc : Nat} {Ls : Array Slot} {a : Addr} {St argsL rest : List Value} {Q : Option Value → Heap → List Loc → Prop} {F : State → Outcome → Prop}
    (hown : s.vm.findClass own = some m.cls) (w1 : (Jvm.Cond.methodLink own index z).before a0 Z = true) (w2 : (Jvm.Cond.declares z).before a0 Z = true) (w3 : (Jvm.Cond.selects C z z).before a0 Z = true) (w4 : (Jvm.Cond.instanceMethod z).before a0 Z = true) (w5 : (Jvm.Cond.code z bytes mx rt).before a0 Z = true) (w6 : (Jvm.Cond.initialized z.cls).before a0 Z = true)
    (hy : z.cls ≠ "java/lang/invoke/MethodHandle" ∧ z.cls ≠ "java/lang/invoke/VarHandle") (E : Exa Z h a C) (M : own_Met l z [Jvm.Cond.code z bytes mx rt] rm Z h (.ref a :: argsL).toArray Q) (eT : T.heap = h) (hf : rm.frames + 1 ≤ R.frames) (hl : W + (mx + 11) + rm.locals ≤ R.locals) (hc : cells + rm.cells ≤ R.cells) (hs : slots + rm.slots ≤ R.slots)
    (hsz : Ls.size = c.maxLocals) (hlen : ∀ sig, parseMethodDescriptor z.desc = some sig → argsL.length = sig.parameters.length) (hst : St = argsL.reverse ++ .ref a :: rest) (hW : (rest.map fun v => v.category).sum ≤ W) (hd : decode c.code pc = .ok (.invokevirtual index, 3))
    (K : ∀ v T' L, Stand p l e R s m args below meth c T' (locs ++ L) (cells + rm.cells) (slots + rm.slots) → Q v T'.heap L → own_Go p.tables e below F (T'.setTop (mkF m (pc + 3) Ls (v.toList ++ rest)))) :
    own_Go p.tables e below F (T.setTop (mkF m pc Ls St)) := by
  obtain ⟨cq, kq, q1, q2, q3⟩ := isOf hZ eT E
  obtain ⟨v, _, ⟨T', L', k', n'⟩, -, X', ⟨L, hQ, l1, l2, l3⟩, st⟩ := X.virtualBack hx (y := z) (z := z) hown (mvT hZ w1) (mvT hZ w2) (notFace_of_selects (args := #[]) (mvT hZ w3)) (mvT hZ w3) (mvT hZ w4) hy (backOf (W := W) M hZ w5 w6 hf hl) q1 q3 (g := mkF m pc Ls St) rfl hsz (Steps.refl _) (argsL := argsL) (rest := rest) hlen hst (by show 2 * 0 + _ ≤ _; rw [Nat.mul_zero, Nat.zero_add]; exact hW) hd (fun _ _ => ⟨rfl, eT, hc, hs⟩)
  dsimp only [Pt.U, Pt.locs, Pt.cells, Pt.slots] at X' l1 l2 l3 st hQ
  subst l1 l2 l3
  exact own_gt st (K v T' L X' hQ)
theorem own_callI (X : Stand p l e R s m args below meth c T locs cells slots) (hx : p.tables.exec = Jvm.exec) (hZ : Z.Warmed39 s.vm) {own : String} {index : Nat} {y : MethodName} {bytes : ByteArray} {mx : Nat} {rm : Room} {W pc : Nat} {Ls : Array Slot} {a : Addr} {St argsL rest : List Value} {Q : Option Value → Heap → List Loc → Prop} {F : State → Outcome → Prop}
    (hown : s.vm.findClass own = some m.cls) (w1 : (Jvm.Cond.methodLink own index y).before a0 Z = true) (w2 : (Jvm.Cond.instanceMethod y).before a0 Z = true) (w3 : (Jvm.Cond.code y bytes mx none).before a0 Z = true) (w4 : (Jvm.Cond.initialized y.cls).before a0 Z = true) (hi : y.name = "<init>")
    (hy : y.cls ≠ "java/lang/invoke/MethodHandle" ∧ y.cls ≠ "java/lang/invoke/VarHandle") (M : own_Met l y [Jvm.Cond.code y bytes mx none] rm Z h (.ref a :: argsL).toArray Q) (eT : T.heap = h) (hf : rm.frames + 1 ≤ R.frames) (hl : W + (mx + 11) + rm.locals ≤ R.locals) (hc : cells + rm.cells ≤ R.cells) (hs : slots + rm.slots ≤ R.slots)
    (hsz : Ls.size = c.maxLocals) (hlen : ∀ sig, parseMethodDescriptor y.desc = some sig → argsL.length = sig.parameters.length) (hst : St = argsL.reverse ++ .ref a :: rest) (hW : (rest.map fun v => v.category).sum ≤ W) (hd : decode c.code pc = .ok (.invokespecial index, 3))
    (K : ∀ v T' L, Stand p l e R s m args below meth c T' (locs ++ L) (cells + rm.cells) (slots + rm.slots) → Q v T'.heap L → own_Go p.tables e below F (T'.setTop (mkF m (pc + 3) Ls (v.toList ++ rest)))) :
    own_Go p.tables e below F (T.setTop (mkF m pc Ls St)) := by
  obtain ⟨v, _, ⟨T', L', k', n'⟩, -, X', ⟨L, hQ, l1, l2, l3⟩, st⟩ := X.specialBack hx (y := y) hi hown (mvT hZ w1) (mvT hZ w2) (mvT hZ w3) hy (backOf (W := W) M hZ w3 w4 hf hl) (g := mkF m pc Ls St) rfl hsz (Steps.refl _) (a := a) (argsL := argsL) (rest := rest) hlen hst (by show 2 * 0 + _ ≤ _; rw [Nat.mul_zero, Nat.zero_add]; exact hW) hd (fun _ _ => ⟨rfl, eT, hc, hs⟩)
  dsimp only [Pt.U, Pt.locs, Pt.cells, Pt.slots] at X' l1 l2 l3 st hQ
  subst l1 l2 l3
  exact own_gt st (K v T' L X' hQ)
end OwnKit

/-! own kit 2: arrays by a function of the place -/
section OwnKit2
variable {p : Program} {l : Launch} {e : Env} {R : Room} {s : State} {m : MethodId} {args : Array Value} {below : List Frame} {meth : Method} {c : Code} {T : State} {locs : List Loc} {cells slots : Nat} {Z : State} {a0 : Array Value} {h h' : Heap} {a b : Addr} {k : ClassId} {ty : FieldType} {n i : Nat} {f f' : Nat → Value} {v : Value} {j : Int32} {pc : Nat} {Ls : Array Slot} {rest : List Value} {F : State → Outcome → Prop}
def own_Av (Z : State) (h : Heap) (a : Addr) (k : ClassId) (ty : FieldType) (n : Nat) (f : Nat → Value) : Prop := ∃ cl : Cell, Arr Z h a cl ty ∧ cl.cls = k ∧ cl.slots.size = n ∧ ∀ j, j < n → cl.slots[j]? = some (f j)
theorem own_Av.lt (V : own_Av Z h a k ty n f) : a < h.size := by obtain ⟨cl, A, -⟩ := V; exact A.lt
theorem own_Av.ext (E : Ext h h') (V : own_Av Z h a k ty n f) : own_Av Z h' a k ty n f := by obtain ⟨cl, A, r⟩ := V; exact ⟨cl, A.ext E, r⟩
theorem own_Av.other {sl : Nat} (W : Wr h h' b sl v) (V : own_Av Z h a k ty n f) (q : a ≠ b) : own_Av Z h' a k ty n f := by obtain ⟨cl, A, r⟩ := V; exact ⟨cl, A.other W q, r⟩
theorem own_Av.keep {ws : List Addr} (V : own_Av Z h a k ty n f) (K : Keep h h' ws) (q : a ∉ ws) : own_Av Z h' a k ty n f := by obtain ⟨cl, A, r⟩ := V; exact ⟨cl, ⟨K.2.1 a cl A.1 q, A.2⟩, r⟩
theorem own_Av.congr (V : own_Av Z h a k ty n f) (q : ∀ j, j < n → f j = f' j) : own_Av Z h a k ty n f' := by obtain ⟨cl, A, r1, r2, r3⟩ := V; exact ⟨cl, A, r1, r2, fun j hj => by rw [r3 j hj, q j hj]⟩
theorem own_Av.new {z : Int32} (A : Arr Z h a (newA k ty z) ty) (q : z.toNatClampNeg = n) : own_Av Z h a k ty n (fun _ => defaultValue ty) := ⟨_, A, rfl, (sz_new _ _ _).trans q, fun j hj => by simp [newA, q, hj]⟩
theorem own_Av.set (V : own_Av Z h a k ty n f) (W : Wr h h' a i v) (hi : i < n) : own_Av Z h' a k ty n (fun x => if x = i then v else f x) := by
  obtain ⟨cl, A, r1, r2, r3⟩ := V
  refine ⟨cl.setSlot i v, Arr.same W A, r1, (sz_set _ _ _).trans r2, fun x hx => ?_⟩
  by_cases q : x = i
  · subst q; show (cl.setSlot x v).slots[x]? = some (if x = x then v else f x); rw [if_pos rfl]; simp [Cell.setSlot, r2, hi]
  · show (cl.setSlot i v).slots[x]? = some (if x = i then v else f x); rw [if_neg q, ← r3 x hx]; exact Array.getElem?_setIfInBounds_ne (Ne.symm q)
theorem own_in (r : i < n) (hj : ¬ j < 0) (hi : j.toNatClampNeg = i) {cl : Cell} (S : cl.slots.size = n) : ¬ (j < 0 ∨ cl.slots.size ≤ j.toNatClampNeg) := fun q => q.elim hj fun q => by omega
theorem own_alen (X : Stand p l e R s m args below meth c T locs cells slots) (hx : p.tables.exec = Jvm.exec) (hZ : Z.Warmed39 s.vm) (eT : T.heap = h) (V : own_Av Z h a k ty n f) (z : Int32) (hz : n.toInt32 = z) (hd : decode c.code pc = .ok (.arraylength, 1))
    (q : own_Go p.tables e below F (T.setTop (mkF m (pc + 1) Ls (.int z :: rest)))) : own_Go p.tables e below F (T.setTop (mkF m pc Ls (.ref a :: rest))) := by
  obtain ⟨cl, A, r1, r2, r3⟩ := V
  subst hz r2
  exact own_go (fun t k => X.arraylength hx (by rw [eT]; exact A.1) (State.isArrayOf_alike hZ.alike A.2.1) (g := mkF m pc Ls (.ref a :: rest)) rfl rfl hd t k) q
theorem own_bald (X : Stand p l e R s m args below meth c T locs cells slots) (hx : p.tables.exec = Jvm.exec) (hZ : Z.Warmed39 s.vm) (eT : T.heap = h) (V : own_Av Z h a k .byte n f) (i : Nat) (hj : ¬ j < 0) (hi : j.toNatClampNeg = i) (r : i < n) {w : Value} (hw : f i = w) (hd : decode c.code pc = .ok (.baload, 1))
    (q : own_Go p.tables e below F (T.setTop (mkF m (pc + 1) Ls (w :: rest)))) : own_Go p.tables e below F (T.setTop (mkF m pc Ls (.int j :: .ref a :: rest))) := by
  obtain ⟨cl, A, r1, r2, r3⟩ := V
  subst hw
  exact own_go (fun t k => X.baloadBytes hx (by rw [eT]; exact A.1) (State.isArrayOf_alike hZ.alike A.2.1) A.2.2 (own_in r hj hi r2) (by rw [hi]; exact r3 i r) (g := mkF m pc Ls (.int j :: .ref a :: rest)) rfl rfl hd t k) q
theorem own_iald (X : Stand p l e R s m args below meth c T locs cells slots) (hx : p.tables.exec = Jvm.exec) (hZ : Z.Warmed39 s.vm) (eT : T.heap = h) (V : own_Av Z h a k .int n f) (i : Nat) (hj : ¬ j < 0) (hi : j.toNatClampNeg = i) (r : i < n) {w : Value} (hw : f i = w) (hd : decode c.code pc = .ok (.iaload, 1))
    (q : own_Go p.tables e below F (T.setTop (mkF m (pc + 1) Ls (w :: rest)))) : own_Go p.tables e below F (T.setTop (mkF m pc Ls (.int j :: .ref a :: rest))) := by
  obtain ⟨cl, A, r1, r2, r3⟩ := V
  subst hw
  exact own_go (fun t k => X.iaload hx (by rw [eT]; exact A.1) (State.isArrayOf_alike hZ.alike A.2.1) A.2.2 (own_in r hj hi r2) (by rw [hi]; exact r3 i r) (g := mkF m pc Ls (.int j :: .ref a :: rest)) rfl rfl hd t k) q
theorem own_lald (X : Stand p l e R s m args below meth c T locs cells slots) (hx : p.tables.exec = Jvm.exec) (hZ : Z.Warmed39 s.vm) (eT : T.heap = h) (V : own_Av Z h a k .long n f) (i : Nat) (hj : ¬ j < 0) (hi : j.toNatClampNeg = i) (r : i < n) {w : Value} (hw : f i = w) (hd : decode c.code pc = .ok (.laload, 1))
    (q : own_Go p.tables e below F (T.setTop (mkF m (pc + 1) Ls (w :: rest)))) : own_Go p.tables e below F (T.setTop (mkF m pc Ls (.int j :: .ref a :: rest))) := by
  obtain ⟨cl, A, r1, r2, r3⟩ := V
  subst hw
  exact own_go (fun t k => X.laload hx (by rw [eT]; exact A.1) (State.isArrayOf_alike hZ.alike A.2.1) A.2.2 (own_in r hj hi r2) (by rw [hi]; exact r3 i r) (g := mkF m pc Ls (.int j :: .ref a :: rest)) rfl rfl hd t k) q
theorem own_aald (X : Stand p l e R s m args below meth c T locs cells slots) (hx : p.tables.exec = Jvm.exec) (hZ : Z.Warmed39 s.vm) (eT : T.heap = h) (V : own_Av Z h a k ty n f) (hty : ty.isReference = true) (i : Nat) (hj : ¬ j < 0) (hi : j.toNatClampNeg = i) (r : i < n) {w : Value} (hw : f i = w) (hd : decode c.code pc = .ok (.aaload, 1))
    (q : own_Go p.tables e below F (T.setTop (mkF m (pc + 1) Ls (w :: rest)))) : own_Go p.tables e below F (T.setTop (mkF m pc Ls (.int j :: .ref a :: rest))) := by
  obtain ⟨cl, A, r1, r2, r3⟩ := V
  subst hw
  exact own_go (fun t k => X.aaload hx (by rw [eT]; exact A.1) (State.isArrayOf_alike hZ.alike A.2.1) hty A.2.2 (own_in r hj hi r2) (by rw [hi]; exact r3 i r) (g := mkF m pc Ls (.int j :: .ref a :: rest)) rfl rfl hd t k) q
theorem own_bast (X : Stand p l e R s m args below meth c T locs cells slots) (hx : p.tables.exec = Jvm.exec) (hZ : Z.Warmed39 s.vm) (eT : T.heap = h) (V : own_Av Z h a k .byte n f) (i : Nat) {x : Int32} (hj : ¬ j < 0) (hi : j.toNatClampNeg = i) (r : i < n) (hd : decode c.code pc = .ok (.bastore, 1))
    (q : ∀ T' h', Stand p l e R s m args below meth c T' (locs ++ [⟨a, i⟩]) cells slots → T'.heap = h' → Wr h h' a i (.int x.toInt8.toInt32) → own_Go p.tables e below F (T'.setTop (mkF m (pc + 1) Ls rest))) : own_Go p.tables e below F (T.setTop (mkF m pc Ls (.int x :: .int j :: .ref a :: rest))) := by
  obtain ⟨cl, A, r1, r2, r3⟩ := V
  obtain ⟨T', h', X', e', W, st⟩ := stB X hx hZ eT A (own_in r hj hi r2) (g := mkF m pc Ls (.int x :: .int j :: .ref a :: rest)) rfl rfl hd
  rw [hi] at X' W
  exact own_go st (q T' h' X' e' W)
theorem own_iast (X : Stand p l e R s m args below meth c T locs cells slots) (hx : p.tables.exec = Jvm.exec) (hZ : Z.Warmed39 s.vm) (eT : T.heap = h) (V : own_Av Z h a k .int n f) (i : Nat) {x : Int32} (hj : ¬ j < 0) (hi : j.toNatClampNeg = i) (r : i < n) (hd : decode c.code pc = .ok (.iastore, 1))
    (q : ∀ T' h', Stand p l e R s m args below meth c T' (locs ++ [⟨a, i⟩]) cells slots → T'.heap = h' → Wr h h' a i (.int x) → own_Go p.tables e below F (T'.setTop (mkF m (pc + 1) Ls rest))) : own_Go p.tables e below F (T.setTop (mkF m pc Ls (.int x :: .int j :: .ref a :: rest))) := by
  obtain ⟨cl, A, r1, r2, r3⟩ := V
  obtain ⟨T', h', X', e', W, st⟩ := stI X hx hZ eT A (own_in r hj hi r2) (g := mkF m pc Ls (.int x :: .int j :: .ref a :: rest)) rfl rfl hd
  rw [hi] at X' W
  exact own_go st (q T' h' X' e' W)
theorem own_last (X : Stand p l e R s m args below meth c T locs cells slots) (hx : p.tables.exec = Jvm.exec) (hZ : Z.Warmed39 s.vm) (eT : T.heap = h) (V : own_Av Z h a k .long n f) (i : Nat) {x : Int64} (hj : ¬ j < 0) (hi : j.toNatClampNeg = i) (r : i < n) (hd : decode c.code pc = .ok (.lastore, 1))
    (q : ∀ T' h', Stand p l e R s m args below meth c T' (locs ++ [⟨a, i⟩]) cells slots → T'.heap = h' → Wr h h' a i (.long x) → own_Go p.tables e below F (T'.setTop (mkF m (pc + 1) Ls rest))) : own_Go p.tables e below F (T.setTop (mkF m pc Ls (.long x :: .int j :: .ref a :: rest))) := by
  obtain ⟨cl, A, r1, r2, r3⟩ := V
  obtain ⟨T', h', X', e', W, st⟩ := stJ X hx hZ eT A (own_in r hj hi r2) (g := mkF m pc Ls (.long x :: .int j :: .ref a :: rest)) rfl rfl hd
  rw [hi] at X' W
  exact own_go st (q T' h' X' e' W)
theorem own_aast (X : Stand p l e R s m args below meth c T locs cells slots) (hx : p.tables.exec = Jvm.exec) (hZ : Z.Warmed39 s.vm) (eT : T.heap = h) (V : own_Av Z h a k ty n f) (hty : ty.isReference = true) (S : Sto Z h a v) (i : Nat) (hj : ¬ j < 0) (hi : j.toNatClampNeg = i) (r : i < n) (hd : decode c.code pc = .ok (.aastore, 1))
    (q : ∀ T' h', Stand p l e R s m args below meth c T' (locs ++ [⟨a, i⟩]) cells slots → T'.heap = h' → Wr h h' a i v → own_Go p.tables e below F (T'.setTop (mkF m (pc + 1) Ls rest))) : own_Go p.tables e below F (T.setTop (mkF m pc Ls (v :: .int j :: .ref a :: rest))) := by
  obtain ⟨cl, A, r1, r2, r3⟩ := V
  obtain ⟨T', h', X', e', W, st⟩ := stR X hx hZ eT A (own_in r hj hi r2) hty S (g := mkF m pc Ls (v :: .int j :: .ref a :: rest)) rfl rfl hd
  rw [hi] at X' W
  exact own_go st (q T' h' X' e' W)
end OwnKit2

def own_by (z : Int32) : Int32 := z.toInt8.toInt32.toInt8.toInt32
def own_us (v : Int64) (q : Int32) : Int64 := (v.toUInt64 >>> (q &&& 0x3f).toInt64.toUInt64).toInt64
def own_le (g : Nat → Int32) : Nat → Int64
  | 0 => 0
  | n + 1 => own_le g n ||| (((g n).toInt64 &&& (255 : Int64)) <<< (((8 : Int32) * Int32.ofNat n) &&& 0x3f).toInt64)
def own_vb (v : Int64) (n : Nat) : Int32 := if n = 0 then own_by v.toInt32 else if n = 1 then own_by (own_us v 8).toInt32 else if n = 2 then own_by (own_us v 16).toInt32 else if n = 3 then own_by (own_us v 24).toInt32 else if n = 4 then own_by (own_us v 32).toInt32 else if n = 5 then own_by (own_us v 40).toInt32 else if n = 6 then own_by (own_us v 48).toInt32 else own_by (own_us v 56).toInt32
theorem own_by1 (z : Int32) : own_by z = z.toInt8.toInt32 := by
  apply Int32.toInt_inj.mp
  have a := c_i2b z
  have b := c_i2b z.toInt8.toInt32
  unfold own_by
  omega
theorem own_byte (z : Int64) : ((own_by z.toInt32).toInt64 &&& (255 : Int64)).toInt = z.toInt % 256 := by
  have a := c_maskL (own_by z.toInt32).toInt64 255 8 (by decide) (by decide)
  have l : (((2 ^ 8 : Nat) : Nat) : Int) = 256 := by decide
  have b := c_i2l (own_by z.toInt32)
  rw [l, b] at a
  have c := c_i2b z.toInt32
  have d := c_l2i z
  rw [own_by1] at a ⊢
  omega
theorem own_ix (z : Int32) (n : Nat) (q : z.toInt = n) : ¬ z < 0 ∧ z.toNatClampNeg = n := by
  have e : z.toNatClampNeg = z.toInt.toNat := rfl
  refine ⟨fun r => ?_, by rw [e]; omega⟩
  rw [Int32.lt_iff_toInt_lt] at r
  have l : (0 : Int32).toInt = 0 := by decide
  omega
theorem own_of (n : Nat) (h : n < 1000) : (Int32.ofNat n).toInt = (n : Int) := Int32.toInt_ofNat_of_lt (by omega)
theorem own_up (k d : Int32) (n j : Nat) (hk : k.toInt = n) (hd : d.toInt = j) (hn : n + j < 2000) : (k + d).toInt = ((n + j : Nat) : Int) := by
  have a := c_iadd k d
  have r := rng32 (k + d)
  omega
theorem own_inc (n : Nat) (h : n < 100) : Int32.ofNat n + 1 = Int32.ofNat (n + 1) := by
  apply Int32.toInt_inj.mp
  rw [own_of (n + 1) (by omega)]
  exact own_up (Int32.ofNat n) 1 n 1 (own_of n (by omega)) (by decide) (by omega)
theorem own_lt (n N : Nat) (z : Int32) (hz : z.toInt = N) (h : n < 100) : Int32.ofNat n < z ↔ n < N := by
  rw [Int32.lt_iff_toInt_lt, own_of n (by omega), hz]; omega
theorem own_mod9 (x : Int32) : 0 ≤ ((x &&& (2147483647 : Int32)) % (9 : Int32)).toInt ∧ ((x &&& (2147483647 : Int32)) % (9 : Int32)).toInt ≤ 8 := by
  have a1 := c_mask x 2147483647 31 (by decide) (by decide)
  have l1 : (((2 ^ 31 : Nat) : Nat) : Int) = 2147483648 := by decide
  rw [l1] at a1
  have a2 := (c_irem (x &&& 2147483647) 9 9 (by decide)).1 (by omega)
  omega
theorem own_vu (v : Int64) (n : Nat) (hn : n < 8) : ((own_vb v n).toInt64 &&& (255 : Int64)).toInt = (v.toInt % 18446744073709551616) / (2 ^ (8 * n) : Nat) % 256 := by
  rcases n with _ | _ | _ | _ | _ | _ | _ | _ | n
  · have a := own_byte v
    have e : (((2 ^ (8 * 0) : Nat) : Nat) : Int) = 1 := by decide
    rw [e]
    show ((own_by v.toInt32).toInt64 &&& (255 : Int64)).toInt = _
    omega
  · have a := own_byte (own_us v 8)
    have b : (own_us v 8).toInt = (v.toInt % 18446744073709551616) / (2 ^ 8 : Nat) := c_lushr v 8 8 (by decide) (by decide)
    rw [b] at a
    exact a
  · have a := own_byte (own_us v 16)
    have b : (own_us v 16).toInt = (v.toInt % 18446744073709551616) / (2 ^ 16 : Nat) := c_lushr v 16 16 (by decide) (by decide)
    rw [b] at a
    exact a
  · have a := own_byte (own_us v 24)
    have b : (own_us v 24).toInt = (v.toInt % 18446744073709551616) / (2 ^ 24 : Nat) := c_lushr v 24 24 (by decide) (by decide)
    rw [b] at a
    exact a
  · have a := own_byte (own_us v 32)
    have b : (own_us v 32).toInt = (v.toInt % 18446744073709551616) / (2 ^ 32 : Nat) := c_lushr v 32 32 (by decide) (by decide)
    rw [b] at a
    exact a
  · have a := own_byte (own_us v 40)
    have b : (own_us v 40).toInt = (v.toInt % 18446744073709551616) / (2 ^ 40 : Nat) := c_lushr v 40 40 (by decide) (by decide)
    rw [b] at a
    exact a
  · have a := own_byte (own_us v 48)
    have b : (own_us v 48).toInt = (v.toInt % 18446744073709551616) / (2 ^ 48 : Nat) := c_lushr v 48 48 (by decide) (by decide)
    rw [b] at a
    exact a
  · have a := own_byte (own_us v 56)
    have b : (own_us v 56).toInt = (v.toInt % 18446744073709551616) / (2 ^ 56 : Nat) := c_lushr v 56 56 (by decide) (by decide)
    rw [b] at a
    exact a
  · omega
theorem own_s0 (v acc x : Int64) (h1 : acc.toInt = v.toInt % 1) (h2 : x.toInt = (v.toInt % 18446744073709551616) / (2 ^ (8 * 0) : Nat) % 256) : (acc ||| (x <<< (((8 : Int32) * Int32.ofNat 0) &&& 0x3f).toInt64)).toInt = v.toInt % 256 := by
  have a := c_lshl x ((8 : Int32) * Int32.ofNat 0) 0 (by decide)
  have l : (((2 ^ (8 * 0) : Nat) : Nat) : Int) = 1 := by decide
  have l' : (((2 ^ 0 : Nat) : Nat) : Int) = 1 := by decide
  rw [l] at h2
  rw [l'] at a
  generalize x <<< (((8 : Int32) * Int32.ofNat 0) &&& 0x3f).toInt64 = S at *
  have rv := rng64 v
  have rs := rng64 S
  have q := c_orL' acc S 0 (by decide) 1 (by decide) (by omega) (by omega) (by omega)
  have ro := rng64 (acc ||| S)
  omega
theorem own_s1 (v acc x : Int64) (h1 : acc.toInt = v.toInt % 256) (h2 : x.toInt = (v.toInt % 18446744073709551616) / (2 ^ (8 * 1) : Nat) % 256) : (acc ||| (x <<< (((8 : Int32) * Int32.ofNat 1) &&& 0x3f).toInt64)).toInt = v.toInt % 65536 := by
  have a := c_lshl x ((8 : Int32) * Int32.ofNat 1) 8 (by decide)
  have l : (((2 ^ (8 * 1) : Nat) : Nat) : Int) = 256 := by decide
  have l' : (((2 ^ 8 : Nat) : Nat) : Int) = 256 := by decide
  rw [l] at h2
  rw [l'] at a
  generalize x <<< (((8 : Int32) * Int32.ofNat 1) &&& 0x3f).toInt64 = S at *
  have rv := rng64 v
  have rs := rng64 S
  have q := c_orL' acc S 8 (by decide) 256 (by decide) (by omega) (by omega) (by omega)
  have ro := rng64 (acc ||| S)
  omega
theorem own_s2 (v acc x : Int64) (h1 : acc.toInt = v.toInt % 65536) (h2 : x.toInt = (v.toInt % 18446744073709551616) / (2 ^ (8 * 2) : Nat) % 256) : (acc ||| (x <<< (((8 : Int32) * Int32.ofNat 2) &&& 0x3f).toInt64)).toInt = v.toInt % 16777216 := by
  have a := c_lshl x ((8 : Int32) * Int32.ofNat 2) 16 (by decide)
  have l : (((2 ^ (8 * 2) : Nat) : Nat) : Int) = 65536 := by decide
  have l' : (((2 ^ 16 : Nat) : Nat) : Int) = 65536 := by decide
  rw [l] at h2
  rw [l'] at a
  generalize x <<< (((8 : Int32) * Int32.ofNat 2) &&& 0x3f).toInt64 = S at *
  have rv := rng64 v
  have rs := rng64 S
  have q := c_orL' acc S 16 (by decide) 65536 (by decide) (by omega) (by omega) (by omega)
  have ro := rng64 (acc ||| S)
  omega
theorem own_s3 (v acc x : Int64) (h1 : acc.toInt = v.toInt % 16777216) (h2 : x.toInt = (v.toInt % 18446744073709551616) / (2 ^ (8 * 3) : Nat) % 256) : (acc ||| (x <<< (((8 : Int32) * Int32.ofNat 3) &&& 0x3f).toInt64)).toInt = v.toInt % 4294967296 := by
  have a := c_lshl x ((8 : Int32) * Int32.ofNat 3) 24 (by decide)
  have l : (((2 ^ (8 * 3) : Nat) : Nat) : Int) = 16777216 := by decide
  have l' : (((2 ^ 24 : Nat) : Nat) : Int) = 16777216 := by decide
  rw [l] at h2
  rw [l'] at a
  generalize x <<< (((8 : Int32) * Int32.ofNat 3) &&& 0x3f).toInt64 = S at *
  have rv := rng64 v
  have rs := rng64 S
  have q := c_orL' acc S 24 (by decide) 16777216 (by decide) (by omega) (by omega) (by omega)
  have ro := rng64 (acc ||| S)
  omega
theorem own_s4 (v acc x : Int64) (h1 : acc.toInt = v.toInt % 4294967296) (h2 : x.toInt = (v.toInt % 18446744073709551616) / (2 ^ (8 * 4) : Nat) % 256) : (acc ||| (x <<< (((8 : Int32) * Int32.ofNat 4) &&& 0x3f).toInt64)).toInt = v.toInt % 1099511627776 := by
  have a := c_lshl x ((8 : Int32) * Int32.ofNat 4) 32 (by decide)
  have l : (((2 ^ (8 * 4) : Nat) : Nat) : Int) = 4294967296 := by decide
  have l' : (((2 ^ 32 : Nat) : Nat) : Int) = 4294967296 := by decide
  rw [l] at h2
  rw [l'] at a
  generalize x <<< (((8 : Int32) * Int32.ofNat 4) &&& 0x3f).toInt64 = S at *
  have rv := rng64 v
  have rs := rng64 S
  have q := c_orL' acc S 32 (by decide) 4294967296 (by decide) (by omega) (by omega) (by omega)
  have ro := rng64 (acc ||| S)
  omega
theorem own_s5 (v acc x : Int64) (h1 : acc.toInt = v.toInt % 1099511627776) (h2 : x.toInt = (v.toInt % 18446744073709551616) / (2 ^ (8 * 5) : Nat) % 256) : (acc ||| (x <<< (((8 : Int32) * Int32.ofNat 5) &&& 0x3f).toInt64)).toInt = v.toInt % 281474976710656 := by
  have a := c_lshl x ((8 : Int32) * Int32.ofNat 5) 40 (by decide)
  have l : (((2 ^ (8 * 5) : Nat) : Nat) : Int) = 1099511627776 := by decide
  have l' : (((2 ^ 40 : Nat) : Nat) : Int) = 1099511627776 := by decide
  rw [l] at h2
  rw [l'] at a
  generalize x <<< (((8 : Int32) * Int32.ofNat 5) &&& 0x3f).toInt64 = S at *
  have rv := rng64 v
  have rs := rng64 S
  have q := c_orL' acc S 40 (by decide) 1099511627776 (by decide) (by omega) (by omega) (by omega)
  have ro := rng64 (acc ||| S)
  omega
theorem own_s6 (v acc x : Int64) (h1 : acc.toInt = v.toInt % 281474976710656) (h2 : x.toInt = (v.toInt % 18446744073709551616) / (2 ^ (8 * 6) : Nat) % 256) : (acc ||| (x <<< (((8 : Int32) * Int32.ofNat 6) &&& 0x3f).toInt64)).toInt = v.toInt % 72057594037927936 := by
  have a := c_lshl x ((8 : Int32) * Int32.ofNat 6) 48 (by decide)
  have l : (((2 ^ (8 * 6) : Nat) : Nat) : Int) = 281474976710656 := by decide
  have l' : (((2 ^ 48 : Nat) : Nat) : Int) = 281474976710656 := by decide
  rw [l] at h2
  rw [l'] at a
  generalize x <<< (((8 : Int32) * Int32.ofNat 6) &&& 0x3f).toInt64 = S at *
  have rv := rng64 v
  have rs := rng64 S
  have q := c_orL' acc S 48 (by decide) 281474976710656 (by decide) (by omega) (by omega) (by omega)
  have ro := rng64 (acc ||| S)
  omega
theorem own_s7 (v acc x : Int64) (h1 : acc.toInt = v.toInt % 72057594037927936) (h2 : x.toInt = (v.toInt % 18446744073709551616) / (2 ^ (8 * 7) : Nat) % 256) : (acc ||| (x <<< (((8 : Int32) * Int32.ofNat 7) &&& 0x3f).toInt64)).toInt = v.toInt := by
  have a := c_lshl x ((8 : Int32) * Int32.ofNat 7) 56 (by decide)
  have l : (((2 ^ (8 * 7) : Nat) : Nat) : Int) = 72057594037927936 := by decide
  have l' : (((2 ^ 56 : Nat) : Nat) : Int) = 72057594037927936 := by decide
  rw [l] at h2
  rw [l'] at a
  generalize x <<< (((8 : Int32) * Int32.ofNat 7) &&& 0x3f).toInt64 = S at *
  have rv := rng64 v
  have rs := rng64 S
  have q := c_orL' acc S 56 (by decide) 72057594037927936 (by decide) (by omega) (by omega) (by omega)
  have ro := rng64 (acc ||| S)
  omega
theorem own_all (v : Int64) : (own_le (own_vb v) 0).toInt = v.toInt % 1 ∧ (own_le (own_vb v) 1).toInt = v.toInt % 256 ∧ (own_le (own_vb v) 2).toInt = v.toInt % 65536 ∧ (own_le (own_vb v) 3).toInt = v.toInt % 16777216 ∧ (own_le (own_vb v) 4).toInt = v.toInt % 4294967296 ∧ (own_le (own_vb v) 5).toInt = v.toInt % 1099511627776 ∧ (own_le (own_vb v) 6).toInt = v.toInt % 281474976710656 ∧ (own_le (own_vb v) 7).toInt = v.toInt % 72057594037927936 ∧ (own_le (own_vb v) 8).toInt = v.toInt := by
  have z0 : (0 : Int64).toInt = 0 := by decide
  have e0 : (own_le (own_vb v) 0).toInt = v.toInt % 1 := by show (0 : Int64).toInt = _; rw [z0]; omega
  have e1 : (own_le (own_vb v) 1).toInt = v.toInt % 256 := own_s0 v (own_le (own_vb v) 0) _ e0 (own_vu v 0 (by decide))
  have e2 : (own_le (own_vb v) 2).toInt = v.toInt % 65536 := own_s1 v (own_le (own_vb v) 1) _ e1 (own_vu v 1 (by decide))
  have e3 : (own_le (own_vb v) 3).toInt = v.toInt % 16777216 := own_s2 v (own_le (own_vb v) 2) _ e2 (own_vu v 2 (by decide))
  have e4 : (own_le (own_vb v) 4).toInt = v.toInt % 4294967296 := own_s3 v (own_le (own_vb v) 3) _ e3 (own_vu v 3 (by decide))
  have e5 : (own_le (own_vb v) 5).toInt = v.toInt % 1099511627776 := own_s4 v (own_le (own_vb v) 4) _ e4 (own_vu v 4 (by decide))
  have e6 : (own_le (own_vb v) 6).toInt = v.toInt % 281474976710656 := own_s5 v (own_le (own_vb v) 5) _ e5 (own_vu v 5 (by decide))
  have e7 : (own_le (own_vb v) 7).toInt = v.toInt % 72057594037927936 := own_s6 v (own_le (own_vb v) 6) _ e6 (own_vu v 6 (by decide))
  have e8 : (own_le (own_vb v) 8).toInt = v.toInt := own_s7 v (own_le (own_vb v) 7) _ e7 (own_vu v 7 (by decide))
  exact ⟨e0, e1, e2, e3, e4, e5, e6, e7, e8⟩
theorem own_fin (v : Int64) (b : Int32) (N : Nat) (hb : b.toInt = N) (hN : N ≤ 8) (h8 : ¬ b = 8) : own_le (own_vb v) N = v &&& (((1 : Int64) <<< (((8 : Int32) * b) &&& 0x3f).toInt64) - (1 : Int64)) := by
  obtain ⟨e0, e1, e2, e3, e4, e5, e6, e7, e8⟩ := own_all v
  apply Int64.toInt_inj.mp
  rcases N with _ | _ | _ | _ | _ | _ | _ | _ | _ | N
  · obtain rfl : b = 0 := Int32.toInt_inj.mp (by rw [hb]; decide)
    have a := c_maskL v (((1 : Int64) <<< (((8 : Int32) * 0) &&& 0x3f).toInt64) - (1 : Int64)) 0 (by decide) (by decide)
    have l : (((2 ^ 0 : Nat) : Nat) : Int) = 1 := by decide
    rw [l] at a
    rw [a]
    exact e0
  · obtain rfl : b = 1 := Int32.toInt_inj.mp (by rw [hb]; decide)
    have a := c_maskL v (((1 : Int64) <<< (((8 : Int32) * 1) &&& 0x3f).toInt64) - (1 : Int64)) 8 (by decide) (by decide)
    have l : (((2 ^ 8 : Nat) : Nat) : Int) = 256 := by decide
    rw [l] at a
    rw [a]
    exact e1
  · obtain rfl : b = 2 := Int32.toInt_inj.mp (by rw [hb]; decide)
    have a := c_maskL v (((1 : Int64) <<< (((8 : Int32) * 2) &&& 0x3f).toInt64) - (1 : Int64)) 16 (by decide) (by decide)
    have l : (((2 ^ 16 : Nat) : Nat) : Int) = 65536 := by decide
    rw [l] at a
    rw [a]
    exact e2
  · obtain rfl : b = 3 := Int32.toInt_inj.mp (by rw [hb]; decide)
    have a := c_maskL v (((1 : Int64) <<< (((8 : Int32) * 3) &&& 0x3f).toInt64) - (1 : Int64)) 24 (by decide) (by decide)
    have l : (((2 ^ 24 : Nat) : Nat) : Int) = 16777216 := by decide
    rw [l] at a
    rw [a]
    exact e3
  · obtain rfl : b = 4 := Int32.toInt_inj.mp (by rw [hb]; decide)
    have a := c_maskL v (((1 : Int64) <<< (((8 : Int32) * 4) &&& 0x3f).toInt64) - (1 : Int64)) 32 (by decide) (by decide)
    have l : (((2 ^ 32 : Nat) : Nat) : Int) = 4294967296 := by decide
    rw [l] at a
    rw [a]
    exact e4
  · obtain rfl : b = 5 := Int32.toInt_inj.mp (by rw [hb]; decide)
    have a := c_maskL v (((1 : Int64) <<< (((8 : Int32) * 5) &&& 0x3f).toInt64) - (1 : Int64)) 40 (by decide) (by decide)
    have l : (((2 ^ 40 : Nat) : Nat) : Int) = 1099511627776 := by decide
    rw [l] at a
    rw [a]
    exact e5
  · obtain rfl : b = 6 := Int32.toInt_inj.mp (by rw [hb]; decide)
    have a := c_maskL v (((1 : Int64) <<< (((8 : Int32) * 6) &&& 0x3f).toInt64) - (1 : Int64)) 48 (by decide) (by decide)
    have l : (((2 ^ 48 : Nat) : Nat) : Int) = 281474976710656 := by decide
    rw [l] at a
    rw [a]
    exact e6
  · obtain rfl : b = 7 := Int32.toInt_inj.mp (by rw [hb]; decide)
    have a := c_maskL v (((1 : Int64) <<< (((8 : Int32) * 7) &&& 0x3f).toInt64) - (1 : Int64)) 56 (by decide) (by decide)
    have l : (((2 ^ 56 : Nat) : Nat) : Int) = 72057594037927936 := by decide
    rw [l] at a
    rw [a]
    exact e7
  · exact absurd (Int32.toInt_inj.mp (by rw [hb]; decide)) h8
  · omega
theorem own_fin8 (v : Int64) (b : Int32) (N : Nat) (hb : b.toInt = N) (h8 : b = 8) : own_le (own_vb v) N = v := by
  have l : (8 : Int32).toInt = 8 := by decide
  obtain rfl : N = 8 := by rw [h8, l] at hb; omega
  exact Int64.toInt_inj.mp (own_all v).2.2.2.2.2.2.2.2
theorem own_d1_0 : decode prog_8_method_2_code 0 = .ok (.lconst 0, 1) := by decide +kernel
theorem own_d1_1 : decode prog_8_method_2_code 1 = .ok (.lstore_n 3, 1) := by decide +kernel
theorem own_d1_2 : decode prog_8_method_2_code 2 = .ok (.iconst 0, 1) := by decide +kernel
theorem own_d1_3 : decode prog_8_method_2_code 3 = .ok (.istore 5, 2) := by decide +kernel
theorem own_d1_5 : decode prog_8_method_2_code 5 = .ok (.iload 5, 2) := by decide +kernel
theorem own_d1_7 : decode prog_8_method_2_code 7 = .ok (.iload_n 2, 1) := by decide +kernel
theorem own_d1_8 : decode prog_8_method_2_code 8 = .ok (.if_icmp .ge 29, 3) := by decide +kernel
theorem own_d1_11 : decode prog_8_method_2_code 11 = .ok (.lload_n 3, 1) := by decide +kernel
theorem own_d1_12 : decode prog_8_method_2_code 12 = .ok (.aload_n 0, 1) := by decide +kernel
theorem own_d1_13 : decode prog_8_method_2_code 13 = .ok (.iload_n 1, 1) := by decide +kernel
theorem own_d1_14 : decode prog_8_method_2_code 14 = .ok (.iload 5, 2) := by decide +kernel
theorem own_d1_16 : decode prog_8_method_2_code 16 = .ok (.iadd, 1) := by decide +kernel
theorem own_d1_17 : decode prog_8_method_2_code 17 = .ok (.baload, 1) := by decide +kernel
theorem own_d1_18 : decode prog_8_method_2_code 18 = .ok (.i2l, 1) := by decide +kernel
theorem own_d1_19 : decode prog_8_method_2_code 19 = .ok (.ldc2_w 7, 3) := by decide +kernel
theorem own_d1_22 : decode prog_8_method_2_code 22 = .ok (.land, 1) := by decide +kernel
theorem own_d1_23 : decode prog_8_method_2_code 23 = .ok (.bipush 8, 2) := by decide +kernel
theorem own_d1_25 : decode prog_8_method_2_code 25 = .ok (.iload 5, 2) := by decide +kernel
theorem own_d1_27 : decode prog_8_method_2_code 27 = .ok (.imul, 1) := by decide +kernel
theorem own_d1_28 : decode prog_8_method_2_code 28 = .ok (.lshl, 1) := by decide +kernel
theorem own_d1_29 : decode prog_8_method_2_code 29 = .ok (.lor, 1) := by decide +kernel
theorem own_d1_30 : decode prog_8_method_2_code 30 = .ok (.lstore_n 3, 1) := by decide +kernel
theorem own_d1_31 : decode prog_8_method_2_code 31 = .ok (.iinc 5 1, 3) := by decide +kernel
theorem own_d1_34 : decode prog_8_method_2_code 34 = .ok (.goto (-29), 3) := by decide +kernel
theorem own_d1_37 : decode prog_8_method_2_code 37 = .ok (.lload_n 3, 1) := by decide +kernel
theorem own_d1_38 : decode prog_8_method_2_code 38 = .ok (.lreturn, 1) := by decide +kernel
theorem own_pn_1 : plainName "com/example/sediment/sediment/CodecBytes" = true := by first | (simp [plainName, overriddenIn]; done) | decide +kernel
theorem own_pn_0 : plainName "com/example/sediment/sediment/CodecBytesLittleEndianPinLaw" = true := by first | (simp [plainName, overriddenIn]; done) | decide +kernel
theorem own_pd___BII_J : parseMethodDescriptor "([BII)J" = some ⟨[(.array .byte), .int, .int], (some .long)⟩ := by decide +kernel
theorem own_rm1_ef (m : MethodId) (a5 : Addr) (t5 : Int32) (b5 : Int32)  : entryFrame m #[(.ref a5), (.int t5), (.int b5)] 6 = mkF m 0 #[.val (.ref a5), .val (.int t5), .val (.int b5), .unset, .unset, .unset] [] := by first | (simp [entryFrame, mkF, argsToLocals, Value.category, maxLocals]; done) | rfl
set_option maxRecDepth 65536 in
set_option maxHeartbeats 40000000 in
theorem own_rm1 (l : Launch) (Z : State) (a0 : Array Value) (hw : ∀ d ∈ tables_1, d.before a0 Z = true) (a5 : Addr) (t5 : Int32) (b5 : Int32) (h0 : Heap) (n0 : Nat) (Z0 : n0 ≤ h0.size) (kE : ClassId) (f : Nat → Value) (g : Nat → Int32) (t N : Nat) (V1 : own_Av Z h0 a5 kE .byte 16 f) (ht : t5.toInt = (t : Int)) (hB : b5.toInt = (N : Int)) (hN : N ≤ 8) (hl : t ≤ 8) (hg : ∀ n, n < N → f (t + n) = .int (g n)) :
    own_Met l (⟨"com/example/sediment/sediment/CodecBytes", "littleEndian", "([BII)J"⟩ : MethodName) (Jvm.Cond.code (⟨"com/example/sediment/sediment/CodecBytes", "littleEndian", "([BII)J"⟩ : MethodName) prog_8_method_2_code 6 (some .long) :: []) ({ frames := 0, cells := 0, slots := 0, locals := 0 } : Room) Z h0 #[(.ref a5), (.int t5), (.int b5)] (fun v h L => v = some (.long (own_le g N)) ∧ Fr n0 L ∧ h = h0) := by
  refine own_body (pn := own_pn_1) ?_
  intro p e s m below meth c s₁ hx hby hml hown hnm hret hlk hZ X0 e0
  have N0 := Fr.nil n0
  refine own_go (fun _ kont => castTop (own_rm1_ef m a5 t5 b5 ) kont) ?_
  show own_Go p.tables e below _ (s₁.setTop (mkF m 0 #[.val (.ref a5), .val (.int t5), .val (.int b5), .unset, .unset, .unset] []))
  refine own_go (fun _ kont => XS.lconst X0.here hx rfl (hb hby own_d1_0) kont) ?_
  show own_Go p.tables e below _ (s₁.setTop (mkF m 1 #[.val (.ref a5), .val (.int t5), .val (.int b5), .unset, .unset, .unset] [(.long (0 : Int64))]))
  refine own_go (fun _ kont => XS.lstoreN X0.here hx rfl (hb hby own_d1_1) rfl (l' := #[.val (.ref a5), .val (.int t5), .val (.int b5), .val (.long (0 : Int64)), .second, .unset]) rfl kont) ?_
  show own_Go p.tables e below _ (s₁.setTop (mkF m 2 #[.val (.ref a5), .val (.int t5), .val (.int b5), .val (.long (0 : Int64)), .second, .unset] []))
  refine own_go (fun _ kont => XS.iconst X0.here hx rfl (hb hby own_d1_2) kont) ?_
  show own_Go p.tables e below _ (s₁.setTop (mkF m 3 #[.val (.ref a5), .val (.int t5), .val (.int b5), .val (.long (0 : Int64)), .second, .unset] [(.int (0 : Int32))]))
  refine own_go (fun _ kont => XS.istore X0.here hx rfl (hb hby own_d1_3) rfl (l' := #[.val (.ref a5), .val (.int t5), .val (.int b5), .val (.long (0 : Int64)), .second, .val (.int (0 : Int32))]) rfl kont) ?_
  show own_Go p.tables e below _ (s₁.setTop (mkF m 5 #[.val (.ref a5), .val (.int t5), .val (.int b5), .val (.long (0 : Int64)), .second, .val (.int (0 : Int32))] []))
  have loop : ∀ (r n : Nat), n + r = N → ∀ (T : State) (Lc : List Loc), Stand p l e ({ frames := 0, cells := 0, slots := 0, locals := 0 } : Room) s m #[(.ref a5), (.int t5), (.int b5)] below meth c T Lc 0 0 → Fr n0 Lc → T.heap = h0 → own_Go p.tables e below (own_Fin s below (fun v h L => v = some (.long (own_le g N)) ∧ Fr n0 L ∧ h = h0) ({ frames := 0, cells := 0, slots := 0, locals := 0 } : Room).cells ({ frames := 0, cells := 0, slots := 0, locals := 0 } : Room).slots) (T.setTop (mkF m 5 #[.val (.ref a5), .val (.int t5), .val (.int b5), .val (.long (own_le g n)), .second, .val (.int (Int32.ofNat n))] [])) := by
    intro r
    induction r with
    | zero =>
      intro n hn T Lc X N1 e1
      obtain rfl : n = N := by omega
      show own_Go p.tables e below _ (T.setTop (mkF m 5 #[.val (.ref a5), .val (.int t5), .val (.int b5), .val (.long (own_le g n)), .second, .val (.int (Int32.ofNat n))] []))
      refine own_go (fun _ kont => XS.iload X.here hx rfl (hb hby own_d1_5) rfl kont) ?_
      show own_Go p.tables e below _ (T.setTop (mkF m 7 #[.val (.ref a5), .val (.int t5), .val (.int b5), .val (.long (own_le g n)), .second, .val (.int (Int32.ofNat n))] [(.int (Int32.ofNat n))]))
      refine own_go (fun _ kont => XS.iloadN X.here hx rfl (hb hby own_d1_7) rfl kont) ?_
      show own_Go p.tables e below _ (T.setTop (mkF m 8 #[.val (.ref a5), .val (.int t5), .val (.int b5), .val (.long (own_le g n)), .second, .val (.int (Int32.ofNat n))] [(.int b5), (.int (Int32.ofNat n))]))
      refine own_go (fun _ kont => XS.icmpYes X.here hx rfl (pc0 := 8) (pc' := 37) rfl (hb hby own_d1_8) rfl (XT.ii_ge_t (fun q => absurd ((own_lt n n b5 hB (by omega)).mp q) (by omega))) (by decide) (by decide) kont) ?_
      show own_Go p.tables e below _ (T.setTop (mkF m 37 #[.val (.ref a5), .val (.int t5), .val (.int b5), .val (.long (own_le g n)), .second, .val (.int (Int32.ofNat n))] []))
      refine own_go (fun _ kont => XS.lloadN X.here hx rfl (hb hby own_d1_37) rfl kont) ?_
      show own_Go p.tables e below _ (T.setTop (mkF m 38 #[.val (.ref a5), .val (.int t5), .val (.int b5), .val (.long (own_le g n)), .second, .val (.int (Int32.ofNat n))] [(.long (own_le g n))]))
      exact own_retJ X hx hlk hret (hb hby own_d1_38) (⟨rfl, N1, e1⟩) (by decide) (by decide)
    | succ r ih =>
      intro n hn T Lc X N1 e1
      show own_Go p.tables e below _ (T.setTop (mkF m 5 #[.val (.ref a5), .val (.int t5), .val (.int b5), .val (.long (own_le g n)), .second, .val (.int (Int32.ofNat n))] []))
      refine own_go (fun _ kont => XS.iload X.here hx rfl (hb hby own_d1_5) rfl kont) ?_
      show own_Go p.tables e below _ (T.setTop (mkF m 7 #[.val (.ref a5), .val (.int t5), .val (.int b5), .val (.long (own_le g n)), .second, .val (.int (Int32.ofNat n))] [(.int (Int32.ofNat n))]))
      refine own_go (fun _ kont => XS.iloadN X.here hx rfl (hb hby own_d1_7) rfl kont) ?_
      show own_Go p.tables e below _ (T.setTop (mkF m 8 #[.val (.ref a5), .val (.int t5), .val (.int b5), .val (.long (own_le g n)), .second, .val (.int (Int32.ofNat n))] [(.int b5), (.int (Int32.ofNat n))]))
      refine own_go (fun _ kont => XS.icmpNo X.here hx rfl (hb hby own_d1_8) rfl (XT.ii_ge_f ((own_lt n N b5 hB (by omega)).mpr (by omega))) kont) ?_
      show own_Go p.tables e below _ (T.setTop (mkF m 11 #[.val (.ref a5), .val (.int t5), .val (.int b5), .val (.long (own_le g n)), .second, .val (.int (Int32.ofNat n))] []))
      refine own_go (fun _ kont => XS.lloadN X.here hx rfl (hb hby own_d1_11) rfl kont) ?_
      show own_Go p.tables e below _ (T.setTop (mkF m 12 #[.val (.ref a5), .val (.int t5), .val (.int b5), .val (.long (own_le g n)), .second, .val (.int (Int32.ofNat n))] [(.long (own_le g n))]))
      refine own_go (fun _ kont => XS.aloadN X.here hx rfl (hb hby own_d1_12) rfl rfl kont) ?_
      show own_Go p.tables e below _ (T.setTop (mkF m 13 #[.val (.ref a5), .val (.int t5), .val (.int b5), .val (.long (own_le g n)), .second, .val (.int (Int32.ofNat n))] [(.ref a5), (.long (own_le g n))]))
      refine own_go (fun _ kont => XS.iloadN X.here hx rfl (hb hby own_d1_13) rfl kont) ?_
      show own_Go p.tables e below _ (T.setTop (mkF m 14 #[.val (.ref a5), .val (.int t5), .val (.int b5), .val (.long (own_le g n)), .second, .val (.int (Int32.ofNat n))] [(.int t5), (.ref a5), (.long (own_le g n))]))
      refine own_go (fun _ kont => XS.iload X.here hx rfl (hb hby own_d1_14) rfl kont) ?_
      show own_Go p.tables e below _ (T.setTop (mkF m 16 #[.val (.ref a5), .val (.int t5), .val (.int b5), .val (.long (own_le g n)), .second, .val (.int (Int32.ofNat n))] [(.int (Int32.ofNat n)), (.int t5), (.ref a5), (.long (own_le g n))]))
      refine own_go (fun _ kont => XS.iadd X.here hx rfl (hb hby own_d1_16) rfl kont) ?_
      show own_Go p.tables e below _ (T.setTop (mkF m 17 #[.val (.ref a5), .val (.int t5), .val (.int b5), .val (.long (own_le g n)), .second, .val (.int (Int32.ofNat n))] [(.int (t5 + (Int32.ofNat n))), (.ref a5), (.long (own_le g n))]))
      refine own_bald X hx hZ e1 V1 (t + n) (own_ix (t5 + Int32.ofNat n) (t + n) (own_up t5 (Int32.ofNat n) t n ht (own_of n (by omega)) (by omega))).1 (own_ix (t5 + Int32.ofNat n) (t + n) (own_up t5 (Int32.ofNat n) t n ht (own_of n (by omega)) (by omega))).2 (by omega) (w := .int (g n)) (hg n (by omega)) (hb hby own_d1_17) ?_
      show own_Go p.tables e below _ (T.setTop (mkF m 18 #[.val (.ref a5), .val (.int t5), .val (.int b5), .val (.long (own_le g n)), .second, .val (.int (Int32.ofNat n))] [(.int (g n)), (.long (own_le g n))]))
      refine own_go (fun _ kont => XS.i2l X.here hx rfl (hb hby own_d1_18) rfl kont) ?_
      show own_Go p.tables e below _ (T.setTop (mkF m 19 #[.val (.ref a5), .val (.int t5), .val (.int b5), .val (.long (own_le g n)), .second, .val (.int (Int32.ofNat n))] [(.long ((g n).toInt64)), (.long (own_le g n))]))
      refine own_go (fun _ kont => X.ldc2J hx hown (mvT hZ (hw _ (List.mem_of_getElem? (i := 6) rfl))) rfl (hb hby own_d1_19) kont) ?_
      show own_Go p.tables e below _ (T.setTop (mkF m 22 #[.val (.ref a5), .val (.int t5), .val (.int b5), .val (.long (own_le g n)), .second, .val (.int (Int32.ofNat n))] [(.long (255 : Int64)), (.long ((g n).toInt64)), (.long (own_le g n))]))
      refine own_go (fun _ kont => XS.land X.here hx rfl (hb hby own_d1_22) rfl kont) ?_
      show own_Go p.tables e below _ (T.setTop (mkF m 23 #[.val (.ref a5), .val (.int t5), .val (.int b5), .val (.long (own_le g n)), .second, .val (.int (Int32.ofNat n))] [(.long (((g n).toInt64) &&& (255 : Int64))), (.long (own_le g n))]))
      refine own_go (fun _ kont => XS.bipush X.here hx rfl (hb hby own_d1_23) kont) ?_
      show own_Go p.tables e below _ (T.setTop (mkF m 25 #[.val (.ref a5), .val (.int t5), .val (.int b5), .val (.long (own_le g n)), .second, .val (.int (Int32.ofNat n))] [(.int (8 : Int32)), (.long (((g n).toInt64) &&& (255 : Int64))), (.long (own_le g n))]))
      refine own_go (fun _ kont => XS.iload X.here hx rfl (hb hby own_d1_25) rfl kont) ?_
      show own_Go p.tables e below _ (T.setTop (mkF m 27 #[.val (.ref a5), .val (.int t5), .val (.int b5), .val (.long (own_le g n)), .second, .val (.int (Int32.ofNat n))] [(.int (Int32.ofNat n)), (.int (8 : Int32)), (.long (((g n).toInt64) &&& (255 : Int64))), (.long (own_le g n))]))
      refine own_go (fun _ kont => XS.imul X.here hx rfl (hb hby own_d1_27) rfl kont) ?_
      show own_Go p.tables e below _ (T.setTop (mkF m 28 #[.val (.ref a5), .val (.int t5), .val (.int b5), .val (.long (own_le g n)), .second, .val (.int (Int32.ofNat n))] [(.int ((8 : Int32) * (Int32.ofNat n))), (.long (((g n).toInt64) &&& (255 : Int64))), (.long (own_le g n))]))
      refine own_go (fun _ kont => XS.lshl X.here hx rfl (hb hby own_d1_28) rfl kont) ?_
      show own_Go p.tables e below _ (T.setTop (mkF m 29 #[.val (.ref a5), .val (.int t5), .val (.int b5), .val (.long (own_le g n)), .second, .val (.int (Int32.ofNat n))] [(.long ((((g n).toInt64) &&& (255 : Int64)) <<< (((8 : Int32) * (Int32.ofNat n)) &&& 0x3f).toInt64)), (.long (own_le g n))]))
      refine own_go (fun _ kont => XS.lor X.here hx rfl (hb hby own_d1_29) rfl kont) ?_
      show own_Go p.tables e below _ (T.setTop (mkF m 30 #[.val (.ref a5), .val (.int t5), .val (.int b5), .val (.long (own_le g n)), .second, .val (.int (Int32.ofNat n))] [(.long ((own_le g n) ||| ((((g n).toInt64) &&& (255 : Int64)) <<< (((8 : Int32) * (Int32.ofNat n)) &&& 0x3f).toInt64)))]))
      refine own_go (fun _ kont => XS.lstoreN X.here hx rfl (hb hby own_d1_30) rfl (l' := #[.val (.ref a5), .val (.int t5), .val (.int b5), .val (.long ((own_le g n) ||| ((((g n).toInt64) &&& (255 : Int64)) <<< (((8 : Int32) * (Int32.ofNat n)) &&& 0x3f).toInt64))), .second, .val (.int (Int32.ofNat n))]) rfl kont) ?_
      show own_Go p.tables e below _ (T.setTop (mkF m 31 #[.val (.ref a5), .val (.int t5), .val (.int b5), .val (.long ((own_le g n) ||| ((((g n).toInt64) &&& (255 : Int64)) <<< (((8 : Int32) * (Int32.ofNat n)) &&& 0x3f).toInt64))), .second, .val (.int (Int32.ofNat n))] []))
      refine own_go (fun _ kont => XS.iinc X.here hx rfl (hb hby own_d1_31) rfl (l' := #[.val (.ref a5), .val (.int t5), .val (.int b5), .val (.long ((own_le g n) ||| ((((g n).toInt64) &&& (255 : Int64)) <<< (((8 : Int32) * (Int32.ofNat n)) &&& 0x3f).toInt64))), .second, .val (.int ((Int32.ofNat n) + 1))]) rfl kont) ?_
      show own_Go p.tables e below _ (T.setTop (mkF m 34 #[.val (.ref a5), .val (.int t5), .val (.int b5), .val (.long ((own_le g n) ||| ((((g n).toInt64) &&& (255 : Int64)) <<< (((8 : Int32) * (Int32.ofNat n)) &&& 0x3f).toInt64))), .second, .val (.int ((Int32.ofNat n) + 1))] []))
      rw [own_inc n (by omega)]
      show own_Go p.tables e below _ (T.setTop (mkF m 34 #[.val (.ref a5), .val (.int t5), .val (.int b5), .val (.long ((own_le g n) ||| ((((g n).toInt64) &&& (255 : Int64)) <<< (((8 : Int32) * (Int32.ofNat n)) &&& 0x3f).toInt64))), .second, .val (.int (Int32.ofNat (n + 1)))] []))
      refine own_go (fun _ kont => XS.goto X.here hx rfl (pc0 := 34) (pc' := 5) rfl (hb hby own_d1_34) (by decide) (by decide) kont) ?_
      show own_Go p.tables e below _ (T.setTop (mkF m 5 #[.val (.ref a5), .val (.int t5), .val (.int b5), .val (.long ((own_le g n) ||| ((((g n).toInt64) &&& (255 : Int64)) <<< (((8 : Int32) * (Int32.ofNat n)) &&& 0x3f).toInt64))), .second, .val (.int (Int32.ofNat (n + 1)))] []))
      exact ih (n + 1) (by omega) T Lc X N1 e1
  exact loop N 0 (by omega) _ _ X0 N0 e0
theorem own_rm0_ef (m : MethodId) (q1 : Int64) (q2 : Int64) (q3 : Int64) (p4 : Int32) (p5 : Int32)  : entryFrame m #[(.long q1), (.long q2), (.long q3), (.int p4), (.int p5)] maxLocals = mkF m 0 #[.val (.long q1), .second, .val (.long q2), .second, .val (.long q3), .second, .val (.int p4), .val (.int p5), .unset, .unset, .unset, .unset, .unset] [] := by first | (simp [entryFrame, mkF, argsToLocals, Value.category, maxLocals]; done) | rfl
set_option maxRecDepth 65536 in
set_option maxHeartbeats 40000000 in
theorem own_rm0 (l : Launch) (Z : State) (a0 : Array Value) (hw : ∀ d ∈ tables_1, d.before a0 Z = true) (ws : List Jvm.Cond) (q1 : Int64) (q2 : Int64) (q3 : Int64) (p4 : Int32) (p5 : Int32) (h0 : Heap) (n0 : Nat) (Z0 : n0 ≤ h0.size)  :
    own_Met l x (Jvm.Cond.code x code maxLocals ret :: ws) room_1 Z h0 #[(.long q1), (.long q2), (.long q3), (.int p4), (.int p5)] (fun v h L => v = some (.int 1) ∧ Fr n0 L) := by
  refine own_body (pn := own_pn_0) ?_
  intro p e s m below meth c s₁ hx hby hml hown hnm hret hlk hZ X0 e0
  have N0 := Fr.nil n0
  refine own_go (fun _ kont => castTop (own_rm0_ef m q1 q2 q3 p4 p5 ) kont) ?_
  show own_Go p.tables e below _ (s₁.setTop (mkF m 0 #[.val (.long q1), .second, .val (.long q2), .second, .val (.long q3), .second, .val (.int p4), .val (.int p5), .unset, .unset, .unset, .unset, .unset] []))
  refine own_go (fun _ kont => XS.iload X0.here hx rfl (hb hby at_0) rfl kont) ?_
  show own_Go p.tables e below _ (s₁.setTop (mkF m 2 #[.val (.long q1), .second, .val (.long q2), .second, .val (.long q3), .second, .val (.int p4), .val (.int p5), .unset, .unset, .unset, .unset, .unset] [(.int p4)]))
  refine own_go (fun _ kont => X0.ldcI hx hown (mvT hZ (hw _ (List.mem_of_getElem? (i := 0) rfl))) rfl (hb hby at_2) kont) ?_
  show own_Go p.tables e below _ (s₁.setTop (mkF m 4 #[.val (.long q1), .second, .val (.long q2), .second, .val (.long q3), .second, .val (.int p4), .val (.int p5), .unset, .unset, .unset, .unset, .unset] [(.int (2147483647 : Int32)), (.int p4)]))
  refine own_go (fun _ kont => XS.iand X0.here hx rfl (hb hby at_4) rfl kont) ?_
  show own_Go p.tables e below _ (s₁.setTop (mkF m 5 #[.val (.long q1), .second, .val (.long q2), .second, .val (.long q3), .second, .val (.int p4), .val (.int p5), .unset, .unset, .unset, .unset, .unset] [(.int (p4 &&& (2147483647 : Int32)))]))
  refine own_go (fun _ kont => XS.bipush X0.here hx rfl (hb hby at_5) kont) ?_
  show own_Go p.tables e below _ (s₁.setTop (mkF m 7 #[.val (.long q1), .second, .val (.long q2), .second, .val (.long q3), .second, .val (.int p4), .val (.int p5), .unset, .unset, .unset, .unset, .unset] [(.int (9 : Int32)), (.int (p4 &&& (2147483647 : Int32)))]))
  refine own_go (fun _ kont => iremM X0 hx rfl (hb hby at_7) rfl (by decide) kont) ?_
  show own_Go p.tables e below _ (s₁.setTop (mkF m 8 #[.val (.long q1), .second, .val (.long q2), .second, .val (.long q3), .second, .val (.int p4), .val (.int p5), .unset, .unset, .unset, .unset, .unset] [(.int ((p4 &&& (2147483647 : Int32)) % (9 : Int32)))]))
  have rt := own_mod9 p4
  obtain ⟨t, yt⟩ : ∃ z, z = (p4 &&& (2147483647 : Int32)) % (9 : Int32) := ⟨_, rfl⟩
  rw [← yt] at rt ⊢
  show own_Go p.tables e below _ (s₁.setTop (mkF m 8 #[.val (.long q1), .second, .val (.long q2), .second, .val (.long q3), .second, .val (.int p4), .val (.int p5), .unset, .unset, .unset, .unset, .unset] [(.int t)]))
  refine own_go (fun _ kont => XS.istore X0.here hx rfl (hb hby at_8) rfl (l' := #[.val (.long q1), .second, .val (.long q2), .second, .val (.long q3), .second, .val (.int p4), .val (.int p5), .val (.int t), .unset, .unset, .unset, .unset]) rfl kont) ?_
  show own_Go p.tables e below _ (s₁.setTop (mkF m 10 #[.val (.long q1), .second, .val (.long q2), .second, .val (.long q3), .second, .val (.int p4), .val (.int p5), .val (.int t), .unset, .unset, .unset, .unset] []))
  refine own_go (fun _ kont => XS.iload X0.here hx rfl (hb hby at_10) rfl kont) ?_
  show own_Go p.tables e below _ (s₁.setTop (mkF m 12 #[.val (.long q1), .second, .val (.long q2), .second, .val (.long q3), .second, .val (.int p4), .val (.int p5), .val (.int t), .unset, .unset, .unset, .unset] [(.int p5)]))
  refine own_go (fun _ kont => X0.ldcI hx hown (mvT hZ (hw _ (List.mem_of_getElem? (i := 0) rfl))) rfl (hb hby at_12) kont) ?_
  show own_Go p.tables e below _ (s₁.setTop (mkF m 14 #[.val (.long q1), .second, .val (.long q2), .second, .val (.long q3), .second, .val (.int p4), .val (.int p5), .val (.int t), .unset, .unset, .unset, .unset] [(.int (2147483647 : Int32)), (.int p5)]))
  refine own_go (fun _ kont => XS.iand X0.here hx rfl (hb hby at_14) rfl kont) ?_
  show own_Go p.tables e below _ (s₁.setTop (mkF m 15 #[.val (.long q1), .second, .val (.long q2), .second, .val (.long q3), .second, .val (.int p4), .val (.int p5), .val (.int t), .unset, .unset, .unset, .unset] [(.int (p5 &&& (2147483647 : Int32)))]))
  refine own_go (fun _ kont => XS.bipush X0.here hx rfl (hb hby at_15) kont) ?_
  show own_Go p.tables e below _ (s₁.setTop (mkF m 17 #[.val (.long q1), .second, .val (.long q2), .second, .val (.long q3), .second, .val (.int p4), .val (.int p5), .val (.int t), .unset, .unset, .unset, .unset] [(.int (9 : Int32)), (.int (p5 &&& (2147483647 : Int32)))]))
  refine own_go (fun _ kont => iremM X0 hx rfl (hb hby at_17) rfl (by decide) kont) ?_
  show own_Go p.tables e below _ (s₁.setTop (mkF m 18 #[.val (.long q1), .second, .val (.long q2), .second, .val (.long q3), .second, .val (.int p4), .val (.int p5), .val (.int t), .unset, .unset, .unset, .unset] [(.int ((p5 &&& (2147483647 : Int32)) % (9 : Int32)))]))
  have rb := own_mod9 p5
  obtain ⟨b, yb⟩ : ∃ z, z = (p5 &&& (2147483647 : Int32)) % (9 : Int32) := ⟨_, rfl⟩
  rw [← yb] at rb ⊢
  show own_Go p.tables e below _ (s₁.setTop (mkF m 18 #[.val (.long q1), .second, .val (.long q2), .second, .val (.long q3), .second, .val (.int p4), .val (.int p5), .val (.int t), .unset, .unset, .unset, .unset] [(.int b)]))
  obtain ⟨nt, tn⟩ : ∃ n : Nat, t.toInt = (n : Int) := ⟨t.toInt.toNat, by omega⟩
  have t8 : nt ≤ 8 := by omega
  obtain ⟨nb, bn⟩ : ∃ n : Nat, b.toInt = (n : Int) := ⟨b.toInt.toNat, by omega⟩
  have b8 : nb ≤ 8 := by omega
  refine own_go (fun _ kont => XS.istore X0.here hx rfl (hb hby at_18) rfl (l' := #[.val (.long q1), .second, .val (.long q2), .second, .val (.long q3), .second, .val (.int p4), .val (.int p5), .val (.int t), .val (.int b), .unset, .unset, .unset]) rfl kont) ?_
  show own_Go p.tables e below _ (s₁.setTop (mkF m 20 #[.val (.long q1), .second, .val (.long q2), .second, .val (.long q3), .second, .val (.int p4), .val (.int p5), .val (.int t), .val (.int b), .unset, .unset, .unset] []))
  refine own_go (fun _ kont => XS.bipush X0.here hx rfl (hb hby at_20) kont) ?_
  show own_Go p.tables e below _ (s₁.setTop (mkF m 22 #[.val (.long q1), .second, .val (.long q2), .second, .val (.long q3), .second, .val (.int p4), .val (.int p5), .val (.int t), .val (.int b), .unset, .unset, .unset] [(.int (16 : Int32))]))
  obtain ⟨T101, h101, cA101, X101, e101, E101, A101, B101, st101⟩ := newPE X0 hx hZ (hw _ (List.mem_of_getElem? (i := 1) rfl)) e0 (g := (mkF m 22 #[.val (.long q1), .second, .val (.long q2), .second, .val (.long q3), .second, .val (.int p4), .val (.int p5), .val (.int t), .val (.int b), .unset, .unset, .unset] [(.int (16 : Int32))])) rfl (hb hby at_22) rfl (by decide) (cap := 16) (by decide) (by decide) (by decide) (by decide) rfl
  obtain ⟨a1, g101⟩ : ∃ z, z = h0.size := ⟨_, rfl⟩
  rw [← g101] at A101 B101 st101
  have ge_a1 : n0 ≤ a1 := by rw [g101]; exact Z0
  have Z102 : n0 ≤ h101.size := Nat.le_trans Z0 E101.1
  have E_a1_103 : Exa Z h101 a1 "[B" := B101
  have V_a1_104 : own_Av Z h101 a1 cA101 .byte 16 (fun _ => defaultValue .byte) := own_Av.new (ty := .byte) A101 (by decide)
  refine own_go st101 ?_
  show own_Go p.tables e below _ (T101.setTop (mkF m 24 #[.val (.long q1), .second, .val (.long q2), .second, .val (.long q3), .second, .val (.int p4), .val (.int p5), .val (.int t), .val (.int b), .unset, .unset, .unset] [(.ref a1)]))
  refine own_go (fun _ kont => XS.astore X101.here hx rfl (hb hby at_24) rfl rfl (l' := #[.val (.long q1), .second, .val (.long q2), .second, .val (.long q3), .second, .val (.int p4), .val (.int p5), .val (.int t), .val (.int b), .val (.ref a1), .unset, .unset]) rfl kont) ?_
  show own_Go p.tables e below _ (T101.setTop (mkF m 26 #[.val (.long q1), .second, .val (.long q2), .second, .val (.long q3), .second, .val (.int p4), .val (.int p5), .val (.int t), .val (.int b), .val (.ref a1), .unset, .unset] []))
  refine own_go (fun _ kont => XS.aload X101.here hx rfl (hb hby at_26) rfl rfl kont) ?_
  show own_Go p.tables e below _ (T101.setTop (mkF m 28 #[.val (.long q1), .second, .val (.long q2), .second, .val (.long q3), .second, .val (.int p4), .val (.int p5), .val (.int t), .val (.int b), .val (.ref a1), .unset, .unset] [(.ref a1)]))
  refine own_go (fun _ kont => XS.iconst X101.here hx rfl (hb hby at_28) kont) ?_
  show own_Go p.tables e below _ (T101.setTop (mkF m 29 #[.val (.long q1), .second, .val (.long q2), .second, .val (.long q3), .second, .val (.int p4), .val (.int p5), .val (.int t), .val (.int b), .val (.ref a1), .unset, .unset] [(.int (0 : Int32)), (.ref a1)]))
  refine own_go (fun _ kont => XS.lloadN X101.here hx rfl (hb hby at_29) rfl kont) ?_
  show own_Go p.tables e below _ (T101.setTop (mkF m 30 #[.val (.long q1), .second, .val (.long q2), .second, .val (.long q3), .second, .val (.int p4), .val (.int p5), .val (.int t), .val (.int b), .val (.ref a1), .unset, .unset] [(.long q2), (.int (0 : Int32)), (.ref a1)]))
  refine own_go (fun _ kont => XS.l2i X101.here hx rfl (hb hby at_30) rfl kont) ?_
  show own_Go p.tables e below _ (T101.setTop (mkF m 31 #[.val (.long q1), .second, .val (.long q2), .second, .val (.long q3), .second, .val (.int p4), .val (.int p5), .val (.int t), .val (.int b), .val (.ref a1), .unset, .unset] [(.int (q2.toInt32)), (.int (0 : Int32)), (.ref a1)]))
  refine own_go (fun _ kont => XS.i2b X101.here hx rfl (hb hby at_31) rfl kont) ?_
  show own_Go p.tables e below _ (T101.setTop (mkF m 32 #[.val (.long q1), .second, .val (.long q2), .second, .val (.long q3), .second, .val (.int p4), .val (.int p5), .val (.int t), .val (.int b), .val (.ref a1), .unset, .unset] [(.int ((q2.toInt32).toInt8.toInt32)), (.int (0 : Int32)), (.ref a1)]))
  refine own_bast X101 hx hZ e101 V_a1_104 0 (by decide) (by decide) (by decide) (hb hby at_32) ?_
  intro T105 h105 X105 e105 W105
  have E_a1_106 : Exa Z h105 a1 "[B" := Exa.wr W105 E_a1_103
  have V_a1_107 : own_Av Z h105 a1 cA101 .byte 16 (fun x => if x = 0 then .int (((q2.toInt32).toInt8.toInt32).toInt8.toInt32) else (fun _ => defaultValue .byte) x) := own_Av.set V_a1_104 W105 (by decide)
  have N108 := Fr.snoc X105 N0 ge_a1
  have Z108 : n0 ≤ h105.size := by rw [W105.size]; exact Z102
  show own_Go p.tables e below _ (T105.setTop (mkF m 33 #[.val (.long q1), .second, .val (.long q2), .second, .val (.long q3), .second, .val (.int p4), .val (.int p5), .val (.int t), .val (.int b), .val (.ref a1), .unset, .unset] []))
  obtain ⟨f109, V109⟩ : ∃ f, own_Av Z h105 a1 cA101 .byte 16 f := ⟨_, V_a1_107⟩
  refine own_go (fun _ kont => XS.aload X105.here hx rfl (hb hby at_33) rfl rfl kont) ?_
  show own_Go p.tables e below _ (T105.setTop (mkF m 35 #[.val (.long q1), .second, .val (.long q2), .second, .val (.long q3), .second, .val (.int p4), .val (.int p5), .val (.int t), .val (.int b), .val (.ref a1), .unset, .unset] [(.ref a1)]))
  refine own_go (fun _ kont => XS.iconst X105.here hx rfl (hb hby at_35) kont) ?_
  show own_Go p.tables e below _ (T105.setTop (mkF m 36 #[.val (.long q1), .second, .val (.long q2), .second, .val (.long q3), .second, .val (.int p4), .val (.int p5), .val (.int t), .val (.int b), .val (.ref a1), .unset, .unset] [(.int (1 : Int32)), (.ref a1)]))
  refine own_go (fun _ kont => XS.lloadN X105.here hx rfl (hb hby at_36) rfl kont) ?_
  show own_Go p.tables e below _ (T105.setTop (mkF m 37 #[.val (.long q1), .second, .val (.long q2), .second, .val (.long q3), .second, .val (.int p4), .val (.int p5), .val (.int t), .val (.int b), .val (.ref a1), .unset, .unset] [(.long q2), (.int (1 : Int32)), (.ref a1)]))
  refine own_go (fun _ kont => XS.bipush X105.here hx rfl (hb hby at_37) kont) ?_
  show own_Go p.tables e below _ (T105.setTop (mkF m 39 #[.val (.long q1), .second, .val (.long q2), .second, .val (.long q3), .second, .val (.int p4), .val (.int p5), .val (.int t), .val (.int b), .val (.ref a1), .unset, .unset] [(.int (8 : Int32)), (.long q2), (.int (1 : Int32)), (.ref a1)]))
  refine own_go (fun _ kont => XS.lushr X105.here hx rfl (hb hby at_39) rfl kont) ?_
  show own_Go p.tables e below _ (T105.setTop (mkF m 40 #[.val (.long q1), .second, .val (.long q2), .second, .val (.long q3), .second, .val (.int p4), .val (.int p5), .val (.int t), .val (.int b), .val (.ref a1), .unset, .unset] [(.long ((q2.toUInt64 >>> ((8 : Int32) &&& 0x3f).toInt64.toUInt64).toInt64)), (.int (1 : Int32)), (.ref a1)]))
  refine own_go (fun _ kont => XS.l2i X105.here hx rfl (hb hby at_40) rfl kont) ?_
  show own_Go p.tables e below _ (T105.setTop (mkF m 41 #[.val (.long q1), .second, .val (.long q2), .second, .val (.long q3), .second, .val (.int p4), .val (.int p5), .val (.int t), .val (.int b), .val (.ref a1), .unset, .unset] [(.int (((q2.toUInt64 >>> ((8 : Int32) &&& 0x3f).toInt64.toUInt64).toInt64).toInt32)), (.int (1 : Int32)), (.ref a1)]))
  refine own_go (fun _ kont => XS.i2b X105.here hx rfl (hb hby at_41) rfl kont) ?_
  show own_Go p.tables e below _ (T105.setTop (mkF m 42 #[.val (.long q1), .second, .val (.long q2), .second, .val (.long q3), .second, .val (.int p4), .val (.int p5), .val (.int t), .val (.int b), .val (.ref a1), .unset, .unset] [(.int ((((q2.toUInt64 >>> ((8 : Int32) &&& 0x3f).toInt64.toUInt64).toInt64).toInt32).toInt8.toInt32)), (.int (1 : Int32)), (.ref a1)]))
  refine own_bast X105 hx hZ e105 V109 1 (by decide) (by decide) (by decide) (hb hby at_42) ?_
  intro T110 h110 X110 e110 W110
  have E_a1_111 : Exa Z h110 a1 "[B" := Exa.wr W110 E_a1_106
  have V_a1_112 : own_Av Z h110 a1 cA101 .byte 16 (fun x => if x = 1 then .int (((((q2.toUInt64 >>> ((8 : Int32) &&& 0x3f).toInt64.toUInt64).toInt64).toInt32).toInt8.toInt32).toInt8.toInt32) else (f109) x) := own_Av.set V109 W110 (by decide)
  have N113 := Fr.snoc X110 N108 ge_a1
  have Z113 : n0 ≤ h110.size := by rw [W110.size]; exact Z108
  show own_Go p.tables e below _ (T110.setTop (mkF m 43 #[.val (.long q1), .second, .val (.long q2), .second, .val (.long q3), .second, .val (.int p4), .val (.int p5), .val (.int t), .val (.int b), .val (.ref a1), .unset, .unset] []))
  obtain ⟨f114, V114⟩ : ∃ f, own_Av Z h110 a1 cA101 .byte 16 f := ⟨_, V_a1_112⟩
  refine own_go (fun _ kont => XS.aload X110.here hx rfl (hb hby at_43) rfl rfl kont) ?_
  show own_Go p.tables e below _ (T110.setTop (mkF m 45 #[.val (.long q1), .second, .val (.long q2), .second, .val (.long q3), .second, .val (.int p4), .val (.int p5), .val (.int t), .val (.int b), .val (.ref a1), .unset, .unset] [(.ref a1)]))
  refine own_go (fun _ kont => XS.iconst X110.here hx rfl (hb hby at_45) kont) ?_
  show own_Go p.tables e below _ (T110.setTop (mkF m 46 #[.val (.long q1), .second, .val (.long q2), .second, .val (.long q3), .second, .val (.int p4), .val (.int p5), .val (.int t), .val (.int b), .val (.ref a1), .unset, .unset] [(.int (2 : Int32)), (.ref a1)]))
  refine own_go (fun _ kont => XS.lloadN X110.here hx rfl (hb hby at_46) rfl kont) ?_
  show own_Go p.tables e below _ (T110.setTop (mkF m 47 #[.val (.long q1), .second, .val (.long q2), .second, .val (.long q3), .second, .val (.int p4), .val (.int p5), .val (.int t), .val (.int b), .val (.ref a1), .unset, .unset] [(.long q2), (.int (2 : Int32)), (.ref a1)]))
  refine own_go (fun _ kont => XS.bipush X110.here hx rfl (hb hby at_47) kont) ?_
  show own_Go p.tables e below _ (T110.setTop (mkF m 49 #[.val (.long q1), .second, .val (.long q2), .second, .val (.long q3), .second, .val (.int p4), .val (.int p5), .val (.int t), .val (.int b), .val (.ref a1), .unset, .unset] [(.int (16 : Int32)), (.long q2), (.int (2 : Int32)), (.ref a1)]))
  refine own_go (fun _ kont => XS.lushr X110.here hx rfl (hb hby at_49) rfl kont) ?_
  show own_Go p.tables e below _ (T110.setTop (mkF m 50 #[.val (.long q1), .second, .val (.long q2), .second, .val (.long q3), .second, .val (.int p4), .val (.int p5), .val (.int t), .val (.int b), .val (.ref a1), .unset, .unset] [(.long ((q2.toUInt64 >>> ((16 : Int32) &&& 0x3f).toInt64.toUInt64).toInt64)), (.int (2 : Int32)), (.ref a1)]))
  refine own_go (fun _ kont => XS.l2i X110.here hx rfl (hb hby at_50) rfl kont) ?_
  show own_Go p.tables e below _ (T110.setTop (mkF m 51 #[.val (.long q1), .second, .val (.long q2), .second, .val (.long q3), .second, .val (.int p4), .val (.int p5), .val (.int t), .val (.int b), .val (.ref a1), .unset, .unset] [(.int (((q2.toUInt64 >>> ((16 : Int32) &&& 0x3f).toInt64.toUInt64).toInt64).toInt32)), (.int (2 : Int32)), (.ref a1)]))
  refine own_go (fun _ kont => XS.i2b X110.here hx rfl (hb hby at_51) rfl kont) ?_
  show own_Go p.tables e below _ (T110.setTop (mkF m 52 #[.val (.long q1), .second, .val (.long q2), .second, .val (.long q3), .second, .val (.int p4), .val (.int p5), .val (.int t), .val (.int b), .val (.ref a1), .unset, .unset] [(.int ((((q2.toUInt64 >>> ((16 : Int32) &&& 0x3f).toInt64.toUInt64).toInt64).toInt32).toInt8.toInt32)), (.int (2 : Int32)), (.ref a1)]))
  refine own_bast X110 hx hZ e110 V114 2 (by decide) (by decide) (by decide) (hb hby at_52) ?_
  intro T115 h115 X115 e115 W115
  have E_a1_116 : Exa Z h115 a1 "[B" := Exa.wr W115 E_a1_111
  have V_a1_117 : own_Av Z h115 a1 cA101 .byte 16 (fun x => if x = 2 then .int (((((q2.toUInt64 >>> ((16 : Int32) &&& 0x3f).toInt64.toUInt64).toInt64).toInt32).toInt8.toInt32).toInt8.toInt32) else (f114) x) := own_Av.set V114 W115 (by decide)
  have N118 := Fr.snoc X115 N113 ge_a1
  have Z118 : n0 ≤ h115.size := by rw [W115.size]; exact Z113
  show own_Go p.tables e below _ (T115.setTop (mkF m 53 #[.val (.long q1), .second, .val (.long q2), .second, .val (.long q3), .second, .val (.int p4), .val (.int p5), .val (.int t), .val (.int b), .val (.ref a1), .unset, .unset] []))
  obtain ⟨f119, V119⟩ : ∃ f, own_Av Z h115 a1 cA101 .byte 16 f := ⟨_, V_a1_117⟩
  refine own_go (fun _ kont => XS.aload X115.here hx rfl (hb hby at_53) rfl rfl kont) ?_
  show own_Go p.tables e below _ (T115.setTop (mkF m 55 #[.val (.long q1), .second, .val (.long q2), .second, .val (.long q3), .second, .val (.int p4), .val (.int p5), .val (.int t), .val (.int b), .val (.ref a1), .unset, .unset] [(.ref a1)]))
  refine own_go (fun _ kont => XS.iconst X115.here hx rfl (hb hby at_55) kont) ?_
  show own_Go p.tables e below _ (T115.setTop (mkF m 56 #[.val (.long q1), .second, .val (.long q2), .second, .val (.long q3), .second, .val (.int p4), .val (.int p5), .val (.int t), .val (.int b), .val (.ref a1), .unset, .unset] [(.int (3 : Int32)), (.ref a1)]))
  refine own_go (fun _ kont => XS.lloadN X115.here hx rfl (hb hby at_56) rfl kont) ?_
  show own_Go p.tables e below _ (T115.setTop (mkF m 57 #[.val (.long q1), .second, .val (.long q2), .second, .val (.long q3), .second, .val (.int p4), .val (.int p5), .val (.int t), .val (.int b), .val (.ref a1), .unset, .unset] [(.long q2), (.int (3 : Int32)), (.ref a1)]))
  refine own_go (fun _ kont => XS.bipush X115.here hx rfl (hb hby at_57) kont) ?_
  show own_Go p.tables e below _ (T115.setTop (mkF m 59 #[.val (.long q1), .second, .val (.long q2), .second, .val (.long q3), .second, .val (.int p4), .val (.int p5), .val (.int t), .val (.int b), .val (.ref a1), .unset, .unset] [(.int (24 : Int32)), (.long q2), (.int (3 : Int32)), (.ref a1)]))
  refine own_go (fun _ kont => XS.lushr X115.here hx rfl (hb hby at_59) rfl kont) ?_
  show own_Go p.tables e below _ (T115.setTop (mkF m 60 #[.val (.long q1), .second, .val (.long q2), .second, .val (.long q3), .second, .val (.int p4), .val (.int p5), .val (.int t), .val (.int b), .val (.ref a1), .unset, .unset] [(.long ((q2.toUInt64 >>> ((24 : Int32) &&& 0x3f).toInt64.toUInt64).toInt64)), (.int (3 : Int32)), (.ref a1)]))
  refine own_go (fun _ kont => XS.l2i X115.here hx rfl (hb hby at_60) rfl kont) ?_
  show own_Go p.tables e below _ (T115.setTop (mkF m 61 #[.val (.long q1), .second, .val (.long q2), .second, .val (.long q3), .second, .val (.int p4), .val (.int p5), .val (.int t), .val (.int b), .val (.ref a1), .unset, .unset] [(.int (((q2.toUInt64 >>> ((24 : Int32) &&& 0x3f).toInt64.toUInt64).toInt64).toInt32)), (.int (3 : Int32)), (.ref a1)]))
  refine own_go (fun _ kont => XS.i2b X115.here hx rfl (hb hby at_61) rfl kont) ?_
  show own_Go p.tables e below _ (T115.setTop (mkF m 62 #[.val (.long q1), .second, .val (.long q2), .second, .val (.long q3), .second, .val (.int p4), .val (.int p5), .val (.int t), .val (.int b), .val (.ref a1), .unset, .unset] [(.int ((((q2.toUInt64 >>> ((24 : Int32) &&& 0x3f).toInt64.toUInt64).toInt64).toInt32).toInt8.toInt32)), (.int (3 : Int32)), (.ref a1)]))
  refine own_bast X115 hx hZ e115 V119 3 (by decide) (by decide) (by decide) (hb hby at_62) ?_
  intro T120 h120 X120 e120 W120
  have E_a1_121 : Exa Z h120 a1 "[B" := Exa.wr W120 E_a1_116
  have V_a1_122 : own_Av Z h120 a1 cA101 .byte 16 (fun x => if x = 3 then .int (((((q2.toUInt64 >>> ((24 : Int32) &&& 0x3f).toInt64.toUInt64).toInt64).toInt32).toInt8.toInt32).toInt8.toInt32) else (f119) x) := own_Av.set V119 W120 (by decide)
  have N123 := Fr.snoc X120 N118 ge_a1
  have Z123 : n0 ≤ h120.size := by rw [W120.size]; exact Z118
  show own_Go p.tables e below _ (T120.setTop (mkF m 63 #[.val (.long q1), .second, .val (.long q2), .second, .val (.long q3), .second, .val (.int p4), .val (.int p5), .val (.int t), .val (.int b), .val (.ref a1), .unset, .unset] []))
  obtain ⟨f124, V124⟩ : ∃ f, own_Av Z h120 a1 cA101 .byte 16 f := ⟨_, V_a1_122⟩
  refine own_go (fun _ kont => XS.aload X120.here hx rfl (hb hby at_63) rfl rfl kont) ?_
  show own_Go p.tables e below _ (T120.setTop (mkF m 65 #[.val (.long q1), .second, .val (.long q2), .second, .val (.long q3), .second, .val (.int p4), .val (.int p5), .val (.int t), .val (.int b), .val (.ref a1), .unset, .unset] [(.ref a1)]))
  refine own_go (fun _ kont => XS.iconst X120.here hx rfl (hb hby at_65) kont) ?_
  show own_Go p.tables e below _ (T120.setTop (mkF m 66 #[.val (.long q1), .second, .val (.long q2), .second, .val (.long q3), .second, .val (.int p4), .val (.int p5), .val (.int t), .val (.int b), .val (.ref a1), .unset, .unset] [(.int (4 : Int32)), (.ref a1)]))
  refine own_go (fun _ kont => XS.lloadN X120.here hx rfl (hb hby at_66) rfl kont) ?_
  show own_Go p.tables e below _ (T120.setTop (mkF m 67 #[.val (.long q1), .second, .val (.long q2), .second, .val (.long q3), .second, .val (.int p4), .val (.int p5), .val (.int t), .val (.int b), .val (.ref a1), .unset, .unset] [(.long q2), (.int (4 : Int32)), (.ref a1)]))
  refine own_go (fun _ kont => XS.bipush X120.here hx rfl (hb hby at_67) kont) ?_
  show own_Go p.tables e below _ (T120.setTop (mkF m 69 #[.val (.long q1), .second, .val (.long q2), .second, .val (.long q3), .second, .val (.int p4), .val (.int p5), .val (.int t), .val (.int b), .val (.ref a1), .unset, .unset] [(.int (32 : Int32)), (.long q2), (.int (4 : Int32)), (.ref a1)]))
  refine own_go (fun _ kont => XS.lushr X120.here hx rfl (hb hby at_69) rfl kont) ?_
  show own_Go p.tables e below _ (T120.setTop (mkF m 70 #[.val (.long q1), .second, .val (.long q2), .second, .val (.long q3), .second, .val (.int p4), .val (.int p5), .val (.int t), .val (.int b), .val (.ref a1), .unset, .unset] [(.long ((q2.toUInt64 >>> ((32 : Int32) &&& 0x3f).toInt64.toUInt64).toInt64)), (.int (4 : Int32)), (.ref a1)]))
  refine own_go (fun _ kont => XS.l2i X120.here hx rfl (hb hby at_70) rfl kont) ?_
  show own_Go p.tables e below _ (T120.setTop (mkF m 71 #[.val (.long q1), .second, .val (.long q2), .second, .val (.long q3), .second, .val (.int p4), .val (.int p5), .val (.int t), .val (.int b), .val (.ref a1), .unset, .unset] [(.int (((q2.toUInt64 >>> ((32 : Int32) &&& 0x3f).toInt64.toUInt64).toInt64).toInt32)), (.int (4 : Int32)), (.ref a1)]))
  refine own_go (fun _ kont => XS.i2b X120.here hx rfl (hb hby at_71) rfl kont) ?_
  show own_Go p.tables e below _ (T120.setTop (mkF m 72 #[.val (.long q1), .second, .val (.long q2), .second, .val (.long q3), .second, .val (.int p4), .val (.int p5), .val (.int t), .val (.int b), .val (.ref a1), .unset, .unset] [(.int ((((q2.toUInt64 >>> ((32 : Int32) &&& 0x3f).toInt64.toUInt64).toInt64).toInt32).toInt8.toInt32)), (.int (4 : Int32)), (.ref a1)]))
  refine own_bast X120 hx hZ e120 V124 4 (by decide) (by decide) (by decide) (hb hby at_72) ?_
  intro T125 h125 X125 e125 W125
  have E_a1_126 : Exa Z h125 a1 "[B" := Exa.wr W125 E_a1_121
  have V_a1_127 : own_Av Z h125 a1 cA101 .byte 16 (fun x => if x = 4 then .int (((((q2.toUInt64 >>> ((32 : Int32) &&& 0x3f).toInt64.toUInt64).toInt64).toInt32).toInt8.toInt32).toInt8.toInt32) else (f124) x) := own_Av.set V124 W125 (by decide)
  have N128 := Fr.snoc X125 N123 ge_a1
  have Z128 : n0 ≤ h125.size := by rw [W125.size]; exact Z123
  show own_Go p.tables e below _ (T125.setTop (mkF m 73 #[.val (.long q1), .second, .val (.long q2), .second, .val (.long q3), .second, .val (.int p4), .val (.int p5), .val (.int t), .val (.int b), .val (.ref a1), .unset, .unset] []))
  obtain ⟨f129, V129⟩ : ∃ f, own_Av Z h125 a1 cA101 .byte 16 f := ⟨_, V_a1_127⟩
  refine own_go (fun _ kont => XS.aload X125.here hx rfl (hb hby at_73) rfl rfl kont) ?_
  show own_Go p.tables e below _ (T125.setTop (mkF m 75 #[.val (.long q1), .second, .val (.long q2), .second, .val (.long q3), .second, .val (.int p4), .val (.int p5), .val (.int t), .val (.int b), .val (.ref a1), .unset, .unset] [(.ref a1)]))
  refine own_go (fun _ kont => XS.iconst X125.here hx rfl (hb hby at_75) kont) ?_
  show own_Go p.tables e below _ (T125.setTop (mkF m 76 #[.val (.long q1), .second, .val (.long q2), .second, .val (.long q3), .second, .val (.int p4), .val (.int p5), .val (.int t), .val (.int b), .val (.ref a1), .unset, .unset] [(.int (5 : Int32)), (.ref a1)]))
  refine own_go (fun _ kont => XS.lloadN X125.here hx rfl (hb hby at_76) rfl kont) ?_
  show own_Go p.tables e below _ (T125.setTop (mkF m 77 #[.val (.long q1), .second, .val (.long q2), .second, .val (.long q3), .second, .val (.int p4), .val (.int p5), .val (.int t), .val (.int b), .val (.ref a1), .unset, .unset] [(.long q2), (.int (5 : Int32)), (.ref a1)]))
  refine own_go (fun _ kont => XS.bipush X125.here hx rfl (hb hby at_77) kont) ?_
  show own_Go p.tables e below _ (T125.setTop (mkF m 79 #[.val (.long q1), .second, .val (.long q2), .second, .val (.long q3), .second, .val (.int p4), .val (.int p5), .val (.int t), .val (.int b), .val (.ref a1), .unset, .unset] [(.int (40 : Int32)), (.long q2), (.int (5 : Int32)), (.ref a1)]))
  refine own_go (fun _ kont => XS.lushr X125.here hx rfl (hb hby at_79) rfl kont) ?_
  show own_Go p.tables e below _ (T125.setTop (mkF m 80 #[.val (.long q1), .second, .val (.long q2), .second, .val (.long q3), .second, .val (.int p4), .val (.int p5), .val (.int t), .val (.int b), .val (.ref a1), .unset, .unset] [(.long ((q2.toUInt64 >>> ((40 : Int32) &&& 0x3f).toInt64.toUInt64).toInt64)), (.int (5 : Int32)), (.ref a1)]))
  refine own_go (fun _ kont => XS.l2i X125.here hx rfl (hb hby at_80) rfl kont) ?_
  show own_Go p.tables e below _ (T125.setTop (mkF m 81 #[.val (.long q1), .second, .val (.long q2), .second, .val (.long q3), .second, .val (.int p4), .val (.int p5), .val (.int t), .val (.int b), .val (.ref a1), .unset, .unset] [(.int (((q2.toUInt64 >>> ((40 : Int32) &&& 0x3f).toInt64.toUInt64).toInt64).toInt32)), (.int (5 : Int32)), (.ref a1)]))
  refine own_go (fun _ kont => XS.i2b X125.here hx rfl (hb hby at_81) rfl kont) ?_
  show own_Go p.tables e below _ (T125.setTop (mkF m 82 #[.val (.long q1), .second, .val (.long q2), .second, .val (.long q3), .second, .val (.int p4), .val (.int p5), .val (.int t), .val (.int b), .val (.ref a1), .unset, .unset] [(.int ((((q2.toUInt64 >>> ((40 : Int32) &&& 0x3f).toInt64.toUInt64).toInt64).toInt32).toInt8.toInt32)), (.int (5 : Int32)), (.ref a1)]))
  refine own_bast X125 hx hZ e125 V129 5 (by decide) (by decide) (by decide) (hb hby at_82) ?_
  intro T130 h130 X130 e130 W130
  have E_a1_131 : Exa Z h130 a1 "[B" := Exa.wr W130 E_a1_126
  have V_a1_132 : own_Av Z h130 a1 cA101 .byte 16 (fun x => if x = 5 then .int (((((q2.toUInt64 >>> ((40 : Int32) &&& 0x3f).toInt64.toUInt64).toInt64).toInt32).toInt8.toInt32).toInt8.toInt32) else (f129) x) := own_Av.set V129 W130 (by decide)
  have N133 := Fr.snoc X130 N128 ge_a1
  have Z133 : n0 ≤ h130.size := by rw [W130.size]; exact Z128
  show own_Go p.tables e below _ (T130.setTop (mkF m 83 #[.val (.long q1), .second, .val (.long q2), .second, .val (.long q3), .second, .val (.int p4), .val (.int p5), .val (.int t), .val (.int b), .val (.ref a1), .unset, .unset] []))
  obtain ⟨f134, V134⟩ : ∃ f, own_Av Z h130 a1 cA101 .byte 16 f := ⟨_, V_a1_132⟩
  refine own_go (fun _ kont => XS.aload X130.here hx rfl (hb hby at_83) rfl rfl kont) ?_
  show own_Go p.tables e below _ (T130.setTop (mkF m 85 #[.val (.long q1), .second, .val (.long q2), .second, .val (.long q3), .second, .val (.int p4), .val (.int p5), .val (.int t), .val (.int b), .val (.ref a1), .unset, .unset] [(.ref a1)]))
  refine own_go (fun _ kont => XS.bipush X130.here hx rfl (hb hby at_85) kont) ?_
  show own_Go p.tables e below _ (T130.setTop (mkF m 87 #[.val (.long q1), .second, .val (.long q2), .second, .val (.long q3), .second, .val (.int p4), .val (.int p5), .val (.int t), .val (.int b), .val (.ref a1), .unset, .unset] [(.int (6 : Int32)), (.ref a1)]))
  refine own_go (fun _ kont => XS.lloadN X130.here hx rfl (hb hby at_87) rfl kont) ?_
  show own_Go p.tables e below _ (T130.setTop (mkF m 88 #[.val (.long q1), .second, .val (.long q2), .second, .val (.long q3), .second, .val (.int p4), .val (.int p5), .val (.int t), .val (.int b), .val (.ref a1), .unset, .unset] [(.long q2), (.int (6 : Int32)), (.ref a1)]))
  refine own_go (fun _ kont => XS.bipush X130.here hx rfl (hb hby at_88) kont) ?_
  show own_Go p.tables e below _ (T130.setTop (mkF m 90 #[.val (.long q1), .second, .val (.long q2), .second, .val (.long q3), .second, .val (.int p4), .val (.int p5), .val (.int t), .val (.int b), .val (.ref a1), .unset, .unset] [(.int (48 : Int32)), (.long q2), (.int (6 : Int32)), (.ref a1)]))
  refine own_go (fun _ kont => XS.lushr X130.here hx rfl (hb hby at_90) rfl kont) ?_
  show own_Go p.tables e below _ (T130.setTop (mkF m 91 #[.val (.long q1), .second, .val (.long q2), .second, .val (.long q3), .second, .val (.int p4), .val (.int p5), .val (.int t), .val (.int b), .val (.ref a1), .unset, .unset] [(.long ((q2.toUInt64 >>> ((48 : Int32) &&& 0x3f).toInt64.toUInt64).toInt64)), (.int (6 : Int32)), (.ref a1)]))
  refine own_go (fun _ kont => XS.l2i X130.here hx rfl (hb hby at_91) rfl kont) ?_
  show own_Go p.tables e below _ (T130.setTop (mkF m 92 #[.val (.long q1), .second, .val (.long q2), .second, .val (.long q3), .second, .val (.int p4), .val (.int p5), .val (.int t), .val (.int b), .val (.ref a1), .unset, .unset] [(.int (((q2.toUInt64 >>> ((48 : Int32) &&& 0x3f).toInt64.toUInt64).toInt64).toInt32)), (.int (6 : Int32)), (.ref a1)]))
  refine own_go (fun _ kont => XS.i2b X130.here hx rfl (hb hby at_92) rfl kont) ?_
  show own_Go p.tables e below _ (T130.setTop (mkF m 93 #[.val (.long q1), .second, .val (.long q2), .second, .val (.long q3), .second, .val (.int p4), .val (.int p5), .val (.int t), .val (.int b), .val (.ref a1), .unset, .unset] [(.int ((((q2.toUInt64 >>> ((48 : Int32) &&& 0x3f).toInt64.toUInt64).toInt64).toInt32).toInt8.toInt32)), (.int (6 : Int32)), (.ref a1)]))
  refine own_bast X130 hx hZ e130 V134 6 (by decide) (by decide) (by decide) (hb hby at_93) ?_
  intro T135 h135 X135 e135 W135
  have E_a1_136 : Exa Z h135 a1 "[B" := Exa.wr W135 E_a1_131
  have V_a1_137 : own_Av Z h135 a1 cA101 .byte 16 (fun x => if x = 6 then .int (((((q2.toUInt64 >>> ((48 : Int32) &&& 0x3f).toInt64.toUInt64).toInt64).toInt32).toInt8.toInt32).toInt8.toInt32) else (f134) x) := own_Av.set V134 W135 (by decide)
  have N138 := Fr.snoc X135 N133 ge_a1
  have Z138 : n0 ≤ h135.size := by rw [W135.size]; exact Z133
  show own_Go p.tables e below _ (T135.setTop (mkF m 94 #[.val (.long q1), .second, .val (.long q2), .second, .val (.long q3), .second, .val (.int p4), .val (.int p5), .val (.int t), .val (.int b), .val (.ref a1), .unset, .unset] []))
  obtain ⟨f139, V139⟩ : ∃ f, own_Av Z h135 a1 cA101 .byte 16 f := ⟨_, V_a1_137⟩
  refine own_go (fun _ kont => XS.aload X135.here hx rfl (hb hby at_94) rfl rfl kont) ?_
  show own_Go p.tables e below _ (T135.setTop (mkF m 96 #[.val (.long q1), .second, .val (.long q2), .second, .val (.long q3), .second, .val (.int p4), .val (.int p5), .val (.int t), .val (.int b), .val (.ref a1), .unset, .unset] [(.ref a1)]))
  refine own_go (fun _ kont => XS.bipush X135.here hx rfl (hb hby at_96) kont) ?_
  show own_Go p.tables e below _ (T135.setTop (mkF m 98 #[.val (.long q1), .second, .val (.long q2), .second, .val (.long q3), .second, .val (.int p4), .val (.int p5), .val (.int t), .val (.int b), .val (.ref a1), .unset, .unset] [(.int (7 : Int32)), (.ref a1)]))
  refine own_go (fun _ kont => XS.lloadN X135.here hx rfl (hb hby at_98) rfl kont) ?_
  show own_Go p.tables e below _ (T135.setTop (mkF m 99 #[.val (.long q1), .second, .val (.long q2), .second, .val (.long q3), .second, .val (.int p4), .val (.int p5), .val (.int t), .val (.int b), .val (.ref a1), .unset, .unset] [(.long q2), (.int (7 : Int32)), (.ref a1)]))
  refine own_go (fun _ kont => XS.bipush X135.here hx rfl (hb hby at_99) kont) ?_
  show own_Go p.tables e below _ (T135.setTop (mkF m 101 #[.val (.long q1), .second, .val (.long q2), .second, .val (.long q3), .second, .val (.int p4), .val (.int p5), .val (.int t), .val (.int b), .val (.ref a1), .unset, .unset] [(.int (56 : Int32)), (.long q2), (.int (7 : Int32)), (.ref a1)]))
  refine own_go (fun _ kont => XS.lushr X135.here hx rfl (hb hby at_101) rfl kont) ?_
  show own_Go p.tables e below _ (T135.setTop (mkF m 102 #[.val (.long q1), .second, .val (.long q2), .second, .val (.long q3), .second, .val (.int p4), .val (.int p5), .val (.int t), .val (.int b), .val (.ref a1), .unset, .unset] [(.long ((q2.toUInt64 >>> ((56 : Int32) &&& 0x3f).toInt64.toUInt64).toInt64)), (.int (7 : Int32)), (.ref a1)]))
  refine own_go (fun _ kont => XS.l2i X135.here hx rfl (hb hby at_102) rfl kont) ?_
  show own_Go p.tables e below _ (T135.setTop (mkF m 103 #[.val (.long q1), .second, .val (.long q2), .second, .val (.long q3), .second, .val (.int p4), .val (.int p5), .val (.int t), .val (.int b), .val (.ref a1), .unset, .unset] [(.int (((q2.toUInt64 >>> ((56 : Int32) &&& 0x3f).toInt64.toUInt64).toInt64).toInt32)), (.int (7 : Int32)), (.ref a1)]))
  refine own_go (fun _ kont => XS.i2b X135.here hx rfl (hb hby at_103) rfl kont) ?_
  show own_Go p.tables e below _ (T135.setTop (mkF m 104 #[.val (.long q1), .second, .val (.long q2), .second, .val (.long q3), .second, .val (.int p4), .val (.int p5), .val (.int t), .val (.int b), .val (.ref a1), .unset, .unset] [(.int ((((q2.toUInt64 >>> ((56 : Int32) &&& 0x3f).toInt64.toUInt64).toInt64).toInt32).toInt8.toInt32)), (.int (7 : Int32)), (.ref a1)]))
  refine own_bast X135 hx hZ e135 V139 7 (by decide) (by decide) (by decide) (hb hby at_104) ?_
  intro T140 h140 X140 e140 W140
  have E_a1_141 : Exa Z h140 a1 "[B" := Exa.wr W140 E_a1_136
  have V_a1_142 : own_Av Z h140 a1 cA101 .byte 16 (fun x => if x = 7 then .int (((((q2.toUInt64 >>> ((56 : Int32) &&& 0x3f).toInt64.toUInt64).toInt64).toInt32).toInt8.toInt32).toInt8.toInt32) else (f139) x) := own_Av.set V139 W140 (by decide)
  have N143 := Fr.snoc X140 N138 ge_a1
  have Z143 : n0 ≤ h140.size := by rw [W140.size]; exact Z138
  show own_Go p.tables e below _ (T140.setTop (mkF m 105 #[.val (.long q1), .second, .val (.long q2), .second, .val (.long q3), .second, .val (.int p4), .val (.int p5), .val (.int t), .val (.int b), .val (.ref a1), .unset, .unset] []))
  obtain ⟨f144, V144⟩ : ∃ f, own_Av Z h140 a1 cA101 .byte 16 f := ⟨_, V_a1_142⟩
  refine own_go (fun _ kont => XS.aload X140.here hx rfl (hb hby at_105) rfl rfl kont) ?_
  show own_Go p.tables e below _ (T140.setTop (mkF m 107 #[.val (.long q1), .second, .val (.long q2), .second, .val (.long q3), .second, .val (.int p4), .val (.int p5), .val (.int t), .val (.int b), .val (.ref a1), .unset, .unset] [(.ref a1)]))
  refine own_go (fun _ kont => XS.bipush X140.here hx rfl (hb hby at_107) kont) ?_
  show own_Go p.tables e below _ (T140.setTop (mkF m 109 #[.val (.long q1), .second, .val (.long q2), .second, .val (.long q3), .second, .val (.int p4), .val (.int p5), .val (.int t), .val (.int b), .val (.ref a1), .unset, .unset] [(.int (8 : Int32)), (.ref a1)]))
  refine own_go (fun _ kont => XS.lload X140.here hx rfl (hb hby at_109) rfl kont) ?_
  show own_Go p.tables e below _ (T140.setTop (mkF m 111 #[.val (.long q1), .second, .val (.long q2), .second, .val (.long q3), .second, .val (.int p4), .val (.int p5), .val (.int t), .val (.int b), .val (.ref a1), .unset, .unset] [(.long q3), (.int (8 : Int32)), (.ref a1)]))
  refine own_go (fun _ kont => XS.l2i X140.here hx rfl (hb hby at_111) rfl kont) ?_
  show own_Go p.tables e below _ (T140.setTop (mkF m 112 #[.val (.long q1), .second, .val (.long q2), .second, .val (.long q3), .second, .val (.int p4), .val (.int p5), .val (.int t), .val (.int b), .val (.ref a1), .unset, .unset] [(.int (q3.toInt32)), (.int (8 : Int32)), (.ref a1)]))
  refine own_go (fun _ kont => XS.i2b X140.here hx rfl (hb hby at_112) rfl kont) ?_
  show own_Go p.tables e below _ (T140.setTop (mkF m 113 #[.val (.long q1), .second, .val (.long q2), .second, .val (.long q3), .second, .val (.int p4), .val (.int p5), .val (.int t), .val (.int b), .val (.ref a1), .unset, .unset] [(.int ((q3.toInt32).toInt8.toInt32)), (.int (8 : Int32)), (.ref a1)]))
  refine own_bast X140 hx hZ e140 V144 8 (by decide) (by decide) (by decide) (hb hby at_113) ?_
  intro T145 h145 X145 e145 W145
  have E_a1_146 : Exa Z h145 a1 "[B" := Exa.wr W145 E_a1_141
  have V_a1_147 : own_Av Z h145 a1 cA101 .byte 16 (fun x => if x = 8 then .int (((q3.toInt32).toInt8.toInt32).toInt8.toInt32) else (f144) x) := own_Av.set V144 W145 (by decide)
  have N148 := Fr.snoc X145 N143 ge_a1
  have Z148 : n0 ≤ h145.size := by rw [W145.size]; exact Z143
  show own_Go p.tables e below _ (T145.setTop (mkF m 114 #[.val (.long q1), .second, .val (.long q2), .second, .val (.long q3), .second, .val (.int p4), .val (.int p5), .val (.int t), .val (.int b), .val (.ref a1), .unset, .unset] []))
  obtain ⟨f149, V149⟩ : ∃ f, own_Av Z h145 a1 cA101 .byte 16 f := ⟨_, V_a1_147⟩
  refine own_go (fun _ kont => XS.aload X145.here hx rfl (hb hby at_114) rfl rfl kont) ?_
  show own_Go p.tables e below _ (T145.setTop (mkF m 116 #[.val (.long q1), .second, .val (.long q2), .second, .val (.long q3), .second, .val (.int p4), .val (.int p5), .val (.int t), .val (.int b), .val (.ref a1), .unset, .unset] [(.ref a1)]))
  refine own_go (fun _ kont => XS.bipush X145.here hx rfl (hb hby at_116) kont) ?_
  show own_Go p.tables e below _ (T145.setTop (mkF m 118 #[.val (.long q1), .second, .val (.long q2), .second, .val (.long q3), .second, .val (.int p4), .val (.int p5), .val (.int t), .val (.int b), .val (.ref a1), .unset, .unset] [(.int (9 : Int32)), (.ref a1)]))
  refine own_go (fun _ kont => XS.lload X145.here hx rfl (hb hby at_118) rfl kont) ?_
  show own_Go p.tables e below _ (T145.setTop (mkF m 120 #[.val (.long q1), .second, .val (.long q2), .second, .val (.long q3), .second, .val (.int p4), .val (.int p5), .val (.int t), .val (.int b), .val (.ref a1), .unset, .unset] [(.long q3), (.int (9 : Int32)), (.ref a1)]))
  refine own_go (fun _ kont => XS.bipush X145.here hx rfl (hb hby at_120) kont) ?_
  show own_Go p.tables e below _ (T145.setTop (mkF m 122 #[.val (.long q1), .second, .val (.long q2), .second, .val (.long q3), .second, .val (.int p4), .val (.int p5), .val (.int t), .val (.int b), .val (.ref a1), .unset, .unset] [(.int (8 : Int32)), (.long q3), (.int (9 : Int32)), (.ref a1)]))
  refine own_go (fun _ kont => XS.lushr X145.here hx rfl (hb hby at_122) rfl kont) ?_
  show own_Go p.tables e below _ (T145.setTop (mkF m 123 #[.val (.long q1), .second, .val (.long q2), .second, .val (.long q3), .second, .val (.int p4), .val (.int p5), .val (.int t), .val (.int b), .val (.ref a1), .unset, .unset] [(.long ((q3.toUInt64 >>> ((8 : Int32) &&& 0x3f).toInt64.toUInt64).toInt64)), (.int (9 : Int32)), (.ref a1)]))
  refine own_go (fun _ kont => XS.l2i X145.here hx rfl (hb hby at_123) rfl kont) ?_
  show own_Go p.tables e below _ (T145.setTop (mkF m 124 #[.val (.long q1), .second, .val (.long q2), .second, .val (.long q3), .second, .val (.int p4), .val (.int p5), .val (.int t), .val (.int b), .val (.ref a1), .unset, .unset] [(.int (((q3.toUInt64 >>> ((8 : Int32) &&& 0x3f).toInt64.toUInt64).toInt64).toInt32)), (.int (9 : Int32)), (.ref a1)]))
  refine own_go (fun _ kont => XS.i2b X145.here hx rfl (hb hby at_124) rfl kont) ?_
  show own_Go p.tables e below _ (T145.setTop (mkF m 125 #[.val (.long q1), .second, .val (.long q2), .second, .val (.long q3), .second, .val (.int p4), .val (.int p5), .val (.int t), .val (.int b), .val (.ref a1), .unset, .unset] [(.int ((((q3.toUInt64 >>> ((8 : Int32) &&& 0x3f).toInt64.toUInt64).toInt64).toInt32).toInt8.toInt32)), (.int (9 : Int32)), (.ref a1)]))
  refine own_bast X145 hx hZ e145 V149 9 (by decide) (by decide) (by decide) (hb hby at_125) ?_
  intro T150 h150 X150 e150 W150
  have E_a1_151 : Exa Z h150 a1 "[B" := Exa.wr W150 E_a1_146
  have V_a1_152 : own_Av Z h150 a1 cA101 .byte 16 (fun x => if x = 9 then .int (((((q3.toUInt64 >>> ((8 : Int32) &&& 0x3f).toInt64.toUInt64).toInt64).toInt32).toInt8.toInt32).toInt8.toInt32) else (f149) x) := own_Av.set V149 W150 (by decide)
  have N153 := Fr.snoc X150 N148 ge_a1
  have Z153 : n0 ≤ h150.size := by rw [W150.size]; exact Z148
  show own_Go p.tables e below _ (T150.setTop (mkF m 126 #[.val (.long q1), .second, .val (.long q2), .second, .val (.long q3), .second, .val (.int p4), .val (.int p5), .val (.int t), .val (.int b), .val (.ref a1), .unset, .unset] []))
  obtain ⟨f154, V154⟩ : ∃ f, own_Av Z h150 a1 cA101 .byte 16 f := ⟨_, V_a1_152⟩
  refine own_go (fun _ kont => XS.aload X150.here hx rfl (hb hby at_126) rfl rfl kont) ?_
  show own_Go p.tables e below _ (T150.setTop (mkF m 128 #[.val (.long q1), .second, .val (.long q2), .second, .val (.long q3), .second, .val (.int p4), .val (.int p5), .val (.int t), .val (.int b), .val (.ref a1), .unset, .unset] [(.ref a1)]))
  refine own_go (fun _ kont => XS.bipush X150.here hx rfl (hb hby at_128) kont) ?_
  show own_Go p.tables e below _ (T150.setTop (mkF m 130 #[.val (.long q1), .second, .val (.long q2), .second, .val (.long q3), .second, .val (.int p4), .val (.int p5), .val (.int t), .val (.int b), .val (.ref a1), .unset, .unset] [(.int (10 : Int32)), (.ref a1)]))
  refine own_go (fun _ kont => XS.lload X150.here hx rfl (hb hby at_130) rfl kont) ?_
  show own_Go p.tables e below _ (T150.setTop (mkF m 132 #[.val (.long q1), .second, .val (.long q2), .second, .val (.long q3), .second, .val (.int p4), .val (.int p5), .val (.int t), .val (.int b), .val (.ref a1), .unset, .unset] [(.long q3), (.int (10 : Int32)), (.ref a1)]))
  refine own_go (fun _ kont => XS.bipush X150.here hx rfl (hb hby at_132) kont) ?_
  show own_Go p.tables e below _ (T150.setTop (mkF m 134 #[.val (.long q1), .second, .val (.long q2), .second, .val (.long q3), .second, .val (.int p4), .val (.int p5), .val (.int t), .val (.int b), .val (.ref a1), .unset, .unset] [(.int (16 : Int32)), (.long q3), (.int (10 : Int32)), (.ref a1)]))
  refine own_go (fun _ kont => XS.lushr X150.here hx rfl (hb hby at_134) rfl kont) ?_
  show own_Go p.tables e below _ (T150.setTop (mkF m 135 #[.val (.long q1), .second, .val (.long q2), .second, .val (.long q3), .second, .val (.int p4), .val (.int p5), .val (.int t), .val (.int b), .val (.ref a1), .unset, .unset] [(.long ((q3.toUInt64 >>> ((16 : Int32) &&& 0x3f).toInt64.toUInt64).toInt64)), (.int (10 : Int32)), (.ref a1)]))
  refine own_go (fun _ kont => XS.l2i X150.here hx rfl (hb hby at_135) rfl kont) ?_
  show own_Go p.tables e below _ (T150.setTop (mkF m 136 #[.val (.long q1), .second, .val (.long q2), .second, .val (.long q3), .second, .val (.int p4), .val (.int p5), .val (.int t), .val (.int b), .val (.ref a1), .unset, .unset] [(.int (((q3.toUInt64 >>> ((16 : Int32) &&& 0x3f).toInt64.toUInt64).toInt64).toInt32)), (.int (10 : Int32)), (.ref a1)]))
  refine own_go (fun _ kont => XS.i2b X150.here hx rfl (hb hby at_136) rfl kont) ?_
  show own_Go p.tables e below _ (T150.setTop (mkF m 137 #[.val (.long q1), .second, .val (.long q2), .second, .val (.long q3), .second, .val (.int p4), .val (.int p5), .val (.int t), .val (.int b), .val (.ref a1), .unset, .unset] [(.int ((((q3.toUInt64 >>> ((16 : Int32) &&& 0x3f).toInt64.toUInt64).toInt64).toInt32).toInt8.toInt32)), (.int (10 : Int32)), (.ref a1)]))
  refine own_bast X150 hx hZ e150 V154 10 (by decide) (by decide) (by decide) (hb hby at_137) ?_
  intro T155 h155 X155 e155 W155
  have E_a1_156 : Exa Z h155 a1 "[B" := Exa.wr W155 E_a1_151
  have V_a1_157 : own_Av Z h155 a1 cA101 .byte 16 (fun x => if x = 10 then .int (((((q3.toUInt64 >>> ((16 : Int32) &&& 0x3f).toInt64.toUInt64).toInt64).toInt32).toInt8.toInt32).toInt8.toInt32) else (f154) x) := own_Av.set V154 W155 (by decide)
  have N158 := Fr.snoc X155 N153 ge_a1
  have Z158 : n0 ≤ h155.size := by rw [W155.size]; exact Z153
  show own_Go p.tables e below _ (T155.setTop (mkF m 138 #[.val (.long q1), .second, .val (.long q2), .second, .val (.long q3), .second, .val (.int p4), .val (.int p5), .val (.int t), .val (.int b), .val (.ref a1), .unset, .unset] []))
  obtain ⟨f159, V159⟩ : ∃ f, own_Av Z h155 a1 cA101 .byte 16 f := ⟨_, V_a1_157⟩
  refine own_go (fun _ kont => XS.aload X155.here hx rfl (hb hby at_138) rfl rfl kont) ?_
  show own_Go p.tables e below _ (T155.setTop (mkF m 140 #[.val (.long q1), .second, .val (.long q2), .second, .val (.long q3), .second, .val (.int p4), .val (.int p5), .val (.int t), .val (.int b), .val (.ref a1), .unset, .unset] [(.ref a1)]))
  refine own_go (fun _ kont => XS.bipush X155.here hx rfl (hb hby at_140) kont) ?_
  show own_Go p.tables e below _ (T155.setTop (mkF m 142 #[.val (.long q1), .second, .val (.long q2), .second, .val (.long q3), .second, .val (.int p4), .val (.int p5), .val (.int t), .val (.int b), .val (.ref a1), .unset, .unset] [(.int (11 : Int32)), (.ref a1)]))
  refine own_go (fun _ kont => XS.lload X155.here hx rfl (hb hby at_142) rfl kont) ?_
  show own_Go p.tables e below _ (T155.setTop (mkF m 144 #[.val (.long q1), .second, .val (.long q2), .second, .val (.long q3), .second, .val (.int p4), .val (.int p5), .val (.int t), .val (.int b), .val (.ref a1), .unset, .unset] [(.long q3), (.int (11 : Int32)), (.ref a1)]))
  refine own_go (fun _ kont => XS.bipush X155.here hx rfl (hb hby at_144) kont) ?_
  show own_Go p.tables e below _ (T155.setTop (mkF m 146 #[.val (.long q1), .second, .val (.long q2), .second, .val (.long q3), .second, .val (.int p4), .val (.int p5), .val (.int t), .val (.int b), .val (.ref a1), .unset, .unset] [(.int (24 : Int32)), (.long q3), (.int (11 : Int32)), (.ref a1)]))
  refine own_go (fun _ kont => XS.lushr X155.here hx rfl (hb hby at_146) rfl kont) ?_
  show own_Go p.tables e below _ (T155.setTop (mkF m 147 #[.val (.long q1), .second, .val (.long q2), .second, .val (.long q3), .second, .val (.int p4), .val (.int p5), .val (.int t), .val (.int b), .val (.ref a1), .unset, .unset] [(.long ((q3.toUInt64 >>> ((24 : Int32) &&& 0x3f).toInt64.toUInt64).toInt64)), (.int (11 : Int32)), (.ref a1)]))
  refine own_go (fun _ kont => XS.l2i X155.here hx rfl (hb hby at_147) rfl kont) ?_
  show own_Go p.tables e below _ (T155.setTop (mkF m 148 #[.val (.long q1), .second, .val (.long q2), .second, .val (.long q3), .second, .val (.int p4), .val (.int p5), .val (.int t), .val (.int b), .val (.ref a1), .unset, .unset] [(.int (((q3.toUInt64 >>> ((24 : Int32) &&& 0x3f).toInt64.toUInt64).toInt64).toInt32)), (.int (11 : Int32)), (.ref a1)]))
  refine own_go (fun _ kont => XS.i2b X155.here hx rfl (hb hby at_148) rfl kont) ?_
  show own_Go p.tables e below _ (T155.setTop (mkF m 149 #[.val (.long q1), .second, .val (.long q2), .second, .val (.long q3), .second, .val (.int p4), .val (.int p5), .val (.int t), .val (.int b), .val (.ref a1), .unset, .unset] [(.int ((((q3.toUInt64 >>> ((24 : Int32) &&& 0x3f).toInt64.toUInt64).toInt64).toInt32).toInt8.toInt32)), (.int (11 : Int32)), (.ref a1)]))
  refine own_bast X155 hx hZ e155 V159 11 (by decide) (by decide) (by decide) (hb hby at_149) ?_
  intro T160 h160 X160 e160 W160
  have E_a1_161 : Exa Z h160 a1 "[B" := Exa.wr W160 E_a1_156
  have V_a1_162 : own_Av Z h160 a1 cA101 .byte 16 (fun x => if x = 11 then .int (((((q3.toUInt64 >>> ((24 : Int32) &&& 0x3f).toInt64.toUInt64).toInt64).toInt32).toInt8.toInt32).toInt8.toInt32) else (f159) x) := own_Av.set V159 W160 (by decide)
  have N163 := Fr.snoc X160 N158 ge_a1
  have Z163 : n0 ≤ h160.size := by rw [W160.size]; exact Z158
  show own_Go p.tables e below _ (T160.setTop (mkF m 150 #[.val (.long q1), .second, .val (.long q2), .second, .val (.long q3), .second, .val (.int p4), .val (.int p5), .val (.int t), .val (.int b), .val (.ref a1), .unset, .unset] []))
  obtain ⟨f164, V164⟩ : ∃ f, own_Av Z h160 a1 cA101 .byte 16 f := ⟨_, V_a1_162⟩
  refine own_go (fun _ kont => XS.aload X160.here hx rfl (hb hby at_150) rfl rfl kont) ?_
  show own_Go p.tables e below _ (T160.setTop (mkF m 152 #[.val (.long q1), .second, .val (.long q2), .second, .val (.long q3), .second, .val (.int p4), .val (.int p5), .val (.int t), .val (.int b), .val (.ref a1), .unset, .unset] [(.ref a1)]))
  refine own_go (fun _ kont => XS.bipush X160.here hx rfl (hb hby at_152) kont) ?_
  show own_Go p.tables e below _ (T160.setTop (mkF m 154 #[.val (.long q1), .second, .val (.long q2), .second, .val (.long q3), .second, .val (.int p4), .val (.int p5), .val (.int t), .val (.int b), .val (.ref a1), .unset, .unset] [(.int (12 : Int32)), (.ref a1)]))
  refine own_go (fun _ kont => XS.lload X160.here hx rfl (hb hby at_154) rfl kont) ?_
  show own_Go p.tables e below _ (T160.setTop (mkF m 156 #[.val (.long q1), .second, .val (.long q2), .second, .val (.long q3), .second, .val (.int p4), .val (.int p5), .val (.int t), .val (.int b), .val (.ref a1), .unset, .unset] [(.long q3), (.int (12 : Int32)), (.ref a1)]))
  refine own_go (fun _ kont => XS.bipush X160.here hx rfl (hb hby at_156) kont) ?_
  show own_Go p.tables e below _ (T160.setTop (mkF m 158 #[.val (.long q1), .second, .val (.long q2), .second, .val (.long q3), .second, .val (.int p4), .val (.int p5), .val (.int t), .val (.int b), .val (.ref a1), .unset, .unset] [(.int (32 : Int32)), (.long q3), (.int (12 : Int32)), (.ref a1)]))
  refine own_go (fun _ kont => XS.lushr X160.here hx rfl (hb hby at_158) rfl kont) ?_
  show own_Go p.tables e below _ (T160.setTop (mkF m 159 #[.val (.long q1), .second, .val (.long q2), .second, .val (.long q3), .second, .val (.int p4), .val (.int p5), .val (.int t), .val (.int b), .val (.ref a1), .unset, .unset] [(.long ((q3.toUInt64 >>> ((32 : Int32) &&& 0x3f).toInt64.toUInt64).toInt64)), (.int (12 : Int32)), (.ref a1)]))
  refine own_go (fun _ kont => XS.l2i X160.here hx rfl (hb hby at_159) rfl kont) ?_
  show own_Go p.tables e below _ (T160.setTop (mkF m 160 #[.val (.long q1), .second, .val (.long q2), .second, .val (.long q3), .second, .val (.int p4), .val (.int p5), .val (.int t), .val (.int b), .val (.ref a1), .unset, .unset] [(.int (((q3.toUInt64 >>> ((32 : Int32) &&& 0x3f).toInt64.toUInt64).toInt64).toInt32)), (.int (12 : Int32)), (.ref a1)]))
  refine own_go (fun _ kont => XS.i2b X160.here hx rfl (hb hby at_160) rfl kont) ?_
  show own_Go p.tables e below _ (T160.setTop (mkF m 161 #[.val (.long q1), .second, .val (.long q2), .second, .val (.long q3), .second, .val (.int p4), .val (.int p5), .val (.int t), .val (.int b), .val (.ref a1), .unset, .unset] [(.int ((((q3.toUInt64 >>> ((32 : Int32) &&& 0x3f).toInt64.toUInt64).toInt64).toInt32).toInt8.toInt32)), (.int (12 : Int32)), (.ref a1)]))
  refine own_bast X160 hx hZ e160 V164 12 (by decide) (by decide) (by decide) (hb hby at_161) ?_
  intro T165 h165 X165 e165 W165
  have E_a1_166 : Exa Z h165 a1 "[B" := Exa.wr W165 E_a1_161
  have V_a1_167 : own_Av Z h165 a1 cA101 .byte 16 (fun x => if x = 12 then .int (((((q3.toUInt64 >>> ((32 : Int32) &&& 0x3f).toInt64.toUInt64).toInt64).toInt32).toInt8.toInt32).toInt8.toInt32) else (f164) x) := own_Av.set V164 W165 (by decide)
  have N168 := Fr.snoc X165 N163 ge_a1
  have Z168 : n0 ≤ h165.size := by rw [W165.size]; exact Z163
  show own_Go p.tables e below _ (T165.setTop (mkF m 162 #[.val (.long q1), .second, .val (.long q2), .second, .val (.long q3), .second, .val (.int p4), .val (.int p5), .val (.int t), .val (.int b), .val (.ref a1), .unset, .unset] []))
  obtain ⟨f169, V169⟩ : ∃ f, own_Av Z h165 a1 cA101 .byte 16 f := ⟨_, V_a1_167⟩
  refine own_go (fun _ kont => XS.aload X165.here hx rfl (hb hby at_162) rfl rfl kont) ?_
  show own_Go p.tables e below _ (T165.setTop (mkF m 164 #[.val (.long q1), .second, .val (.long q2), .second, .val (.long q3), .second, .val (.int p4), .val (.int p5), .val (.int t), .val (.int b), .val (.ref a1), .unset, .unset] [(.ref a1)]))
  refine own_go (fun _ kont => XS.bipush X165.here hx rfl (hb hby at_164) kont) ?_
  show own_Go p.tables e below _ (T165.setTop (mkF m 166 #[.val (.long q1), .second, .val (.long q2), .second, .val (.long q3), .second, .val (.int p4), .val (.int p5), .val (.int t), .val (.int b), .val (.ref a1), .unset, .unset] [(.int (13 : Int32)), (.ref a1)]))
  refine own_go (fun _ kont => XS.lload X165.here hx rfl (hb hby at_166) rfl kont) ?_
  show own_Go p.tables e below _ (T165.setTop (mkF m 168 #[.val (.long q1), .second, .val (.long q2), .second, .val (.long q3), .second, .val (.int p4), .val (.int p5), .val (.int t), .val (.int b), .val (.ref a1), .unset, .unset] [(.long q3), (.int (13 : Int32)), (.ref a1)]))
  refine own_go (fun _ kont => XS.bipush X165.here hx rfl (hb hby at_168) kont) ?_
  show own_Go p.tables e below _ (T165.setTop (mkF m 170 #[.val (.long q1), .second, .val (.long q2), .second, .val (.long q3), .second, .val (.int p4), .val (.int p5), .val (.int t), .val (.int b), .val (.ref a1), .unset, .unset] [(.int (40 : Int32)), (.long q3), (.int (13 : Int32)), (.ref a1)]))
  refine own_go (fun _ kont => XS.lushr X165.here hx rfl (hb hby at_170) rfl kont) ?_
  show own_Go p.tables e below _ (T165.setTop (mkF m 171 #[.val (.long q1), .second, .val (.long q2), .second, .val (.long q3), .second, .val (.int p4), .val (.int p5), .val (.int t), .val (.int b), .val (.ref a1), .unset, .unset] [(.long ((q3.toUInt64 >>> ((40 : Int32) &&& 0x3f).toInt64.toUInt64).toInt64)), (.int (13 : Int32)), (.ref a1)]))
  refine own_go (fun _ kont => XS.l2i X165.here hx rfl (hb hby at_171) rfl kont) ?_
  show own_Go p.tables e below _ (T165.setTop (mkF m 172 #[.val (.long q1), .second, .val (.long q2), .second, .val (.long q3), .second, .val (.int p4), .val (.int p5), .val (.int t), .val (.int b), .val (.ref a1), .unset, .unset] [(.int (((q3.toUInt64 >>> ((40 : Int32) &&& 0x3f).toInt64.toUInt64).toInt64).toInt32)), (.int (13 : Int32)), (.ref a1)]))
  refine own_go (fun _ kont => XS.i2b X165.here hx rfl (hb hby at_172) rfl kont) ?_
  show own_Go p.tables e below _ (T165.setTop (mkF m 173 #[.val (.long q1), .second, .val (.long q2), .second, .val (.long q3), .second, .val (.int p4), .val (.int p5), .val (.int t), .val (.int b), .val (.ref a1), .unset, .unset] [(.int ((((q3.toUInt64 >>> ((40 : Int32) &&& 0x3f).toInt64.toUInt64).toInt64).toInt32).toInt8.toInt32)), (.int (13 : Int32)), (.ref a1)]))
  refine own_bast X165 hx hZ e165 V169 13 (by decide) (by decide) (by decide) (hb hby at_173) ?_
  intro T170 h170 X170 e170 W170
  have E_a1_171 : Exa Z h170 a1 "[B" := Exa.wr W170 E_a1_166
  have V_a1_172 : own_Av Z h170 a1 cA101 .byte 16 (fun x => if x = 13 then .int (((((q3.toUInt64 >>> ((40 : Int32) &&& 0x3f).toInt64.toUInt64).toInt64).toInt32).toInt8.toInt32).toInt8.toInt32) else (f169) x) := own_Av.set V169 W170 (by decide)
  have N173 := Fr.snoc X170 N168 ge_a1
  have Z173 : n0 ≤ h170.size := by rw [W170.size]; exact Z168
  show own_Go p.tables e below _ (T170.setTop (mkF m 174 #[.val (.long q1), .second, .val (.long q2), .second, .val (.long q3), .second, .val (.int p4), .val (.int p5), .val (.int t), .val (.int b), .val (.ref a1), .unset, .unset] []))
  obtain ⟨f174, V174⟩ : ∃ f, own_Av Z h170 a1 cA101 .byte 16 f := ⟨_, V_a1_172⟩
  refine own_go (fun _ kont => XS.aload X170.here hx rfl (hb hby at_174) rfl rfl kont) ?_
  show own_Go p.tables e below _ (T170.setTop (mkF m 176 #[.val (.long q1), .second, .val (.long q2), .second, .val (.long q3), .second, .val (.int p4), .val (.int p5), .val (.int t), .val (.int b), .val (.ref a1), .unset, .unset] [(.ref a1)]))
  refine own_go (fun _ kont => XS.bipush X170.here hx rfl (hb hby at_176) kont) ?_
  show own_Go p.tables e below _ (T170.setTop (mkF m 178 #[.val (.long q1), .second, .val (.long q2), .second, .val (.long q3), .second, .val (.int p4), .val (.int p5), .val (.int t), .val (.int b), .val (.ref a1), .unset, .unset] [(.int (14 : Int32)), (.ref a1)]))
  refine own_go (fun _ kont => XS.lload X170.here hx rfl (hb hby at_178) rfl kont) ?_
  show own_Go p.tables e below _ (T170.setTop (mkF m 180 #[.val (.long q1), .second, .val (.long q2), .second, .val (.long q3), .second, .val (.int p4), .val (.int p5), .val (.int t), .val (.int b), .val (.ref a1), .unset, .unset] [(.long q3), (.int (14 : Int32)), (.ref a1)]))
  refine own_go (fun _ kont => XS.bipush X170.here hx rfl (hb hby at_180) kont) ?_
  show own_Go p.tables e below _ (T170.setTop (mkF m 182 #[.val (.long q1), .second, .val (.long q2), .second, .val (.long q3), .second, .val (.int p4), .val (.int p5), .val (.int t), .val (.int b), .val (.ref a1), .unset, .unset] [(.int (48 : Int32)), (.long q3), (.int (14 : Int32)), (.ref a1)]))
  refine own_go (fun _ kont => XS.lushr X170.here hx rfl (hb hby at_182) rfl kont) ?_
  show own_Go p.tables e below _ (T170.setTop (mkF m 183 #[.val (.long q1), .second, .val (.long q2), .second, .val (.long q3), .second, .val (.int p4), .val (.int p5), .val (.int t), .val (.int b), .val (.ref a1), .unset, .unset] [(.long ((q3.toUInt64 >>> ((48 : Int32) &&& 0x3f).toInt64.toUInt64).toInt64)), (.int (14 : Int32)), (.ref a1)]))
  refine own_go (fun _ kont => XS.l2i X170.here hx rfl (hb hby at_183) rfl kont) ?_
  show own_Go p.tables e below _ (T170.setTop (mkF m 184 #[.val (.long q1), .second, .val (.long q2), .second, .val (.long q3), .second, .val (.int p4), .val (.int p5), .val (.int t), .val (.int b), .val (.ref a1), .unset, .unset] [(.int (((q3.toUInt64 >>> ((48 : Int32) &&& 0x3f).toInt64.toUInt64).toInt64).toInt32)), (.int (14 : Int32)), (.ref a1)]))
  refine own_go (fun _ kont => XS.i2b X170.here hx rfl (hb hby at_184) rfl kont) ?_
  show own_Go p.tables e below _ (T170.setTop (mkF m 185 #[.val (.long q1), .second, .val (.long q2), .second, .val (.long q3), .second, .val (.int p4), .val (.int p5), .val (.int t), .val (.int b), .val (.ref a1), .unset, .unset] [(.int ((((q3.toUInt64 >>> ((48 : Int32) &&& 0x3f).toInt64.toUInt64).toInt64).toInt32).toInt8.toInt32)), (.int (14 : Int32)), (.ref a1)]))
  refine own_bast X170 hx hZ e170 V174 14 (by decide) (by decide) (by decide) (hb hby at_185) ?_
  intro T175 h175 X175 e175 W175
  have E_a1_176 : Exa Z h175 a1 "[B" := Exa.wr W175 E_a1_171
  have V_a1_177 : own_Av Z h175 a1 cA101 .byte 16 (fun x => if x = 14 then .int (((((q3.toUInt64 >>> ((48 : Int32) &&& 0x3f).toInt64.toUInt64).toInt64).toInt32).toInt8.toInt32).toInt8.toInt32) else (f174) x) := own_Av.set V174 W175 (by decide)
  have N178 := Fr.snoc X175 N173 ge_a1
  have Z178 : n0 ≤ h175.size := by rw [W175.size]; exact Z173
  show own_Go p.tables e below _ (T175.setTop (mkF m 186 #[.val (.long q1), .second, .val (.long q2), .second, .val (.long q3), .second, .val (.int p4), .val (.int p5), .val (.int t), .val (.int b), .val (.ref a1), .unset, .unset] []))
  obtain ⟨f179, V179⟩ : ∃ f, own_Av Z h175 a1 cA101 .byte 16 f := ⟨_, V_a1_177⟩
  refine own_go (fun _ kont => XS.aload X175.here hx rfl (hb hby at_186) rfl rfl kont) ?_
  show own_Go p.tables e below _ (T175.setTop (mkF m 188 #[.val (.long q1), .second, .val (.long q2), .second, .val (.long q3), .second, .val (.int p4), .val (.int p5), .val (.int t), .val (.int b), .val (.ref a1), .unset, .unset] [(.ref a1)]))
  refine own_go (fun _ kont => XS.bipush X175.here hx rfl (hb hby at_188) kont) ?_
  show own_Go p.tables e below _ (T175.setTop (mkF m 190 #[.val (.long q1), .second, .val (.long q2), .second, .val (.long q3), .second, .val (.int p4), .val (.int p5), .val (.int t), .val (.int b), .val (.ref a1), .unset, .unset] [(.int (15 : Int32)), (.ref a1)]))
  refine own_go (fun _ kont => XS.lload X175.here hx rfl (hb hby at_190) rfl kont) ?_
  show own_Go p.tables e below _ (T175.setTop (mkF m 192 #[.val (.long q1), .second, .val (.long q2), .second, .val (.long q3), .second, .val (.int p4), .val (.int p5), .val (.int t), .val (.int b), .val (.ref a1), .unset, .unset] [(.long q3), (.int (15 : Int32)), (.ref a1)]))
  refine own_go (fun _ kont => XS.bipush X175.here hx rfl (hb hby at_192) kont) ?_
  show own_Go p.tables e below _ (T175.setTop (mkF m 194 #[.val (.long q1), .second, .val (.long q2), .second, .val (.long q3), .second, .val (.int p4), .val (.int p5), .val (.int t), .val (.int b), .val (.ref a1), .unset, .unset] [(.int (56 : Int32)), (.long q3), (.int (15 : Int32)), (.ref a1)]))
  refine own_go (fun _ kont => XS.lushr X175.here hx rfl (hb hby at_194) rfl kont) ?_
  show own_Go p.tables e below _ (T175.setTop (mkF m 195 #[.val (.long q1), .second, .val (.long q2), .second, .val (.long q3), .second, .val (.int p4), .val (.int p5), .val (.int t), .val (.int b), .val (.ref a1), .unset, .unset] [(.long ((q3.toUInt64 >>> ((56 : Int32) &&& 0x3f).toInt64.toUInt64).toInt64)), (.int (15 : Int32)), (.ref a1)]))
  refine own_go (fun _ kont => XS.l2i X175.here hx rfl (hb hby at_195) rfl kont) ?_
  show own_Go p.tables e below _ (T175.setTop (mkF m 196 #[.val (.long q1), .second, .val (.long q2), .second, .val (.long q3), .second, .val (.int p4), .val (.int p5), .val (.int t), .val (.int b), .val (.ref a1), .unset, .unset] [(.int (((q3.toUInt64 >>> ((56 : Int32) &&& 0x3f).toInt64.toUInt64).toInt64).toInt32)), (.int (15 : Int32)), (.ref a1)]))
  refine own_go (fun _ kont => XS.i2b X175.here hx rfl (hb hby at_196) rfl kont) ?_
  show own_Go p.tables e below _ (T175.setTop (mkF m 197 #[.val (.long q1), .second, .val (.long q2), .second, .val (.long q3), .second, .val (.int p4), .val (.int p5), .val (.int t), .val (.int b), .val (.ref a1), .unset, .unset] [(.int ((((q3.toUInt64 >>> ((56 : Int32) &&& 0x3f).toInt64.toUInt64).toInt64).toInt32).toInt8.toInt32)), (.int (15 : Int32)), (.ref a1)]))
  refine own_bast X175 hx hZ e175 V179 15 (by decide) (by decide) (by decide) (hb hby at_197) ?_
  intro T180 h180 X180 e180 W180
  have E_a1_181 : Exa Z h180 a1 "[B" := Exa.wr W180 E_a1_176
  have V_a1_182 : own_Av Z h180 a1 cA101 .byte 16 (fun x => if x = 15 then .int (((((q3.toUInt64 >>> ((56 : Int32) &&& 0x3f).toInt64.toUInt64).toInt64).toInt32).toInt8.toInt32).toInt8.toInt32) else (f179) x) := own_Av.set V179 W180 (by decide)
  have N183 := Fr.snoc X180 N178 ge_a1
  have Z183 : n0 ≤ h180.size := by rw [W180.size]; exact Z178
  show own_Go p.tables e below _ (T180.setTop (mkF m 198 #[.val (.long q1), .second, .val (.long q2), .second, .val (.long q3), .second, .val (.int p4), .val (.int p5), .val (.int t), .val (.int b), .val (.ref a1), .unset, .unset] []))
  obtain ⟨f184, V184⟩ : ∃ f, own_Av Z h180 a1 cA101 .byte 16 f := ⟨_, V_a1_182⟩
  refine own_go (fun _ kont => XS.aload X180.here hx rfl (hb hby at_198) rfl rfl kont) ?_
  show own_Go p.tables e below _ (T180.setTop (mkF m 200 #[.val (.long q1), .second, .val (.long q2), .second, .val (.long q3), .second, .val (.int p4), .val (.int p5), .val (.int t), .val (.int b), .val (.ref a1), .unset, .unset] [(.ref a1)]))
  refine own_go (fun _ kont => XS.iload X180.here hx rfl (hb hby at_200) rfl kont) ?_
  show own_Go p.tables e below _ (T180.setTop (mkF m 202 #[.val (.long q1), .second, .val (.long q2), .second, .val (.long q3), .second, .val (.int p4), .val (.int p5), .val (.int t), .val (.int b), .val (.ref a1), .unset, .unset] [(.int t), (.ref a1)]))
  refine own_go (fun _ kont => XS.lloadN X180.here hx rfl (hb hby at_202) rfl kont) ?_
  show own_Go p.tables e below _ (T180.setTop (mkF m 203 #[.val (.long q1), .second, .val (.long q2), .second, .val (.long q3), .second, .val (.int p4), .val (.int p5), .val (.int t), .val (.int b), .val (.ref a1), .unset, .unset] [(.long q1), (.int t), (.ref a1)]))
  refine own_go (fun _ kont => XS.l2i X180.here hx rfl (hb hby at_203) rfl kont) ?_
  show own_Go p.tables e below _ (T180.setTop (mkF m 204 #[.val (.long q1), .second, .val (.long q2), .second, .val (.long q3), .second, .val (.int p4), .val (.int p5), .val (.int t), .val (.int b), .val (.ref a1), .unset, .unset] [(.int (q1.toInt32)), (.int t), (.ref a1)]))
  refine own_go (fun _ kont => XS.i2b X180.here hx rfl (hb hby at_204) rfl kont) ?_
  show own_Go p.tables e below _ (T180.setTop (mkF m 205 #[.val (.long q1), .second, .val (.long q2), .second, .val (.long q3), .second, .val (.int p4), .val (.int p5), .val (.int t), .val (.int b), .val (.ref a1), .unset, .unset] [(.int ((q1.toInt32).toInt8.toInt32)), (.int t), (.ref a1)]))
  refine own_bast X180 hx hZ e180 V184 nt (own_ix t nt tn).1 (own_ix t nt tn).2 (by omega) (hb hby at_205) ?_
  intro T185 h185 X185 e185 W185
  have E_a1_186 : Exa Z h185 a1 "[B" := Exa.wr W185 E_a1_181
  have V_a1_187 : own_Av Z h185 a1 cA101 .byte 16 (fun x => if x = nt then .int (own_by q1.toInt32) else (f184) x) := own_Av.congr (own_Av.set V184 W185 (by omega)) (fun _ _ => rfl)
  have N188 := Fr.snoc X185 N183 ge_a1
  have Z188 : n0 ≤ h185.size := by rw [W185.size]; exact Z183
  show own_Go p.tables e below _ (T185.setTop (mkF m 206 #[.val (.long q1), .second, .val (.long q2), .second, .val (.long q3), .second, .val (.int p4), .val (.int p5), .val (.int t), .val (.int b), .val (.ref a1), .unset, .unset] []))
  refine own_go (fun _ kont => XS.aload X185.here hx rfl (hb hby at_206) rfl rfl kont) ?_
  show own_Go p.tables e below _ (T185.setTop (mkF m 208 #[.val (.long q1), .second, .val (.long q2), .second, .val (.long q3), .second, .val (.int p4), .val (.int p5), .val (.int t), .val (.int b), .val (.ref a1), .unset, .unset] [(.ref a1)]))
  refine own_go (fun _ kont => XS.iload X185.here hx rfl (hb hby at_208) rfl kont) ?_
  show own_Go p.tables e below _ (T185.setTop (mkF m 210 #[.val (.long q1), .second, .val (.long q2), .second, .val (.long q3), .second, .val (.int p4), .val (.int p5), .val (.int t), .val (.int b), .val (.ref a1), .unset, .unset] [(.int t), (.ref a1)]))
  refine own_go (fun _ kont => XS.iconst X185.here hx rfl (hb hby at_210) kont) ?_
  show own_Go p.tables e below _ (T185.setTop (mkF m 211 #[.val (.long q1), .second, .val (.long q2), .second, .val (.long q3), .second, .val (.int p4), .val (.int p5), .val (.int t), .val (.int b), .val (.ref a1), .unset, .unset] [(.int (1 : Int32)), (.int t), (.ref a1)]))
  refine own_go (fun _ kont => XS.iadd X185.here hx rfl (hb hby at_211) rfl kont) ?_
  show own_Go p.tables e below _ (T185.setTop (mkF m 212 #[.val (.long q1), .second, .val (.long q2), .second, .val (.long q3), .second, .val (.int p4), .val (.int p5), .val (.int t), .val (.int b), .val (.ref a1), .unset, .unset] [(.int (t + (1 : Int32))), (.ref a1)]))
  refine own_go (fun _ kont => XS.lloadN X185.here hx rfl (hb hby at_212) rfl kont) ?_
  show own_Go p.tables e below _ (T185.setTop (mkF m 213 #[.val (.long q1), .second, .val (.long q2), .second, .val (.long q3), .second, .val (.int p4), .val (.int p5), .val (.int t), .val (.int b), .val (.ref a1), .unset, .unset] [(.long q1), (.int (t + (1 : Int32))), (.ref a1)]))
  refine own_go (fun _ kont => XS.bipush X185.here hx rfl (hb hby at_213) kont) ?_
  show own_Go p.tables e below _ (T185.setTop (mkF m 215 #[.val (.long q1), .second, .val (.long q2), .second, .val (.long q3), .second, .val (.int p4), .val (.int p5), .val (.int t), .val (.int b), .val (.ref a1), .unset, .unset] [(.int (8 : Int32)), (.long q1), (.int (t + (1 : Int32))), (.ref a1)]))
  refine own_go (fun _ kont => XS.lushr X185.here hx rfl (hb hby at_215) rfl kont) ?_
  show own_Go p.tables e below _ (T185.setTop (mkF m 216 #[.val (.long q1), .second, .val (.long q2), .second, .val (.long q3), .second, .val (.int p4), .val (.int p5), .val (.int t), .val (.int b), .val (.ref a1), .unset, .unset] [(.long ((q1.toUInt64 >>> ((8 : Int32) &&& 0x3f).toInt64.toUInt64).toInt64)), (.int (t + (1 : Int32))), (.ref a1)]))
  refine own_go (fun _ kont => XS.l2i X185.here hx rfl (hb hby at_216) rfl kont) ?_
  show own_Go p.tables e below _ (T185.setTop (mkF m 217 #[.val (.long q1), .second, .val (.long q2), .second, .val (.long q3), .second, .val (.int p4), .val (.int p5), .val (.int t), .val (.int b), .val (.ref a1), .unset, .unset] [(.int (((q1.toUInt64 >>> ((8 : Int32) &&& 0x3f).toInt64.toUInt64).toInt64).toInt32)), (.int (t + (1 : Int32))), (.ref a1)]))
  refine own_go (fun _ kont => XS.i2b X185.here hx rfl (hb hby at_217) rfl kont) ?_
  show own_Go p.tables e below _ (T185.setTop (mkF m 218 #[.val (.long q1), .second, .val (.long q2), .second, .val (.long q3), .second, .val (.int p4), .val (.int p5), .val (.int t), .val (.int b), .val (.ref a1), .unset, .unset] [(.int ((((q1.toUInt64 >>> ((8 : Int32) &&& 0x3f).toInt64.toUInt64).toInt64).toInt32).toInt8.toInt32)), (.int (t + (1 : Int32))), (.ref a1)]))
  refine own_bast X185 hx hZ e185 V_a1_187 (nt + 1) (own_ix (t + 1) (nt + 1) (own_up t 1 nt 1 tn (by decide) (by omega))).1 (own_ix (t + 1) (nt + 1) (own_up t 1 nt 1 tn (by decide) (by omega))).2 (by omega) (hb hby at_218) ?_
  intro T189 h189 X189 e189 W189
  have E_a1_190 : Exa Z h189 a1 "[B" := Exa.wr W189 E_a1_186
  have V_a1_191 : own_Av Z h189 a1 cA101 .byte 16 (fun x => if x = (nt + 1) then .int (own_by (own_us q1 8).toInt32) else (fun x => if x = nt then .int (own_by q1.toInt32) else (f184) x) x) := own_Av.congr (own_Av.set V_a1_187 W189 (by omega)) (fun _ _ => rfl)
  have N192 := Fr.snoc X189 N188 ge_a1
  have Z192 : n0 ≤ h189.size := by rw [W189.size]; exact Z188
  show own_Go p.tables e below _ (T189.setTop (mkF m 219 #[.val (.long q1), .second, .val (.long q2), .second, .val (.long q3), .second, .val (.int p4), .val (.int p5), .val (.int t), .val (.int b), .val (.ref a1), .unset, .unset] []))
  refine own_go (fun _ kont => XS.aload X189.here hx rfl (hb hby at_219) rfl rfl kont) ?_
  show own_Go p.tables e below _ (T189.setTop (mkF m 221 #[.val (.long q1), .second, .val (.long q2), .second, .val (.long q3), .second, .val (.int p4), .val (.int p5), .val (.int t), .val (.int b), .val (.ref a1), .unset, .unset] [(.ref a1)]))
  refine own_go (fun _ kont => XS.iload X189.here hx rfl (hb hby at_221) rfl kont) ?_
  show own_Go p.tables e below _ (T189.setTop (mkF m 223 #[.val (.long q1), .second, .val (.long q2), .second, .val (.long q3), .second, .val (.int p4), .val (.int p5), .val (.int t), .val (.int b), .val (.ref a1), .unset, .unset] [(.int t), (.ref a1)]))
  refine own_go (fun _ kont => XS.iconst X189.here hx rfl (hb hby at_223) kont) ?_
  show own_Go p.tables e below _ (T189.setTop (mkF m 224 #[.val (.long q1), .second, .val (.long q2), .second, .val (.long q3), .second, .val (.int p4), .val (.int p5), .val (.int t), .val (.int b), .val (.ref a1), .unset, .unset] [(.int (2 : Int32)), (.int t), (.ref a1)]))
  refine own_go (fun _ kont => XS.iadd X189.here hx rfl (hb hby at_224) rfl kont) ?_
  show own_Go p.tables e below _ (T189.setTop (mkF m 225 #[.val (.long q1), .second, .val (.long q2), .second, .val (.long q3), .second, .val (.int p4), .val (.int p5), .val (.int t), .val (.int b), .val (.ref a1), .unset, .unset] [(.int (t + (2 : Int32))), (.ref a1)]))
  refine own_go (fun _ kont => XS.lloadN X189.here hx rfl (hb hby at_225) rfl kont) ?_
  show own_Go p.tables e below _ (T189.setTop (mkF m 226 #[.val (.long q1), .second, .val (.long q2), .second, .val (.long q3), .second, .val (.int p4), .val (.int p5), .val (.int t), .val (.int b), .val (.ref a1), .unset, .unset] [(.long q1), (.int (t + (2 : Int32))), (.ref a1)]))
  refine own_go (fun _ kont => XS.bipush X189.here hx rfl (hb hby at_226) kont) ?_
  show own_Go p.tables e below _ (T189.setTop (mkF m 228 #[.val (.long q1), .second, .val (.long q2), .second, .val (.long q3), .second, .val (.int p4), .val (.int p5), .val (.int t), .val (.int b), .val (.ref a1), .unset, .unset] [(.int (16 : Int32)), (.long q1), (.int (t + (2 : Int32))), (.ref a1)]))
  refine own_go (fun _ kont => XS.lushr X189.here hx rfl (hb hby at_228) rfl kont) ?_
  show own_Go p.tables e below _ (T189.setTop (mkF m 229 #[.val (.long q1), .second, .val (.long q2), .second, .val (.long q3), .second, .val (.int p4), .val (.int p5), .val (.int t), .val (.int b), .val (.ref a1), .unset, .unset] [(.long ((q1.toUInt64 >>> ((16 : Int32) &&& 0x3f).toInt64.toUInt64).toInt64)), (.int (t + (2 : Int32))), (.ref a1)]))
  refine own_go (fun _ kont => XS.l2i X189.here hx rfl (hb hby at_229) rfl kont) ?_
  show own_Go p.tables e below _ (T189.setTop (mkF m 230 #[.val (.long q1), .second, .val (.long q2), .second, .val (.long q3), .second, .val (.int p4), .val (.int p5), .val (.int t), .val (.int b), .val (.ref a1), .unset, .unset] [(.int (((q1.toUInt64 >>> ((16 : Int32) &&& 0x3f).toInt64.toUInt64).toInt64).toInt32)), (.int (t + (2 : Int32))), (.ref a1)]))
  refine own_go (fun _ kont => XS.i2b X189.here hx rfl (hb hby at_230) rfl kont) ?_
  show own_Go p.tables e below _ (T189.setTop (mkF m 231 #[.val (.long q1), .second, .val (.long q2), .second, .val (.long q3), .second, .val (.int p4), .val (.int p5), .val (.int t), .val (.int b), .val (.ref a1), .unset, .unset] [(.int ((((q1.toUInt64 >>> ((16 : Int32) &&& 0x3f).toInt64.toUInt64).toInt64).toInt32).toInt8.toInt32)), (.int (t + (2 : Int32))), (.ref a1)]))
  refine own_bast X189 hx hZ e189 V_a1_191 (nt + 2) (own_ix (t + 2) (nt + 2) (own_up t 2 nt 2 tn (by decide) (by omega))).1 (own_ix (t + 2) (nt + 2) (own_up t 2 nt 2 tn (by decide) (by omega))).2 (by omega) (hb hby at_231) ?_
  intro T193 h193 X193 e193 W193
  have E_a1_194 : Exa Z h193 a1 "[B" := Exa.wr W193 E_a1_190
  have V_a1_195 : own_Av Z h193 a1 cA101 .byte 16 (fun x => if x = (nt + 2) then .int (own_by (own_us q1 16).toInt32) else (fun x => if x = (nt + 1) then .int (own_by (own_us q1 8).toInt32) else (fun x => if x = nt then .int (own_by q1.toInt32) else (f184) x) x) x) := own_Av.congr (own_Av.set V_a1_191 W193 (by omega)) (fun _ _ => rfl)
  have N196 := Fr.snoc X193 N192 ge_a1
  have Z196 : n0 ≤ h193.size := by rw [W193.size]; exact Z192
  show own_Go p.tables e below _ (T193.setTop (mkF m 232 #[.val (.long q1), .second, .val (.long q2), .second, .val (.long q3), .second, .val (.int p4), .val (.int p5), .val (.int t), .val (.int b), .val (.ref a1), .unset, .unset] []))
  refine own_go (fun _ kont => XS.aload X193.here hx rfl (hb hby at_232) rfl rfl kont) ?_
  show own_Go p.tables e below _ (T193.setTop (mkF m 234 #[.val (.long q1), .second, .val (.long q2), .second, .val (.long q3), .second, .val (.int p4), .val (.int p5), .val (.int t), .val (.int b), .val (.ref a1), .unset, .unset] [(.ref a1)]))
  refine own_go (fun _ kont => XS.iload X193.here hx rfl (hb hby at_234) rfl kont) ?_
  show own_Go p.tables e below _ (T193.setTop (mkF m 236 #[.val (.long q1), .second, .val (.long q2), .second, .val (.long q3), .second, .val (.int p4), .val (.int p5), .val (.int t), .val (.int b), .val (.ref a1), .unset, .unset] [(.int t), (.ref a1)]))
  refine own_go (fun _ kont => XS.iconst X193.here hx rfl (hb hby at_236) kont) ?_
  show own_Go p.tables e below _ (T193.setTop (mkF m 237 #[.val (.long q1), .second, .val (.long q2), .second, .val (.long q3), .second, .val (.int p4), .val (.int p5), .val (.int t), .val (.int b), .val (.ref a1), .unset, .unset] [(.int (3 : Int32)), (.int t), (.ref a1)]))
  refine own_go (fun _ kont => XS.iadd X193.here hx rfl (hb hby at_237) rfl kont) ?_
  show own_Go p.tables e below _ (T193.setTop (mkF m 238 #[.val (.long q1), .second, .val (.long q2), .second, .val (.long q3), .second, .val (.int p4), .val (.int p5), .val (.int t), .val (.int b), .val (.ref a1), .unset, .unset] [(.int (t + (3 : Int32))), (.ref a1)]))
  refine own_go (fun _ kont => XS.lloadN X193.here hx rfl (hb hby at_238) rfl kont) ?_
  show own_Go p.tables e below _ (T193.setTop (mkF m 239 #[.val (.long q1), .second, .val (.long q2), .second, .val (.long q3), .second, .val (.int p4), .val (.int p5), .val (.int t), .val (.int b), .val (.ref a1), .unset, .unset] [(.long q1), (.int (t + (3 : Int32))), (.ref a1)]))
  refine own_go (fun _ kont => XS.bipush X193.here hx rfl (hb hby at_239) kont) ?_
  show own_Go p.tables e below _ (T193.setTop (mkF m 241 #[.val (.long q1), .second, .val (.long q2), .second, .val (.long q3), .second, .val (.int p4), .val (.int p5), .val (.int t), .val (.int b), .val (.ref a1), .unset, .unset] [(.int (24 : Int32)), (.long q1), (.int (t + (3 : Int32))), (.ref a1)]))
  refine own_go (fun _ kont => XS.lushr X193.here hx rfl (hb hby at_241) rfl kont) ?_
  show own_Go p.tables e below _ (T193.setTop (mkF m 242 #[.val (.long q1), .second, .val (.long q2), .second, .val (.long q3), .second, .val (.int p4), .val (.int p5), .val (.int t), .val (.int b), .val (.ref a1), .unset, .unset] [(.long ((q1.toUInt64 >>> ((24 : Int32) &&& 0x3f).toInt64.toUInt64).toInt64)), (.int (t + (3 : Int32))), (.ref a1)]))
  refine own_go (fun _ kont => XS.l2i X193.here hx rfl (hb hby at_242) rfl kont) ?_
  show own_Go p.tables e below _ (T193.setTop (mkF m 243 #[.val (.long q1), .second, .val (.long q2), .second, .val (.long q3), .second, .val (.int p4), .val (.int p5), .val (.int t), .val (.int b), .val (.ref a1), .unset, .unset] [(.int (((q1.toUInt64 >>> ((24 : Int32) &&& 0x3f).toInt64.toUInt64).toInt64).toInt32)), (.int (t + (3 : Int32))), (.ref a1)]))
  refine own_go (fun _ kont => XS.i2b X193.here hx rfl (hb hby at_243) rfl kont) ?_
  show own_Go p.tables e below _ (T193.setTop (mkF m 244 #[.val (.long q1), .second, .val (.long q2), .second, .val (.long q3), .second, .val (.int p4), .val (.int p5), .val (.int t), .val (.int b), .val (.ref a1), .unset, .unset] [(.int ((((q1.toUInt64 >>> ((24 : Int32) &&& 0x3f).toInt64.toUInt64).toInt64).toInt32).toInt8.toInt32)), (.int (t + (3 : Int32))), (.ref a1)]))
  refine own_bast X193 hx hZ e193 V_a1_195 (nt + 3) (own_ix (t + 3) (nt + 3) (own_up t 3 nt 3 tn (by decide) (by omega))).1 (own_ix (t + 3) (nt + 3) (own_up t 3 nt 3 tn (by decide) (by omega))).2 (by omega) (hb hby at_244) ?_
  intro T197 h197 X197 e197 W197
  have E_a1_198 : Exa Z h197 a1 "[B" := Exa.wr W197 E_a1_194
  have V_a1_199 : own_Av Z h197 a1 cA101 .byte 16 (fun x => if x = (nt + 3) then .int (own_by (own_us q1 24).toInt32) else (fun x => if x = (nt + 2) then .int (own_by (own_us q1 16).toInt32) else (fun x => if x = (nt + 1) then .int (own_by (own_us q1 8).toInt32) else (fun x => if x = nt then .int (own_by q1.toInt32) else (f184) x) x) x) x) := own_Av.congr (own_Av.set V_a1_195 W197 (by omega)) (fun _ _ => rfl)
  have N200 := Fr.snoc X197 N196 ge_a1
  have Z200 : n0 ≤ h197.size := by rw [W197.size]; exact Z196
  show own_Go p.tables e below _ (T197.setTop (mkF m 245 #[.val (.long q1), .second, .val (.long q2), .second, .val (.long q3), .second, .val (.int p4), .val (.int p5), .val (.int t), .val (.int b), .val (.ref a1), .unset, .unset] []))
  refine own_go (fun _ kont => XS.aload X197.here hx rfl (hb hby at_245) rfl rfl kont) ?_
  show own_Go p.tables e below _ (T197.setTop (mkF m 247 #[.val (.long q1), .second, .val (.long q2), .second, .val (.long q3), .second, .val (.int p4), .val (.int p5), .val (.int t), .val (.int b), .val (.ref a1), .unset, .unset] [(.ref a1)]))
  refine own_go (fun _ kont => XS.iload X197.here hx rfl (hb hby at_247) rfl kont) ?_
  show own_Go p.tables e below _ (T197.setTop (mkF m 249 #[.val (.long q1), .second, .val (.long q2), .second, .val (.long q3), .second, .val (.int p4), .val (.int p5), .val (.int t), .val (.int b), .val (.ref a1), .unset, .unset] [(.int t), (.ref a1)]))
  refine own_go (fun _ kont => XS.iconst X197.here hx rfl (hb hby at_249) kont) ?_
  show own_Go p.tables e below _ (T197.setTop (mkF m 250 #[.val (.long q1), .second, .val (.long q2), .second, .val (.long q3), .second, .val (.int p4), .val (.int p5), .val (.int t), .val (.int b), .val (.ref a1), .unset, .unset] [(.int (4 : Int32)), (.int t), (.ref a1)]))
  refine own_go (fun _ kont => XS.iadd X197.here hx rfl (hb hby at_250) rfl kont) ?_
  show own_Go p.tables e below _ (T197.setTop (mkF m 251 #[.val (.long q1), .second, .val (.long q2), .second, .val (.long q3), .second, .val (.int p4), .val (.int p5), .val (.int t), .val (.int b), .val (.ref a1), .unset, .unset] [(.int (t + (4 : Int32))), (.ref a1)]))
  refine own_go (fun _ kont => XS.lloadN X197.here hx rfl (hb hby at_251) rfl kont) ?_
  show own_Go p.tables e below _ (T197.setTop (mkF m 252 #[.val (.long q1), .second, .val (.long q2), .second, .val (.long q3), .second, .val (.int p4), .val (.int p5), .val (.int t), .val (.int b), .val (.ref a1), .unset, .unset] [(.long q1), (.int (t + (4 : Int32))), (.ref a1)]))
  refine own_go (fun _ kont => XS.bipush X197.here hx rfl (hb hby at_252) kont) ?_
  show own_Go p.tables e below _ (T197.setTop (mkF m 254 #[.val (.long q1), .second, .val (.long q2), .second, .val (.long q3), .second, .val (.int p4), .val (.int p5), .val (.int t), .val (.int b), .val (.ref a1), .unset, .unset] [(.int (32 : Int32)), (.long q1), (.int (t + (4 : Int32))), (.ref a1)]))
  refine own_go (fun _ kont => XS.lushr X197.here hx rfl (hb hby at_254) rfl kont) ?_
  show own_Go p.tables e below _ (T197.setTop (mkF m 255 #[.val (.long q1), .second, .val (.long q2), .second, .val (.long q3), .second, .val (.int p4), .val (.int p5), .val (.int t), .val (.int b), .val (.ref a1), .unset, .unset] [(.long ((q1.toUInt64 >>> ((32 : Int32) &&& 0x3f).toInt64.toUInt64).toInt64)), (.int (t + (4 : Int32))), (.ref a1)]))
  refine own_go (fun _ kont => XS.l2i X197.here hx rfl (hb hby at_255) rfl kont) ?_
  show own_Go p.tables e below _ (T197.setTop (mkF m 256 #[.val (.long q1), .second, .val (.long q2), .second, .val (.long q3), .second, .val (.int p4), .val (.int p5), .val (.int t), .val (.int b), .val (.ref a1), .unset, .unset] [(.int (((q1.toUInt64 >>> ((32 : Int32) &&& 0x3f).toInt64.toUInt64).toInt64).toInt32)), (.int (t + (4 : Int32))), (.ref a1)]))
  refine own_go (fun _ kont => XS.i2b X197.here hx rfl (hb hby at_256) rfl kont) ?_
  show own_Go p.tables e below _ (T197.setTop (mkF m 257 #[.val (.long q1), .second, .val (.long q2), .second, .val (.long q3), .second, .val (.int p4), .val (.int p5), .val (.int t), .val (.int b), .val (.ref a1), .unset, .unset] [(.int ((((q1.toUInt64 >>> ((32 : Int32) &&& 0x3f).toInt64.toUInt64).toInt64).toInt32).toInt8.toInt32)), (.int (t + (4 : Int32))), (.ref a1)]))
  refine own_bast X197 hx hZ e197 V_a1_199 (nt + 4) (own_ix (t + 4) (nt + 4) (own_up t 4 nt 4 tn (by decide) (by omega))).1 (own_ix (t + 4) (nt + 4) (own_up t 4 nt 4 tn (by decide) (by omega))).2 (by omega) (hb hby at_257) ?_
  intro T201 h201 X201 e201 W201
  have E_a1_202 : Exa Z h201 a1 "[B" := Exa.wr W201 E_a1_198
  have V_a1_203 : own_Av Z h201 a1 cA101 .byte 16 (fun x => if x = (nt + 4) then .int (own_by (own_us q1 32).toInt32) else (fun x => if x = (nt + 3) then .int (own_by (own_us q1 24).toInt32) else (fun x => if x = (nt + 2) then .int (own_by (own_us q1 16).toInt32) else (fun x => if x = (nt + 1) then .int (own_by (own_us q1 8).toInt32) else (fun x => if x = nt then .int (own_by q1.toInt32) else (f184) x) x) x) x) x) := own_Av.congr (own_Av.set V_a1_199 W201 (by omega)) (fun _ _ => rfl)
  have N204 := Fr.snoc X201 N200 ge_a1
  have Z204 : n0 ≤ h201.size := by rw [W201.size]; exact Z200
  show own_Go p.tables e below _ (T201.setTop (mkF m 258 #[.val (.long q1), .second, .val (.long q2), .second, .val (.long q3), .second, .val (.int p4), .val (.int p5), .val (.int t), .val (.int b), .val (.ref a1), .unset, .unset] []))
  refine own_go (fun _ kont => XS.aload X201.here hx rfl (hb hby at_258) rfl rfl kont) ?_
  show own_Go p.tables e below _ (T201.setTop (mkF m 260 #[.val (.long q1), .second, .val (.long q2), .second, .val (.long q3), .second, .val (.int p4), .val (.int p5), .val (.int t), .val (.int b), .val (.ref a1), .unset, .unset] [(.ref a1)]))
  refine own_go (fun _ kont => XS.iload X201.here hx rfl (hb hby at_260) rfl kont) ?_
  show own_Go p.tables e below _ (T201.setTop (mkF m 262 #[.val (.long q1), .second, .val (.long q2), .second, .val (.long q3), .second, .val (.int p4), .val (.int p5), .val (.int t), .val (.int b), .val (.ref a1), .unset, .unset] [(.int t), (.ref a1)]))
  refine own_go (fun _ kont => XS.iconst X201.here hx rfl (hb hby at_262) kont) ?_
  show own_Go p.tables e below _ (T201.setTop (mkF m 263 #[.val (.long q1), .second, .val (.long q2), .second, .val (.long q3), .second, .val (.int p4), .val (.int p5), .val (.int t), .val (.int b), .val (.ref a1), .unset, .unset] [(.int (5 : Int32)), (.int t), (.ref a1)]))
  refine own_go (fun _ kont => XS.iadd X201.here hx rfl (hb hby at_263) rfl kont) ?_
  show own_Go p.tables e below _ (T201.setTop (mkF m 264 #[.val (.long q1), .second, .val (.long q2), .second, .val (.long q3), .second, .val (.int p4), .val (.int p5), .val (.int t), .val (.int b), .val (.ref a1), .unset, .unset] [(.int (t + (5 : Int32))), (.ref a1)]))
  refine own_go (fun _ kont => XS.lloadN X201.here hx rfl (hb hby at_264) rfl kont) ?_
  show own_Go p.tables e below _ (T201.setTop (mkF m 265 #[.val (.long q1), .second, .val (.long q2), .second, .val (.long q3), .second, .val (.int p4), .val (.int p5), .val (.int t), .val (.int b), .val (.ref a1), .unset, .unset] [(.long q1), (.int (t + (5 : Int32))), (.ref a1)]))
  refine own_go (fun _ kont => XS.bipush X201.here hx rfl (hb hby at_265) kont) ?_
  show own_Go p.tables e below _ (T201.setTop (mkF m 267 #[.val (.long q1), .second, .val (.long q2), .second, .val (.long q3), .second, .val (.int p4), .val (.int p5), .val (.int t), .val (.int b), .val (.ref a1), .unset, .unset] [(.int (40 : Int32)), (.long q1), (.int (t + (5 : Int32))), (.ref a1)]))
  refine own_go (fun _ kont => XS.lushr X201.here hx rfl (hb hby at_267) rfl kont) ?_
  show own_Go p.tables e below _ (T201.setTop (mkF m 268 #[.val (.long q1), .second, .val (.long q2), .second, .val (.long q3), .second, .val (.int p4), .val (.int p5), .val (.int t), .val (.int b), .val (.ref a1), .unset, .unset] [(.long ((q1.toUInt64 >>> ((40 : Int32) &&& 0x3f).toInt64.toUInt64).toInt64)), (.int (t + (5 : Int32))), (.ref a1)]))
  refine own_go (fun _ kont => XS.l2i X201.here hx rfl (hb hby at_268) rfl kont) ?_
  show own_Go p.tables e below _ (T201.setTop (mkF m 269 #[.val (.long q1), .second, .val (.long q2), .second, .val (.long q3), .second, .val (.int p4), .val (.int p5), .val (.int t), .val (.int b), .val (.ref a1), .unset, .unset] [(.int (((q1.toUInt64 >>> ((40 : Int32) &&& 0x3f).toInt64.toUInt64).toInt64).toInt32)), (.int (t + (5 : Int32))), (.ref a1)]))
  refine own_go (fun _ kont => XS.i2b X201.here hx rfl (hb hby at_269) rfl kont) ?_
  show own_Go p.tables e below _ (T201.setTop (mkF m 270 #[.val (.long q1), .second, .val (.long q2), .second, .val (.long q3), .second, .val (.int p4), .val (.int p5), .val (.int t), .val (.int b), .val (.ref a1), .unset, .unset] [(.int ((((q1.toUInt64 >>> ((40 : Int32) &&& 0x3f).toInt64.toUInt64).toInt64).toInt32).toInt8.toInt32)), (.int (t + (5 : Int32))), (.ref a1)]))
  refine own_bast X201 hx hZ e201 V_a1_203 (nt + 5) (own_ix (t + 5) (nt + 5) (own_up t 5 nt 5 tn (by decide) (by omega))).1 (own_ix (t + 5) (nt + 5) (own_up t 5 nt 5 tn (by decide) (by omega))).2 (by omega) (hb hby at_270) ?_
  intro T205 h205 X205 e205 W205
  have E_a1_206 : Exa Z h205 a1 "[B" := Exa.wr W205 E_a1_202
  have V_a1_207 : own_Av Z h205 a1 cA101 .byte 16 (fun x => if x = (nt + 5) then .int (own_by (own_us q1 40).toInt32) else (fun x => if x = (nt + 4) then .int (own_by (own_us q1 32).toInt32) else (fun x => if x = (nt + 3) then .int (own_by (own_us q1 24).toInt32) else (fun x => if x = (nt + 2) then .int (own_by (own_us q1 16).toInt32) else (fun x => if x = (nt + 1) then .int (own_by (own_us q1 8).toInt32) else (fun x => if x = nt then .int (own_by q1.toInt32) else (f184) x) x) x) x) x) x) := own_Av.congr (own_Av.set V_a1_203 W205 (by omega)) (fun _ _ => rfl)
  have N208 := Fr.snoc X205 N204 ge_a1
  have Z208 : n0 ≤ h205.size := by rw [W205.size]; exact Z204
  show own_Go p.tables e below _ (T205.setTop (mkF m 271 #[.val (.long q1), .second, .val (.long q2), .second, .val (.long q3), .second, .val (.int p4), .val (.int p5), .val (.int t), .val (.int b), .val (.ref a1), .unset, .unset] []))
  refine own_go (fun _ kont => XS.aload X205.here hx rfl (hb hby at_271) rfl rfl kont) ?_
  show own_Go p.tables e below _ (T205.setTop (mkF m 273 #[.val (.long q1), .second, .val (.long q2), .second, .val (.long q3), .second, .val (.int p4), .val (.int p5), .val (.int t), .val (.int b), .val (.ref a1), .unset, .unset] [(.ref a1)]))
  refine own_go (fun _ kont => XS.iload X205.here hx rfl (hb hby at_273) rfl kont) ?_
  show own_Go p.tables e below _ (T205.setTop (mkF m 275 #[.val (.long q1), .second, .val (.long q2), .second, .val (.long q3), .second, .val (.int p4), .val (.int p5), .val (.int t), .val (.int b), .val (.ref a1), .unset, .unset] [(.int t), (.ref a1)]))
  refine own_go (fun _ kont => XS.bipush X205.here hx rfl (hb hby at_275) kont) ?_
  show own_Go p.tables e below _ (T205.setTop (mkF m 277 #[.val (.long q1), .second, .val (.long q2), .second, .val (.long q3), .second, .val (.int p4), .val (.int p5), .val (.int t), .val (.int b), .val (.ref a1), .unset, .unset] [(.int (6 : Int32)), (.int t), (.ref a1)]))
  refine own_go (fun _ kont => XS.iadd X205.here hx rfl (hb hby at_277) rfl kont) ?_
  show own_Go p.tables e below _ (T205.setTop (mkF m 278 #[.val (.long q1), .second, .val (.long q2), .second, .val (.long q3), .second, .val (.int p4), .val (.int p5), .val (.int t), .val (.int b), .val (.ref a1), .unset, .unset] [(.int (t + (6 : Int32))), (.ref a1)]))
  refine own_go (fun _ kont => XS.lloadN X205.here hx rfl (hb hby at_278) rfl kont) ?_
  show own_Go p.tables e below _ (T205.setTop (mkF m 279 #[.val (.long q1), .second, .val (.long q2), .second, .val (.long q3), .second, .val (.int p4), .val (.int p5), .val (.int t), .val (.int b), .val (.ref a1), .unset, .unset] [(.long q1), (.int (t + (6 : Int32))), (.ref a1)]))
  refine own_go (fun _ kont => XS.bipush X205.here hx rfl (hb hby at_279) kont) ?_
  show own_Go p.tables e below _ (T205.setTop (mkF m 281 #[.val (.long q1), .second, .val (.long q2), .second, .val (.long q3), .second, .val (.int p4), .val (.int p5), .val (.int t), .val (.int b), .val (.ref a1), .unset, .unset] [(.int (48 : Int32)), (.long q1), (.int (t + (6 : Int32))), (.ref a1)]))
  refine own_go (fun _ kont => XS.lushr X205.here hx rfl (hb hby at_281) rfl kont) ?_
  show own_Go p.tables e below _ (T205.setTop (mkF m 282 #[.val (.long q1), .second, .val (.long q2), .second, .val (.long q3), .second, .val (.int p4), .val (.int p5), .val (.int t), .val (.int b), .val (.ref a1), .unset, .unset] [(.long ((q1.toUInt64 >>> ((48 : Int32) &&& 0x3f).toInt64.toUInt64).toInt64)), (.int (t + (6 : Int32))), (.ref a1)]))
  refine own_go (fun _ kont => XS.l2i X205.here hx rfl (hb hby at_282) rfl kont) ?_
  show own_Go p.tables e below _ (T205.setTop (mkF m 283 #[.val (.long q1), .second, .val (.long q2), .second, .val (.long q3), .second, .val (.int p4), .val (.int p5), .val (.int t), .val (.int b), .val (.ref a1), .unset, .unset] [(.int (((q1.toUInt64 >>> ((48 : Int32) &&& 0x3f).toInt64.toUInt64).toInt64).toInt32)), (.int (t + (6 : Int32))), (.ref a1)]))
  refine own_go (fun _ kont => XS.i2b X205.here hx rfl (hb hby at_283) rfl kont) ?_
  show own_Go p.tables e below _ (T205.setTop (mkF m 284 #[.val (.long q1), .second, .val (.long q2), .second, .val (.long q3), .second, .val (.int p4), .val (.int p5), .val (.int t), .val (.int b), .val (.ref a1), .unset, .unset] [(.int ((((q1.toUInt64 >>> ((48 : Int32) &&& 0x3f).toInt64.toUInt64).toInt64).toInt32).toInt8.toInt32)), (.int (t + (6 : Int32))), (.ref a1)]))
  refine own_bast X205 hx hZ e205 V_a1_207 (nt + 6) (own_ix (t + 6) (nt + 6) (own_up t 6 nt 6 tn (by decide) (by omega))).1 (own_ix (t + 6) (nt + 6) (own_up t 6 nt 6 tn (by decide) (by omega))).2 (by omega) (hb hby at_284) ?_
  intro T209 h209 X209 e209 W209
  have E_a1_210 : Exa Z h209 a1 "[B" := Exa.wr W209 E_a1_206
  have V_a1_211 : own_Av Z h209 a1 cA101 .byte 16 (fun x => if x = (nt + 6) then .int (own_by (own_us q1 48).toInt32) else (fun x => if x = (nt + 5) then .int (own_by (own_us q1 40).toInt32) else (fun x => if x = (nt + 4) then .int (own_by (own_us q1 32).toInt32) else (fun x => if x = (nt + 3) then .int (own_by (own_us q1 24).toInt32) else (fun x => if x = (nt + 2) then .int (own_by (own_us q1 16).toInt32) else (fun x => if x = (nt + 1) then .int (own_by (own_us q1 8).toInt32) else (fun x => if x = nt then .int (own_by q1.toInt32) else (f184) x) x) x) x) x) x) x) := own_Av.congr (own_Av.set V_a1_207 W209 (by omega)) (fun _ _ => rfl)
  have N212 := Fr.snoc X209 N208 ge_a1
  have Z212 : n0 ≤ h209.size := by rw [W209.size]; exact Z208
  show own_Go p.tables e below _ (T209.setTop (mkF m 285 #[.val (.long q1), .second, .val (.long q2), .second, .val (.long q3), .second, .val (.int p4), .val (.int p5), .val (.int t), .val (.int b), .val (.ref a1), .unset, .unset] []))
  refine own_go (fun _ kont => XS.aload X209.here hx rfl (hb hby at_285) rfl rfl kont) ?_
  show own_Go p.tables e below _ (T209.setTop (mkF m 287 #[.val (.long q1), .second, .val (.long q2), .second, .val (.long q3), .second, .val (.int p4), .val (.int p5), .val (.int t), .val (.int b), .val (.ref a1), .unset, .unset] [(.ref a1)]))
  refine own_go (fun _ kont => XS.iload X209.here hx rfl (hb hby at_287) rfl kont) ?_
  show own_Go p.tables e below _ (T209.setTop (mkF m 289 #[.val (.long q1), .second, .val (.long q2), .second, .val (.long q3), .second, .val (.int p4), .val (.int p5), .val (.int t), .val (.int b), .val (.ref a1), .unset, .unset] [(.int t), (.ref a1)]))
  refine own_go (fun _ kont => XS.bipush X209.here hx rfl (hb hby at_289) kont) ?_
  show own_Go p.tables e below _ (T209.setTop (mkF m 291 #[.val (.long q1), .second, .val (.long q2), .second, .val (.long q3), .second, .val (.int p4), .val (.int p5), .val (.int t), .val (.int b), .val (.ref a1), .unset, .unset] [(.int (7 : Int32)), (.int t), (.ref a1)]))
  refine own_go (fun _ kont => XS.iadd X209.here hx rfl (hb hby at_291) rfl kont) ?_
  show own_Go p.tables e below _ (T209.setTop (mkF m 292 #[.val (.long q1), .second, .val (.long q2), .second, .val (.long q3), .second, .val (.int p4), .val (.int p5), .val (.int t), .val (.int b), .val (.ref a1), .unset, .unset] [(.int (t + (7 : Int32))), (.ref a1)]))
  refine own_go (fun _ kont => XS.lloadN X209.here hx rfl (hb hby at_292) rfl kont) ?_
  show own_Go p.tables e below _ (T209.setTop (mkF m 293 #[.val (.long q1), .second, .val (.long q2), .second, .val (.long q3), .second, .val (.int p4), .val (.int p5), .val (.int t), .val (.int b), .val (.ref a1), .unset, .unset] [(.long q1), (.int (t + (7 : Int32))), (.ref a1)]))
  refine own_go (fun _ kont => XS.bipush X209.here hx rfl (hb hby at_293) kont) ?_
  show own_Go p.tables e below _ (T209.setTop (mkF m 295 #[.val (.long q1), .second, .val (.long q2), .second, .val (.long q3), .second, .val (.int p4), .val (.int p5), .val (.int t), .val (.int b), .val (.ref a1), .unset, .unset] [(.int (56 : Int32)), (.long q1), (.int (t + (7 : Int32))), (.ref a1)]))
  refine own_go (fun _ kont => XS.lushr X209.here hx rfl (hb hby at_295) rfl kont) ?_
  show own_Go p.tables e below _ (T209.setTop (mkF m 296 #[.val (.long q1), .second, .val (.long q2), .second, .val (.long q3), .second, .val (.int p4), .val (.int p5), .val (.int t), .val (.int b), .val (.ref a1), .unset, .unset] [(.long ((q1.toUInt64 >>> ((56 : Int32) &&& 0x3f).toInt64.toUInt64).toInt64)), (.int (t + (7 : Int32))), (.ref a1)]))
  refine own_go (fun _ kont => XS.l2i X209.here hx rfl (hb hby at_296) rfl kont) ?_
  show own_Go p.tables e below _ (T209.setTop (mkF m 297 #[.val (.long q1), .second, .val (.long q2), .second, .val (.long q3), .second, .val (.int p4), .val (.int p5), .val (.int t), .val (.int b), .val (.ref a1), .unset, .unset] [(.int (((q1.toUInt64 >>> ((56 : Int32) &&& 0x3f).toInt64.toUInt64).toInt64).toInt32)), (.int (t + (7 : Int32))), (.ref a1)]))
  refine own_go (fun _ kont => XS.i2b X209.here hx rfl (hb hby at_297) rfl kont) ?_
  show own_Go p.tables e below _ (T209.setTop (mkF m 298 #[.val (.long q1), .second, .val (.long q2), .second, .val (.long q3), .second, .val (.int p4), .val (.int p5), .val (.int t), .val (.int b), .val (.ref a1), .unset, .unset] [(.int ((((q1.toUInt64 >>> ((56 : Int32) &&& 0x3f).toInt64.toUInt64).toInt64).toInt32).toInt8.toInt32)), (.int (t + (7 : Int32))), (.ref a1)]))
  refine own_bast X209 hx hZ e209 V_a1_211 (nt + 7) (own_ix (t + 7) (nt + 7) (own_up t 7 nt 7 tn (by decide) (by omega))).1 (own_ix (t + 7) (nt + 7) (own_up t 7 nt 7 tn (by decide) (by omega))).2 (by omega) (hb hby at_298) ?_
  intro T213 h213 X213 e213 W213
  have E_a1_214 : Exa Z h213 a1 "[B" := Exa.wr W213 E_a1_210
  have V_a1_215 : own_Av Z h213 a1 cA101 .byte 16 (fun x => if x = (nt + 7) then .int (own_by (own_us q1 56).toInt32) else (fun x => if x = (nt + 6) then .int (own_by (own_us q1 48).toInt32) else (fun x => if x = (nt + 5) then .int (own_by (own_us q1 40).toInt32) else (fun x => if x = (nt + 4) then .int (own_by (own_us q1 32).toInt32) else (fun x => if x = (nt + 3) then .int (own_by (own_us q1 24).toInt32) else (fun x => if x = (nt + 2) then .int (own_by (own_us q1 16).toInt32) else (fun x => if x = (nt + 1) then .int (own_by (own_us q1 8).toInt32) else (fun x => if x = nt then .int (own_by q1.toInt32) else (f184) x) x) x) x) x) x) x) x) := own_Av.congr (own_Av.set V_a1_211 W213 (by omega)) (fun _ _ => rfl)
  have N216 := Fr.snoc X213 N212 ge_a1
  have Z216 : n0 ≤ h213.size := by rw [W213.size]; exact Z212
  show own_Go p.tables e below _ (T213.setTop (mkF m 299 #[.val (.long q1), .second, .val (.long q2), .second, .val (.long q3), .second, .val (.int p4), .val (.int p5), .val (.int t), .val (.int b), .val (.ref a1), .unset, .unset] []))
  refine own_go (fun _ kont => XS.iload X213.here hx rfl (hb hby at_299) rfl kont) ?_
  show own_Go p.tables e below _ (T213.setTop (mkF m 301 #[.val (.long q1), .second, .val (.long q2), .second, .val (.long q3), .second, .val (.int p4), .val (.int p5), .val (.int t), .val (.int b), .val (.ref a1), .unset, .unset] [(.int b)]))
  refine own_go (fun _ kont => XS.bipush X213.here hx rfl (hb hby at_301) kont) ?_
  show own_Go p.tables e below _ (T213.setTop (mkF m 303 #[.val (.long q1), .second, .val (.long q2), .second, .val (.long q3), .second, .val (.int p4), .val (.int p5), .val (.int t), .val (.int b), .val (.ref a1), .unset, .unset] [(.int (8 : Int32)), (.int b)]))
  have c325 : ∀ (z : Int64) (T217 : State) (Lc217 : List Loc), (hz : own_le (own_vb q1) nb = z) → Stand p l e room_1 s m #[(.long q1), (.long q2), (.long q3), (.int p4), (.int p5)] below meth c T217 Lc217 (1) (16) → Fr n0 Lc217 → T217.heap = h213 → own_Go p.tables e below (own_Fin s below (fun v h L => v = some (.int 1) ∧ Fr n0 L) room_1.cells room_1.slots) (T217.setTop (mkF m 325 #[.val (.long q1), .second, .val (.long q2), .second, .val (.long q3), .second, .val (.int p4), .val (.int p5), .val (.int t), .val (.int b), .val (.ref a1), .val (.long z), .second] [])) := by
    intro z T217 Lc217 hz X217 N217 e217
    refine own_go (fun _ kont => XS.aload X217.here hx rfl (hb hby at_325) rfl rfl kont) ?_
    show own_Go p.tables e below _ (T217.setTop (mkF m 327 #[.val (.long q1), .second, .val (.long q2), .second, .val (.long q3), .second, .val (.int p4), .val (.int p5), .val (.int t), .val (.int b), .val (.ref a1), .val (.long z), .second] [(.ref a1)]))
    refine own_go (fun _ kont => XS.iload X217.here hx rfl (hb hby at_327) rfl kont) ?_
    show own_Go p.tables e below _ (T217.setTop (mkF m 329 #[.val (.long q1), .second, .val (.long q2), .second, .val (.long q3), .second, .val (.int p4), .val (.int p5), .val (.int t), .val (.int b), .val (.ref a1), .val (.long z), .second] [(.int t), (.ref a1)]))
    refine own_go (fun _ kont => XS.iload X217.here hx rfl (hb hby at_329) rfl kont) ?_
    show own_Go p.tables e below _ (T217.setTop (mkF m 331 #[.val (.long q1), .second, .val (.long q2), .second, .val (.long q3), .second, .val (.int p4), .val (.int p5), .val (.int t), .val (.int b), .val (.ref a1), .val (.long z), .second] [(.int b), (.int t), (.ref a1)]))
    have hg : ∀ n, n < 8 → (fun x => if x = (nt + 7) then .int (own_by (own_us q1 56).toInt32) else (fun x => if x = (nt + 6) then .int (own_by (own_us q1 48).toInt32) else (fun x => if x = (nt + 5) then .int (own_by (own_us q1 40).toInt32) else (fun x => if x = (nt + 4) then .int (own_by (own_us q1 32).toInt32) else (fun x => if x = (nt + 3) then .int (own_by (own_us q1 24).toInt32) else (fun x => if x = (nt + 2) then .int (own_by (own_us q1 16).toInt32) else (fun x => if x = (nt + 1) then .int (own_by (own_us q1 8).toInt32) else (fun x => if x = nt then .int (own_by q1.toInt32) else (f184) x) x) x) x) x) x) x) x) (nt + n) = Value.int (own_vb q1 n) := by
      intro n hn
      rcases n with _ | _ | _ | _ | _ | _ | _ | _ | n
      · exact (if_neg (by omega)).trans ((if_neg (by omega)).trans ((if_neg (by omega)).trans ((if_neg (by omega)).trans ((if_neg (by omega)).trans ((if_neg (by omega)).trans ((if_neg (by omega)).trans (if_pos rfl)))))))
      · exact (if_neg (by omega)).trans ((if_neg (by omega)).trans ((if_neg (by omega)).trans ((if_neg (by omega)).trans ((if_neg (by omega)).trans ((if_neg (by omega)).trans (if_pos rfl))))))
      · exact (if_neg (by omega)).trans ((if_neg (by omega)).trans ((if_neg (by omega)).trans ((if_neg (by omega)).trans ((if_neg (by omega)).trans (if_pos rfl)))))
      · exact (if_neg (by omega)).trans ((if_neg (by omega)).trans ((if_neg (by omega)).trans ((if_neg (by omega)).trans (if_pos rfl))))
      · exact (if_neg (by omega)).trans ((if_neg (by omega)).trans ((if_neg (by omega)).trans (if_pos rfl)))
      · exact (if_neg (by omega)).trans ((if_neg (by omega)).trans (if_pos rfl))
      · exact (if_neg (by omega)).trans (if_pos rfl)
      · exact if_pos rfl
      · omega
    refine own_callS X217 hx hZ (y := (⟨"com/example/sediment/sediment/CodecBytes", "littleEndian", "([BII)J"⟩ : MethodName)) (argsL := [(.ref a1), (.int t), (.int b)]) (rest := []) (W := 0) hown (hw _ (List.mem_of_getElem? (i := 2) rfl)) (hw _ (List.mem_of_getElem? (i := 3) rfl)) (hw _ (List.mem_of_getElem? (i := 4) rfl)) (hw _ (List.mem_of_getElem? (i := 5) rfl)) (by decide) (own_rm1 l Z a0 hw a1 t b h213 n0 Z216 _ _ (own_vb q1) nt nb V_a1_215 tn bn b8 t8 (fun n hn => hg n (by omega))) e217 (by decide) (by decide) (by decide) (by decide) (by rw [hml]; rfl) (lenOf own_pd___BII_J rfl) rfl (Nat.le_of_eq rfl) (hb hby at_331) ?_
    rintro _ T218 L218 X218 ⟨rfl, N218, e218⟩
    have NA218 := Fr.app N217 N218
    show own_Go p.tables e below _ (T218.setTop (mkF m 334 #[.val (.long q1), .second, .val (.long q2), .second, .val (.long q3), .second, .val (.int p4), .val (.int p5), .val (.int t), .val (.int b), .val (.ref a1), .val (.long z), .second] [(.long (own_le (own_vb q1) nb))]))
    refine own_go (fun _ kont => XS.lload X218.here hx rfl (hb hby at_334) rfl kont) ?_
    show own_Go p.tables e below _ (T218.setTop (mkF m 336 #[.val (.long q1), .second, .val (.long q2), .second, .val (.long q3), .second, .val (.int p4), .val (.int p5), .val (.int t), .val (.int b), .val (.ref a1), .val (.long z), .second] [(.long z), (.long (own_le (own_vb q1) nb))]))
    refine own_go (fun _ kont => XS.lcmp X218.here hx rfl (hb hby at_336) rfl kont) ?_
    show own_Go p.tables e below _ (T218.setTop (mkF m 337 #[.val (.long q1), .second, .val (.long q2), .second, .val (.long q3), .second, .val (.int p4), .val (.int p5), .val (.int t), .val (.int b), .val (.ref a1), .val (.long z), .second] [(.int (lcmpW (own_le (own_vb q1) nb) z))]))
    refine own_go (fun _ kont => XS.ifNo X218.here hx rfl (hb hby at_337) rfl (XT.i0_ne_f ((lw_eq _ _).mpr hz)) kont) ?_
    show own_Go p.tables e below _ (T218.setTop (mkF m 340 #[.val (.long q1), .second, .val (.long q2), .second, .val (.long q3), .second, .val (.int p4), .val (.int p5), .val (.int t), .val (.int b), .val (.ref a1), .val (.long z), .second] []))
    refine own_go (fun _ kont => XS.iconst X218.here hx rfl (hb hby at_340) kont) ?_
    show own_Go p.tables e below _ (T218.setTop (mkF m 341 #[.val (.long q1), .second, .val (.long q2), .second, .val (.long q3), .second, .val (.int p4), .val (.int p5), .val (.int t), .val (.int b), .val (.ref a1), .val (.long z), .second] [(.int (1 : Int32))]))
    refine own_go (fun _ kont => XS.goto X218.here hx rfl (pc0 := 341) (pc' := 345) rfl (hb hby at_341) (by decide) (by decide) kont) ?_
    show own_Go p.tables e below _ (T218.setTop (mkF m 345 #[.val (.long q1), .second, .val (.long q2), .second, .val (.long q3), .second, .val (.int p4), .val (.int p5), .val (.int t), .val (.int b), .val (.ref a1), .val (.long z), .second] [(.int (1 : Int32))]))
    exact own_retI X218 hx hlk hret (by simp) rfl (hb hby at_345) (⟨rfl, NA218⟩) (by decide) (by decide)
  by_cases d : b = (8 : Int32)
  · skip
    refine own_go (fun _ kont => XS.icmpNo X213.here hx rfl (hb hby at_303) rfl (XT.ii_ne_f (d)) kont) ?_
    show own_Go p.tables e below _ (T213.setTop (mkF m 306 #[.val (.long q1), .second, .val (.long q2), .second, .val (.long q3), .second, .val (.int p4), .val (.int p5), .val (.int t), .val (.int b), .val (.ref a1), .unset, .unset] []))
    refine own_go (fun _ kont => XS.lloadN X213.here hx rfl (hb hby at_306) rfl kont) ?_
    show own_Go p.tables e below _ (T213.setTop (mkF m 307 #[.val (.long q1), .second, .val (.long q2), .second, .val (.long q3), .second, .val (.int p4), .val (.int p5), .val (.int t), .val (.int b), .val (.ref a1), .unset, .unset] [(.long q1)]))
    refine own_go (fun _ kont => XS.lstore X213.here hx rfl (hb hby at_307) rfl (l' := #[.val (.long q1), .second, .val (.long q2), .second, .val (.long q3), .second, .val (.int p4), .val (.int p5), .val (.int t), .val (.int b), .val (.ref a1), .val (.long q1), .second]) rfl kont) ?_
    show own_Go p.tables e below _ (T213.setTop (mkF m 309 #[.val (.long q1), .second, .val (.long q2), .second, .val (.long q3), .second, .val (.int p4), .val (.int p5), .val (.int t), .val (.int b), .val (.ref a1), .val (.long q1), .second] []))
    refine own_go (fun _ kont => XS.goto X213.here hx rfl (pc0 := 309) (pc' := 325) rfl (hb hby at_309) (by decide) (by decide) kont) ?_
    show own_Go p.tables e below _ (T213.setTop (mkF m 325 #[.val (.long q1), .second, .val (.long q2), .second, .val (.long q3), .second, .val (.int p4), .val (.int p5), .val (.int t), .val (.int b), .val (.ref a1), .val (.long q1), .second] []))
    exact c325 _ _ _ (own_fin8 q1 b nb bn d) X213 N216 e213
  · skip
    refine own_go (fun _ kont => XS.icmpYes X213.here hx rfl (pc0 := 303) (pc' := 312) rfl (hb hby at_303) rfl (XT.ii_ne_t (d)) (by decide) (by decide) kont) ?_
    show own_Go p.tables e below _ (T213.setTop (mkF m 312 #[.val (.long q1), .second, .val (.long q2), .second, .val (.long q3), .second, .val (.int p4), .val (.int p5), .val (.int t), .val (.int b), .val (.ref a1), .unset, .unset] []))
    refine own_go (fun _ kont => XS.lloadN X213.here hx rfl (hb hby at_312) rfl kont) ?_
    show own_Go p.tables e below _ (T213.setTop (mkF m 313 #[.val (.long q1), .second, .val (.long q2), .second, .val (.long q3), .second, .val (.int p4), .val (.int p5), .val (.int t), .val (.int b), .val (.ref a1), .unset, .unset] [(.long q1)]))
    refine own_go (fun _ kont => XS.lconst X213.here hx rfl (hb hby at_313) kont) ?_
    show own_Go p.tables e below _ (T213.setTop (mkF m 314 #[.val (.long q1), .second, .val (.long q2), .second, .val (.long q3), .second, .val (.int p4), .val (.int p5), .val (.int t), .val (.int b), .val (.ref a1), .unset, .unset] [(.long (1 : Int64)), (.long q1)]))
    refine own_go (fun _ kont => XS.bipush X213.here hx rfl (hb hby at_314) kont) ?_
    show own_Go p.tables e below _ (T213.setTop (mkF m 316 #[.val (.long q1), .second, .val (.long q2), .second, .val (.long q3), .second, .val (.int p4), .val (.int p5), .val (.int t), .val (.int b), .val (.ref a1), .unset, .unset] [(.int (8 : Int32)), (.long (1 : Int64)), (.long q1)]))
    refine own_go (fun _ kont => XS.iload X213.here hx rfl (hb hby at_316) rfl kont) ?_
    show own_Go p.tables e below _ (T213.setTop (mkF m 318 #[.val (.long q1), .second, .val (.long q2), .second, .val (.long q3), .second, .val (.int p4), .val (.int p5), .val (.int t), .val (.int b), .val (.ref a1), .unset, .unset] [(.int b), (.int (8 : Int32)), (.long (1 : Int64)), (.long q1)]))
    refine own_go (fun _ kont => XS.imul X213.here hx rfl (hb hby at_318) rfl kont) ?_
    show own_Go p.tables e below _ (T213.setTop (mkF m 319 #[.val (.long q1), .second, .val (.long q2), .second, .val (.long q3), .second, .val (.int p4), .val (.int p5), .val (.int t), .val (.int b), .val (.ref a1), .unset, .unset] [(.int ((8 : Int32) * b)), (.long (1 : Int64)), (.long q1)]))
    refine own_go (fun _ kont => XS.lshl X213.here hx rfl (hb hby at_319) rfl kont) ?_
    show own_Go p.tables e below _ (T213.setTop (mkF m 320 #[.val (.long q1), .second, .val (.long q2), .second, .val (.long q3), .second, .val (.int p4), .val (.int p5), .val (.int t), .val (.int b), .val (.ref a1), .unset, .unset] [(.long ((1 : Int64) <<< (((8 : Int32) * b) &&& 0x3f).toInt64)), (.long q1)]))
    refine own_go (fun _ kont => XS.lconst X213.here hx rfl (hb hby at_320) kont) ?_
    show own_Go p.tables e below _ (T213.setTop (mkF m 321 #[.val (.long q1), .second, .val (.long q2), .second, .val (.long q3), .second, .val (.int p4), .val (.int p5), .val (.int t), .val (.int b), .val (.ref a1), .unset, .unset] [(.long (1 : Int64)), (.long ((1 : Int64) <<< (((8 : Int32) * b) &&& 0x3f).toInt64)), (.long q1)]))
    refine own_go (fun _ kont => XS.lsub X213.here hx rfl (hb hby at_321) rfl kont) ?_
    show own_Go p.tables e below _ (T213.setTop (mkF m 322 #[.val (.long q1), .second, .val (.long q2), .second, .val (.long q3), .second, .val (.int p4), .val (.int p5), .val (.int t), .val (.int b), .val (.ref a1), .unset, .unset] [(.long (((1 : Int64) <<< (((8 : Int32) * b) &&& 0x3f).toInt64) - (1 : Int64))), (.long q1)]))
    refine own_go (fun _ kont => XS.land X213.here hx rfl (hb hby at_322) rfl kont) ?_
    show own_Go p.tables e below _ (T213.setTop (mkF m 323 #[.val (.long q1), .second, .val (.long q2), .second, .val (.long q3), .second, .val (.int p4), .val (.int p5), .val (.int t), .val (.int b), .val (.ref a1), .unset, .unset] [(.long (q1 &&& (((1 : Int64) <<< (((8 : Int32) * b) &&& 0x3f).toInt64) - (1 : Int64))))]))
    refine own_go (fun _ kont => XS.lstore X213.here hx rfl (hb hby at_323) rfl (l' := #[.val (.long q1), .second, .val (.long q2), .second, .val (.long q3), .second, .val (.int p4), .val (.int p5), .val (.int t), .val (.int b), .val (.ref a1), .val (.long (q1 &&& (((1 : Int64) <<< (((8 : Int32) * b) &&& 0x3f).toInt64) - (1 : Int64)))), .second]) rfl kont) ?_
    show own_Go p.tables e below _ (T213.setTop (mkF m 325 #[.val (.long q1), .second, .val (.long q2), .second, .val (.long q3), .second, .val (.int p4), .val (.int p5), .val (.int t), .val (.int b), .val (.ref a1), .val (.long (q1 &&& (((1 : Int64) <<< (((8 : Int32) * b) &&& 0x3f).toInt64) - (1 : Int64)))), .second] []))
    exact c325 _ _ _ (own_fin q1 b nb bn b8 d) X213 N216 e213
set_option maxRecDepth 65536 in
set_option maxHeartbeats 40000000 in
theorem own_comes {Post : Tables → Env → Array Value → State → Outcome → State → Prop} (hpost : ∀ tb e args s v u, (limb_1_1.after args s (.returned v) u = true ∧ limb_1_2.after args s (.returned v) u = true) → FrameEnd s (.returned v) u (Jvm.fieldLocs frame_1_writes args s ++ Jvm.arrayLocs frame_1_arrays args s ++ Jvm.staticLocs frame_1_statics s) 16 128 → Post tb e args s (.returned v) u) :
    ArmFor flags0 classFile x code maxLocals ret World_1 tables_1 room_1 Calls_1 rest_1 Pre_1 Post := by
  intro l hfl _ _ p e ha hc hk s m args below hf hA hF happ hP
  obtain ⟨hcalls, hrest, hpre⟩ := hP
  obtain ⟨-, -, -, hnamed, -, -, -, hat⟩ := (Spec.applies_iff hf).mp happ
  obtain ⟨hg, hn⟩ := and_e (Cond.before_iff.mp (show (Jvm.Cond.and given_1 narrow_1).before args s = true from hpre))
  obtain ⟨g0, g1⟩ := and_e hg
  obtain ⟨i0, g2⟩ := and_e g1
  obtain ⟨i1, g3⟩ := and_e g2
  obtain ⟨i2, g4⟩ := and_e g3
  obtain ⟨i3, g5⟩ := and_e g4
  have i4 := g5
  obtain ⟨w0, w1, w2, w3, w4, rfl⟩ : ∃ w0 w1 w2 w3 w4 : Value, args = #[w0, w1, w2, w3, w4] := by
    have hs : args.size = 5 := by simpa [Cond.value, given_1] using g0
    obtain ⟨L⟩ := args
    match L, hs with
    | [w0, w1, w2, w3, w4], _ => exact ⟨w0, w1, w2, w3, w4, rfl⟩
  have hw := fun d (hd : d ∈ tables_1) => atoms_spec (ws := Jvm.Cond.code x code maxLocals ret :: tables_1) hat d (List.mem_cons_of_mem _ hd)
  have hfit : Fit s := fun {y c} hc i hi => by
    obtain ⟨ha, rfl⟩ := Array.getElem?_eq_some_iff.mp hc
    have q := List.all_eq_true.mp ((Array.all_eq_true_iff_forall_mem.mp hF) _ (Array.getElem_mem ha)) i (List.mem_range.mpr hi)
    simpa [Array.getElem?_eq_getElem hi] using q
  obtain ⟨z0, ez0⟩ := isL_v i0
  obtain rfl : w0 = (.long z0) := Option.some.inj ez0
  obtain ⟨z1, ez1⟩ := isL_v i1
  obtain rfl : w1 = (.long z1) := Option.some.inj ez1
  obtain ⟨z2, ez2⟩ := isL_v i2
  obtain rfl : w2 = (.long z2) := Option.some.inj ez2
  obtain ⟨z3, ez3⟩ := is_v i3
  obtain rfl : w3 = (.int z3) := Option.some.inj ez3
  obtain ⟨z4, ez4⟩ := is_v i4
  obtain rfl : w4 = (.int z4) := Option.some.inj ez4
  obtain ⟨n, o, h1, h2, h3, _, L, rfl, ⟨rfl, N⟩, hq⟩ := own_rm0 l s _ hw tables_1 z0 z1 z2 z3 z4 s.heap s.heap.size (Nat.le_refl _) p e ha hc hk s m _ below hf ((Spec.applies_iff_loose hf).mp happ).1 ⟨rfl, State.Warmed39.refl s, rfl⟩ trivial
  refine ⟨n, _, h1, h2, h3, hpost _ _ _ _ _ _ ⟨Cond.after_iff.mpr rfl, Cond.after_iff.mpr (eq_i res_at (Term.int_eval (1)) rfl)⟩ ⟨hq.1, hq.2.1, (hq.2.2.sift fun y hy => Or.inr (N y hy)).mono (by decide) (by decide)⟩⟩
theorem main_1_1 : Claimed_1_1 := own_comes fun _ _ _ _ _ _ h hF => ⟨h.1, hF⟩
theorem main_1_2 : Claimed_1_2 := own_comes fun _ _ _ _ _ _ h hF => ⟨h.2, hF⟩
end Jvm.Pilot.@@N@@
namespace Jvm.Pilot.@@N@@
open Jvm Jvm.ClassFile Sem Op Lib Jvm.Free Jvm.Stand Jvm.Pilot.@@N@@.Jvm.D
/-! MADE BY PROGRAM (witnessworld.py) out of the Statement's table words and the real class files: 9 classes; the members and pool entries that the words name. The judged class is class 1, her method 1. -/
namespace start1
open Jvm.ClassFile
def u (s : String) : CpInfo := .utf8 (stringToUtf16 s)
/-- a pool by its gaps: so many unusable entries, then the entry; so many at the end -/
def gap : Nat → List CpInfo → List CpInfo
  | 0, r => r
  | n + 1, r => .unusable :: gap n r
def poolList (es : List (Nat × CpInfo)) (last : Nat) : List CpInfo := es.foldr (fun e r => gap e.1 (e.2 :: r)) (gap last [])
def pool (es : List (Nat × CpInfo)) (last : Nat) : Array CpInfo := ⟨poolList es last⟩
def fileOf (pool : Array CpInfo) (this : Nat) (attrs : Array Attribute := #[]) (ms : Array MethodInfo := #[]) (fl : Nat := 33) (sup : Nat := 0) (ifs : Array Nat := #[]) (fds : Array FieldInfo := #[]) : ClassFile where
  minorVersion := 0
  majorVersion := 65
  constantPool := pool
  accessFlags := fl
  thisClass := this
  superClass := sup
  interfaces := ifs
  fields := fds
  methods := ms
  attributes := attrs
def plain (name : String) (sup : Option ClassId) : Class where
  name := name
  kind := .ordinary
  loader := none
  accessFlags := 33
  super := sup
  interfaces := #[]
  cf := none
  fields := #[]
  methods := #[]
  instanceTypes := #[]
  staticTypes := #[]
  resolved := #[]
  callSites := []
  init := .initialized
  statics := none
  mirror := none

def pool0 : Array CpInfo := pool [(5, u "<init>"), (0, u "()V"), (1, .class_ 10), (1, u "java/lang/Object")] 113

def k0m0 : Method := { name := "<init>", desc := "()V", sig := { parameters := [], returnType := none }, accessFlags := 1, code := none }
/-- java/lang/Object -/
def k0 : Class := { plain "java/lang/Object" none with
  accessFlags := 33
  interfaces := #[]
  cf := some (fileOf pool0 8 #[] #[{ accessFlags := 1, nameIndex := 5, descriptorIndex := 6, attributes := #[] }] 33 0 #[] #[])
  fields := #[]
  methods := #[k0m0]
  instanceTypes := #[]
  staticTypes := #[]
  resolved := Array.replicate 124 none
  statics := none }

def pool1 : Array CpInfo := pool [(2, .class_ 4), (1, u "java/lang/Object"), (0, u "<init>"), (0, u "()V"), (0, .integer 2147483647), (0, .methodref 9 10), (0, .class_ 11), (0, .nameAndType 12 13), (0, u "com/example/sediment/sediment/CodecBytes"), (0, u "littleEndian"), (0, u "([BII)J"), (0, .class_ 15), (0, u "com/example/sediment/sediment/CodecBytesLittleEndianPinLaw"), (2, u "law"), (0, u "(JJJII)Z")] 5

def k1m0 : Method := { name := "<init>", desc := "()V", sig := { parameters := [], returnType := none }, accessFlags := 1, code := none }
def k1c1 : Code := { maxStack := 6, maxLocals := 13, code := code, exceptionTable := #[], attributes := #[] }
def k1m1 : Method := { name := "law", desc := "(JJJII)Z", sig := { parameters := [.long, .long, .long, .int, .int], returnType := some .boolean }, accessFlags := 9, code := some k1c1 }
/-- com/example/sediment/sediment/CodecBytesLittleEndianPinLaw -/
def k1 : Class := { plain "com/example/sediment/sediment/CodecBytesLittleEndianPinLaw" (some 0) with
  accessFlags := 49
  interfaces := #[]
  cf := some (fileOf pool1 14 #[] #[{ accessFlags := 1, nameIndex := 5, descriptorIndex := 6, attributes := #[] }, { accessFlags := 9, nameIndex := 18, descriptorIndex := 19, attributes := #[] }] 49 2 #[] #[])
  fields := #[]
  methods := #[k1m0, k1m1]
  instanceTypes := #[]
  staticTypes := #[]
  resolved := Array.replicate 25 none
  statics := none }

def pool2 : Array CpInfo := pool [(2, .class_ 4), (1, u "java/lang/Object"), (0, u "<init>"), (0, u "()V"), (0, .long 255), (9, .class_ 18), (0, u "com/example/sediment/sediment/CodecBytes"), (15, u "SHORT_COPY"), (0, u "I"), (4, u "littleEndian"), (0, u "([BII)J")] 22

def k2m0 : Method := { name := "<init>", desc := "()V", sig := { parameters := [], returnType := none }, accessFlags := 2, code := none }
def k2c1 : Code := { maxStack := 6, maxLocals := 6, code := prog_8_method_2_code, exceptionTable := #[], attributes := #[] }
def k2m1 : Method := { name := "littleEndian", desc := "([BII)J", sig := { parameters := [(.array .byte), .int, .int], returnType := some .long }, accessFlags := 8, code := some k2c1 }
/-- com/example/sediment/sediment/CodecBytes -/
def k2 : Class := { plain "com/example/sediment/sediment/CodecBytes" (some 0) with
  accessFlags := 48
  interfaces := #[]
  cf := some (fileOf pool2 17 #[] #[{ accessFlags := 2, nameIndex := 5, descriptorIndex := 6, attributes := #[] }, { accessFlags := 8, nameIndex := 40, descriptorIndex := 41, attributes := #[] }] 48 2 #[] #[{ accessFlags := 26, nameIndex := 34, descriptorIndex := 35, attributes := #[] }])
  fields := #[{ name := "SHORT_COPY", type := .int, accessFlags := 26, slot := 0, constantValue := 0 }]
  methods := #[k2m0, k2m1]
  instanceTypes := #[]
  staticTypes := #[.int]
  resolved := Array.replicate 64 none
  statics := none }

def pool3 : Array CpInfo := pool [(1, u "java/lang/Cloneable"), (0, .class_ 1), (0, u "java/lang/Object"), (0, .class_ 3)] 3

/-- java/lang/Cloneable -/
def k3 : Class := { plain "java/lang/Cloneable" (some 0) with
  accessFlags := 1537
  interfaces := #[]
  cf := some (fileOf pool3 2 #[] #[] 1537 4 #[] #[])
  fields := #[]
  methods := #[]
  instanceTypes := #[]
  staticTypes := #[]
  resolved := Array.replicate 8 none
  statics := none }

def pool4 : Array CpInfo := pool [(1, u "java/io/Serializable"), (0, .class_ 1), (0, u "java/lang/Object"), (0, .class_ 3)] 3

/-- java/io/Serializable -/
def k4 : Class := { plain "java/io/Serializable" (some 0) with
  accessFlags := 1537
  interfaces := #[]
  cf := some (fileOf pool4 2 #[] #[] 1537 4 #[] #[])
  fields := #[]
  methods := #[]
  instanceTypes := #[]
  staticTypes := #[]
  resolved := Array.replicate 8 none
  statics := none }

/-- the primitive byte -/
def k5 : Class := { plain "byte" none with kind := .primitive 'B', accessFlags := 0x411 }
/-- [B -/
def k6 : Class := { plain "[B" (some 0) with kind := .array 5 .byte, interfaces := #[3, 4], accessFlags := 1041 }

/-- the primitive int -/
def k7 : Class := { plain "int" none with kind := .primitive 'I', accessFlags := 0x411 }
/-- [I -/
def k8 : Class := { plain "[I" (some 0) with kind := .array 7 .int, interfaces := #[3, 4], accessFlags := 1041 }

def heap : Heap := #[]
def classes : Array Class := #[k0, k1, k2, k3, k4, k5, k6, k7, k8]
def interned : List (Array UInt16 × Addr) := []
def slotsUsed : Nat := 0
def theMethod : MethodId := ⟨1, 1⟩
def args0 : Array Value := #[.long 5, .long 300, .long 7, .int 8, .int 9]
def aboutOver (below : List Frame) : State where
  vm := { classes := classes, interned := interned.toArray }
  heap := heap
  slotsUsed := slotsUsed
  threads := #[{ frames := .invoking theMethod args0 :: below }]
def below0 : List Frame := [.native { method := ⟨0, 0⟩, args := #[] }]
def about1 : State := aboutOver below0
def p0 : Program := .bare "" "" ""
def e0 : Env := launch0.env 0 0 0
theorem w_frames : about1.frames = Frame.invoking theMethod args0 :: below0 := rfl
set_option maxRecDepth 65536 in
theorem w_args : argsFit about1.vm theMethod args0 = true := by decide +kernel
set_option maxRecDepth 65536 in
theorem w_heap : heapFits about1 = true := by decide +kernel
set_option maxRecDepth 65536 in
theorem w_runnable : about1.curStatus? = some .runnable := by decide +kernel
set_option maxRecDepth 65536 in
theorem w_alone : about1.alone = true := by decide +kernel
set_option maxRecDepth 65536 in
theorem w_named : about1.methodNamed? x = some theMethod := by decide +kernel
set_option maxRecDepth 65536 in
theorem w_hears : about1.hears theMethod below0 = true := by decide +kernel
set_option maxRecDepth 65536 in
theorem w_ripe : about1.ripe theMethod args0 below0 = true := by decide +kernel
theorem w_running : about1.status = .running := rfl
set_option maxRecDepth 65536 in
theorem w_room : about1.hasRoom e0.platform room_1 = true :=
  launch0.hasRoom_least _ room_1 (by decide +kernel) (by decide +kernel) (by decide +kernel) (by decide +kernel) (by decide +kernel) (by decide +kernel)
theorem allAtoms_all (ts : List Jvm.Cond) (a : Array Jvm.Value) (st : Jvm.State) : (allAtoms ts).before a st = ts.all (fun c => c.before a st) := by
  induction ts with
  | nil => rfl
  | cons c t ih =>
    show (Jvm.Cond.and c (allAtoms t)).before a st = _
    rw [Jvm.Cond.before_and, ih, List.all_cons]
def words1 : List Jvm.Cond := Jvm.Cond.code x code maxLocals ret :: tables_1
/-- a 'code' word, met by the world's own term for the bytes: nothing is compared byte by byte -/
theorem code_word {y : MethodName} {bytes : ByteArray} {mx : Nat} {rt : Option FieldType} {a : Array Value} {s : State} {m : MethodId} {meth : Method} {c : Code} (h1 : s.methodNamed? y = some m) (h2 : s.vm.method? m = some meth) (h3 : meth.code = some c) (h4 : c.code = bytes)
    (h5 : (c.maxLocals == mx && c.exceptionTable.isEmpty && decide (c.maxStack ≤ mostOperands) && decide (meth.sig.returnType = rt) && !meth.locks && decide (parseMethodDescriptor y.desc = some meth.sig)) = true) : (Jvm.Cond.code y bytes mx rt).before a s = true := by
  simp only [Bool.and_eq_true, beq_iff_eq, Bool.not_eq_true', decide_eq_true_eq] at h5
  obtain ⟨⟨⟨⟨⟨g1, g2⟩, g3⟩, g4⟩, g5⟩, g6⟩ := h5
  simp [Cond.before, Cond.holds, Cond.value, h1, h2, h3, h4, g1, g2, g3, g4, g5, g6]
def isCode : Jvm.Cond → Bool
  | .code _ _ _ _ => true
  | _ => false
theorem all_split {L : List Jvm.Cond} {P : Jvm.Cond → Bool} (h1 : L.all (fun c => isCode c || P c) = true) (h2 : ∀ c ∈ L.filter isCode, P c = true) : L.all P = true := by
  refine List.all_eq_true.mpr fun c hc => ?_
  have h := List.all_eq_true.mp h1 c hc
  rcases Bool.eq_false_or_eq_true (isCode c) with hi | hi
  · exact h2 c (List.mem_filter.mpr ⟨hc, hi⟩)
  · simpa [hi] using h
set_option maxRecDepth 65536 in
theorem w_c0 : (Jvm.Cond.code x code maxLocals ret).before args0 about1 = true := code_word (m := ⟨1, 1⟩) (meth := k1m1) (c := k1c1) (by decide +kernel) rfl rfl rfl (by decide +kernel)
set_option maxRecDepth 65536 in
theorem w_c1 : (Jvm.Cond.code ({ cls := "com/example/sediment/sediment/CodecBytes", name := "littleEndian", desc := "([BII)J" } : Jvm.MethodName) prog_8_method_2_code (6 : Nat) (Option.some Jvm.ClassFile.FieldType.long)).before args0 about1 = true := code_word (m := ⟨2, 1⟩) (meth := k2m1) (c := k2c1) (by decide +kernel) rfl rfl rfl (by decide +kernel)
def codes1 : List Jvm.Cond := [Jvm.Cond.code x code maxLocals ret, Jvm.Cond.code ({ cls := "com/example/sediment/sediment/CodecBytes", name := "littleEndian", desc := "([BII)J" } : Jvm.MethodName) prog_8_method_2_code (6 : Nat) (Option.some Jvm.ClassFile.FieldType.long)]
set_option maxRecDepth 65536 in
theorem codes_eq : words1.filter isCode = codes1 := rfl
theorem w_codes : ∀ c ∈ words1.filter isCode, c.before args0 about1 = true := by
  rw [codes_eq]
  intro c hc
  simp only [codes1, List.mem_cons, List.not_mem_nil, or_false] at hc
  rcases hc with rfl | rfl
  · exact w_c0
  · exact w_c1
set_option maxRecDepth 65536 in
theorem w_t1 : words1.all (fun c => isCode c || c.before args0 about1) = true := by decide +kernel
theorem w_tables : (allAtoms (Jvm.Cond.code x code maxLocals ret :: tables_1)).before args0 about1 = true := by
  rw [allAtoms_all]
  show words1.all (fun c => c.before args0 about1) = true
  refine all_split ?_ w_codes
  rw [w_t1]
set_option maxRecDepth 65536 in
theorem w_case : (Jvm.Cond.and given_1 narrow_1).before args0 about1 = true := by decide +kernel
theorem w_applies : (headSpec (Jvm.Cond.code x code maxLocals ret :: tables_1) room_1).applies x e0.platform about1 = true :=
  (Spec.applies_iff w_frames).mpr ⟨w_running, w_runnable, w_alone, w_named, w_hears, w_ripe, w_room, w_tables⟩
theorem atStart : AtStart classFile x code maxLocals ret World_1 tables_1 room_1 Calls_1 rest_1 Pre_1 launch0 p0 e0 about1 theMethod args0 below0 :=
  ⟨lists_1, trivial, launch0.admits_env _ _ _, launch0.least_env, fairChoices_fair.cas, fairChoices_fair.clock, w_frames, w_args, w_heap, w_applies, trivial, trivial, w_case⟩
end start1
theorem witness_1 : WitnessClaimed_1 := ⟨start1.p0, start1.e0, start1.about1, start1.theMethod, start1.args0, start1.below0, start1.atStart⟩
end Jvm.Pilot.@@N@@
