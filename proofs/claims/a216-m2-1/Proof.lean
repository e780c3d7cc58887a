import JvmDerived
import JvmDerived.Pilot.@@N@@Statement
import JvmDerived.Pilot.@@N@@Code
set_option linter.unusedVariables false
set_option linter.unusedSimpArgs false
namespace Jvm.Pilot.@@N@@
open Jvm Jvm.ClassFile Sem Op Lib Jvm.Free Jvm.Stand Jvm.LawKit Jvm.RoadKit Bundle Jvm.Pilot.@@N@@.Jvm.D

/-! own kit: the walk goes forward, from state to state, to an end that the contract names -/
section OwnKit
variable {p : Program} {l : Launch} {e : Env} {R : Room} {s : State} {m : MethodId} {args : Array Value} {below : List Frame} {meth : Method} {c : Code} {T : State} {locs : List Loc} {cells slots : Nat} {Z : State} {a0 : Array Value} {h : Heap}
def own_Go (tb : Tables) (e : Env) (below : List Frame) (F : State → Outcome → Prop) (S : State) : Prop := ∃ t o, Steps tb e below S t ∧ F t o
theorem own_go {tb : Tables} {F : State → Outcome → Prop} {S S' : State} (k : ∀ t, Steps tb e below S' t → Steps tb e below S t) (q : own_Go tb e below F S') : own_Go tb e below F S := by
  obtain ⟨t, o, a, b⟩ := q; exact ⟨t, o, k t a, b⟩
theorem own_gt {tb : Tables} {F : State → Outcome → Prop} {S S' : State} (k : Steps tb e below S S') (q : own_Go tb e below F S') : own_Go tb e below F S := own_go (fun _ r => k.trans r) q
def own_Fin (s : State) (below : List Frame) (Q : Option Value → Heap → List Loc → Prop) (nc ns : Nat) (t : State) (o : Outcome) : Prop :=
  t.status = .running ∧ Ended t below o ∧ ∃ v L, o = .returned v ∧ Q v t.heap L ∧ FrameEnd s o t L nc ns
def own_Met (l : Launch) (y : MethodName) (ws : List Jvm.Cond) (rm : Room) (Z : State) (h : Heap) (as : Array Value) (Q : Option Value → Heap → List Loc → Prop) : Prop :=
  MetFree l y (head1 ws rm) (fun a U => a = as ∧ Z.Warmed39 U.vm ∧ U.heap = h) (fun _ _ _ _ _ => True) (fun _ U o U' => ∃ v L, o = .returned v ∧ Q v U'.heap L ∧ FrameEnd U o U' L rm.cells rm.slots)
theorem own_body {y : MethodName} {bytes : ByteArray} {mx : Nat} {rt : Option FieldType} {rm : Room} {ws : List Jvm.Cond} {as : Array Value} {Q : Option Value → Heap → List Loc → Prop} (pn : plainName y.cls = true)
    (H : ∀ (p : Program) (e : Env) (s : State) (m : MethodId) (below : List Frame) (meth : Method) (c : Code) (s₁ : State), p.tables.exec = Jvm.exec → c.code = bytes → c.maxLocals = mx → s.vm.findClass y.cls = some m.cls → meth.name = y.name → meth.sig.returnType = rt → meth.locks = false → Z.Warmed39 s.vm →
      Stand p l e rm s m as below meth c s₁ [] 0 0 → s₁.heap = h → own_Go p.tables e below (own_Fin s below Q rm.cells rm.slots) (s₁.setTop (entryFrame m as mx))) :
    own_Met l y (Jvm.Cond.code y bytes mx rt :: ws) rm Z h as Q := by
  refine MetFree.of_bodySF (plainFor_of_name pn) hisR ?_
  intro p e s m args below meth c s₁ Bd hml hP hK
  obtain ⟨rfl, hZ, hh⟩ := hP
  exact H p e s m below meth c s₁ Bd.exec Bd.bytes hml (findClass_of_methodNamed Bd.named) (name_of_methodNamed Bd.named Bd.method).1 Bd.returns Bd.notSynchronized hZ (Stand.of_body Bd) (by rw [← hh, Bd.state]; rfl)
theorem own_end (X : Stand p l e R s m args below meth c T locs cells slots) {v : Option Value} {g : JFrame} {Q : Option Value → Heap → List Loc → Prop} {nc ns : Nat} (hlk : meth.locks = false) (hv : meth.sig.returnType = none → v = none)
    (st : ∀ fs, (∀ (f : JFrame) (acts : List Action), f.method = m → f.locked = none → f.entered = [] → (doReturn e (T.setTop f) acts v).1 = T.setFrames fs) → Steps p.tables e below (T.setTop g) (T.setFrames fs)) (hQ : Q v T.heap locs) (h1 : cells ≤ nc) (h2 : slots ≤ ns) :
    own_Go p.tables e below (own_Fin s below Q nc ns) (T.setTop g) := by
  obtain ⟨fs, hr, hrun, hended, hW, hsame⟩ := X.leave (v := v) hv hlk
  exact ⟨_, _, st fs hr, hrun, hended, _, _, rfl, hQ, ⟨_, rfl⟩, hW, hsame.mono h1 h2⟩
theorem own_retI (X : Stand p l e R s m args below meth c T locs cells slots) (hx : p.tables.exec = Jvm.exec) {pc : Nat} {Ls : Array Slot} {z : Int32} {t : FieldType} {rest : List Value} {Q : Option Value → Heap → List Loc → Prop} {nc ns : Nat} (hlk : meth.locks = false) (hret : meth.sig.returnType = some t) (ht : t = .int ∨ t = .boolean ∨ t = .byte ∨ t = .char ∨ t = .short) (hn : narrow t (.int z) = .int z)
    (hd : decode c.code pc = .ok (.ireturn, 1)) (hQ : Q (some (.int z)) T.heap locs) (h1 : cells ≤ nc) (h2 : slots ≤ ns) : own_Go p.tables e below (own_Fin s below Q nc ns) (T.setTop (mkF m pc Ls (.int z :: rest))) :=
  own_end X hlk (fun q => by rw [hret] at q; cases q) (fun fs hr => retOut X hx hret hn (Or.inl ⟨rfl, ht, _, rfl⟩) hd hr) hQ h1 h2
theorem own_retJ (X : Stand p l e R s m args below meth c T locs cells slots) (hx : p.tables.exec = Jvm.exec) {pc : Nat} {Ls : Array Slot} {z : Int64} {rest : List Value} {Q : Option Value → Heap → List Loc → Prop} {nc ns : Nat} (hlk : meth.locks = false) (hret : meth.sig.returnType = some .long)
    (hd : decode c.code pc = .ok (.lreturn, 1)) (hQ : Q (some (.long z)) T.heap locs) (h1 : cells ≤ nc) (h2 : slots ≤ ns) : own_Go p.tables e below (own_Fin s below Q nc ns) (T.setTop (mkF m pc Ls (.long z :: rest))) :=
  own_end X hlk (fun q => by rw [hret] at q; cases q) (fun fs hr => retOut X hx hret rfl (Or.inr (Or.inl ⟨rfl, rfl, _, rfl⟩)) hd hr) hQ h1 h2
theorem own_retA (X : Stand p l e R s m args below meth c T locs cells slots) (hx : p.tables.exec = Jvm.exec) {pc : Nat} {Ls : Array Slot} {w : Value} {t : FieldType} {rest : List Value} {Q : Option Value → Heap → List Loc → Prop} {nc ns : Nat} (hlk : meth.locks = false) (hret : meth.sig.returnType = some t) (ht : t.isReference = true) (hw : w.isRef = true)
    (hd : decode c.code pc = .ok (.areturn, 1)) (hQ : Q (some w) T.heap locs) (h1 : cells ≤ nc) (h2 : slots ≤ ns) : own_Go p.tables e below (own_Fin s below Q nc ns) (T.setTop (mkF m pc Ls (w :: rest))) :=
  own_end X hlk (fun q => by rw [hret] at q; cases q) (fun fs hr => retOut X hx hret (by cases t <;> first | (cases ht; done) | (cases w <;> first | rfl | cases hw)) (Or.inr (Or.inr (Or.inr (Or.inr ⟨rfl, ht, hw⟩)))) hd hr) hQ h1 h2
theorem own_retV (X : Stand p l e R s m args below meth c T locs cells slots) (hx : p.tables.exec = Jvm.exec) {pc : Nat} {Ls : Array Slot} {Q : Option Value → Heap → List Loc → Prop} {nc ns : Nat} (hlk : meth.locks = false) (hret : meth.sig.returnType = none)
    (hd : decode c.code pc = .ok (.return_, 1)) (hQ : Q none T.heap locs) (h1 : cells ≤ nc) (h2 : slots ≤ ns) : own_Go p.tables e below (own_Fin s below Q nc ns) (T.setTop (mkF m pc Ls [])) :=
  own_end X hlk (fun _ => rfl) (fun fs hr => X.returnOut hx hret hd hr) hQ h1 h2
theorem own_callS (X : Stand p l e R s m args below meth c T locs cells slots) (hx : p.tables.exec = Jvm.exec) (hZ : Z.Warmed39 s.vm) {own : String} {index : Nat} {y : MethodName} {bytes : ByteArray} {mx : Nat} {rt : Option FieldType} {rm : Room} {W pc : Nat} {Ls : Array Slot} {St argsL rest : List Value} {Q : Option Value → Heap → List Loc → Prop} {F : State → Outcome → Prop}
    (hown : s.vm.findClass own = some m.cls) (w1 : (Jvm.Cond.methodLink own index y).before a0 Z = true) (w2 : (Jvm.Cond.static y).before a0 Z = true) (w3 : (Jvm.Cond.initialized y.cls).before a0 Z = true) (w4 : (Jvm.Cond.code y bytes mx rt).before a0 Z = true)
    (hy : y.cls ≠ "java/lang/invoke/MethodHandle" ∧ y.cls ≠ "java/lang/invoke/VarHandle") (M : own_Met l y [Jvm.Cond.code y bytes mx rt] rm Z h argsL.toArray Q) (eT : T.heap = h) (hf : rm.frames + 1 ≤ R.frames) (hl : W + (mx + 11) + rm.locals ≤ R.locals) (hc : cells + rm.cells ≤ R.cells) (hs : slots + rm.slots ≤ R.slots)
    (hsz : Ls.size = c.maxLocals) (hlen : ∀ sig, parseMethodDescriptor y.desc = some sig → argsL.length = sig.parameters.length) (hst : St = argsL.reverse ++ rest) (hW : (rest.map fun v => v.category).sum ≤ W) (hd : decode c.code pc = .ok (.invokestatic index, 3))
    (K : ∀ v T' L, Stand p l e R s m args below meth c T' (locs ++ L) (cells + rm.cells) (slots + rm.slots) → Q v T'.heap L → own_Go p.tables e below F (T'.setTop (mkF m (pc + 3) Ls (v.toList ++ rest)))) :
    own_Go p.tables e below F (T.setTop (mkF m pc Ls St)) := by
  obtain ⟨v, _, ⟨T', L', k', n'⟩, -, X', ⟨L, hQ, l1, l2, l3⟩, st⟩ := Jvm.LawKit.callS X hx (y := y) hown (mvT hZ w1) (mvT hZ w2) (mvT hZ w3) (mvT hZ w4) hy (backOf (W := W) M hZ w4 w3 hf hl) (g := mkF m pc Ls St) rfl hsz (argsL := argsL) (rest := rest) hlen hst (by show 2 * 0 + _ ≤ _; rw [Nat.mul_zero, Nat.zero_add]; exact hW) hd (fun _ _ => ⟨rfl, eT, hc, hs⟩)
  dsimp only [Pt.U, Pt.locs, Pt.cells, Pt.slots] at X' l1 l2 l3 st hQ
  subst l1 l2 l3
  exact own_go st (K v T' L X' hQ)
theorem own_callV (X : Stand p l e R s m args below meth c T locs cells slots) (hx : p.tables.exec = Jvm.exec) (hZ : Z.Warmed39 s.vm) {own C : String} {index : Nat} {z : MethodName} {bytes : ByteArray} {mx : Nat} {rt : Option FieldType} {rm : Room} {W pc : Nat} {Ls : Array Slot} {a : Addr} {St argsL rest : List Value} {Q : Option Value → Heap → List Loc → Prop} {F : State → Outcome → Prop}
    (hown : s.vm.findClass own = some m.cls) (w1 : (Jvm.Cond.methodLink own index z).before a0 Z = true) (w2 : (Jvm.Cond.declares z).before a0 Z = true) (w3 : (Jvm.Cond.selects C z z).before a0 Z = true) (w4 : (Jvm.Cond.instanceMethod z).before a0 Z = true) (w5 : (Jvm.Cond.code z bytes mx rt).before a0 Z = true) (w6 : (Jvm.Cond.initialized z.cls).before a0 Z = true)
    (hy : z.cls ≠ "java/lang/invoke/MethodHandle" ∧ z.cls ≠ "java/lang/invoke/VarHandle") (E : Exa Z h a C) (M : own_Met l z [Jvm.Cond.code z bytes mx rt] rm Z h (.ref a :: argsL).toArray Q) (eT : T.heap = h) (hf : rm.frames + 1 ≤ R.frames) (hl : W + (mx + 11) + rm.locals ≤ R.locals) (hc : cells + rm.cells ≤ R.cells) (hs : slots + rm.slots ≤ R.slots)
    (hsz : Ls.size = c.maxLocals) (hlen : ∀ sig, parseMethodDescriptor z.desc = some sig → argsL.length = sig.parameters.length) (hst : St = argsL.reverse ++ .ref a :: rest) (hW : (rest.map fun v => v.category).sum ≤ W) (hd : decode c.code pc = .ok (.invokevirtual index, 3))
    (K : ∀ v T' L, Stand p l e R s m args below meth c T' (locs ++ L) (cells + rm.cells) (slots + rm.slots) → Q v T'.heap L → own_Go p.tables e below F (T'.setTop (mkF m (pc + 3) Ls (v.toList ++ rest)))) :
    own_Go p.tables e below F (T.setTop (mkF m pc Ls St)) := by
  obtain ⟨cq, kq, q1, q2, q3⟩ := isOf hZ eT E
  obtain ⟨v, _, ⟨T', L', k', n'⟩, -, X', ⟨L, hQ, l1, l2, l3⟩, st⟩ := X.virtualBack hx (y := z) (z := z) hown (mvT hZ w1) (mvT hZ w2) (notFace_of_selects (args := #[]) (mvT hZ w3)) (mvT hZ w3) (mvT hZ w4) hy (backOf (W := W) M hZ w5 w6 hf hl) q1 q3 (g := mkF m pc Ls St) rfl hsz (Steps.refl _) (argsL := argsL) (rest := rest) hlen hst (by show 2 * 0 + _ ≤ _; rw [Nat.mul_zero, Nat.zero_add]; exact hW) hd (fun _ _ => ⟨rfl, eT, hc, hs⟩)
  dsimp only [Pt.U, Pt.locs, Pt.cells, Pt.slots] at X' l1 l2 l3 st hQ
  subst l1 l2 l3
  exact own_gt st (K v T' L X' hQ)
theorem own_callI (X : Stand p l e R s m args below meth c T locs cells slots) (hx : p.tables.exec = Jvm.exec) (hZ : Z.Warmed39 s.vm) {own : String} {index : Nat} {y : MethodName} {bytes : ByteArray} {mx : Nat} {rm : Room} {W pc : Nat} {Ls : Array Slot} {a : Addr} {St argsL rest : List Value} {Q : Option Value → Heap → List Loc → Prop} {F : State → Outcome → Prop}
    (hown : s.vm.findClass own = some m.cls) (w1 : (Jvm.Cond.methodLink own index y).before a0 Z = true) (w2 : (Jvm.Cond.instanceMethod y).before a0 Z = true) (w3 : (Jvm.Cond.code y bytes mx none).before a0 Z = true) (w4 : (Jvm.Cond.initialized y.cls).before a0 Z = true) (hi : y.name = "<init>")
    (hy : y.cls ≠ "java/lang/invoke/MethodHandle" ∧ y.cls ≠ "java/lang/invoke/VarHandle") (M : own_Met l y [Jvm.Cond.code y bytes mx none] rm Z h (.ref a :: argsL).toArray Q) (eT : T.heap = h) (hf : rm.frames + 1 ≤ R.frames) (hl : W + (mx + 11) + rm.locals ≤ R.locals) (hc : cells + rm.cells ≤ R.cells) (hs : slots + rm.slots ≤ R.slots)
    (hsz : Ls.size = c.maxLocals) (hlen : ∀ sig, parseMethodDescriptor y.desc = some sig → argsL.length = sig.parameters.length) (hst : St = argsL.reverse ++ .ref a :: rest) (hW : (rest.map fun v => v.category).sum ≤ W) (hd : decode c.code pc = .ok (.invokespecial index, 3))
    (K : ∀ v T' L, Stand p l e R s m args below meth c T' (locs ++ L) (cells + rm.cells) (slots + rm.slots) → Q v T'.heap L → own_Go p.tables e below F (T'.setTop (mkF m (pc + 3) Ls (v.toList ++ rest)))) :
    own_Go p.tables e below F (T.setTop (mkF m pc Ls St)) := by
  obtain ⟨v, _, ⟨T', L', k', n'⟩, -, X', ⟨L, hQ, l1, l2, l3⟩, st⟩ := X.specialBack hx (y := y) hi hown (mvT hZ w1) (mvT hZ w2) (mvT hZ w3) hy (backOf (W := W) M hZ w3 w4 hf hl) (g := mkF m pc Ls St) rfl hsz (Steps.refl _) (a := a) (argsL := argsL) (rest := rest) hlen hst (by show 2 * 0 + _ ≤ _; rw [Nat.mul_zero, Nat.zero_add]; exact hW) hd (fun _ _ => ⟨rfl, eT, hc, hs⟩)
  dsimp only [Pt.U, Pt.locs, Pt.cells, Pt.slots] at X' l1 l2 l3 st hQ
  subst l1 l2 l3
  exact own_gt st (K v T' L X' hQ)
end OwnKit

/-! own kit 2: arrays by a function of the place -/
section OwnKit2
variable {p : Program} {l : Launch} {e : Env} {R : Room} {s : State} {m : MethodId} {args : Array Value} {below : List Frame} {meth : Method} {c : Code} {T : State} {locs : List Loc} {cells slots : Nat} {Z : State} {a0 : Array Value} {h h' : Heap} {a b : Addr} {k : ClassId} {ty : FieldType} {n i : Nat} {f f' : Nat → Value} {v : Value} {j : Int32} {pc : Nat} {Ls : Array Slot} {rest : List Value} {F : State → Outcome → Prop}
def own_Av (Z : State) (h : Heap) (a : Addr) (k : ClassId) (ty : FieldType) (n : Nat) (f : Nat → Value) : Prop := ∃ cl : Cell, Arr Z h a cl ty ∧ cl.cls = k ∧ cl.slots.size = n ∧ ∀ j, j < n → cl.slots[j]? = some (f j)
theorem own_Av.lt (V : own_Av Z h a k ty n f) : a < h.size := by obtain ⟨cl, A, -⟩ := V; exact A.lt
theorem own_Av.ext (E : Ext h h') (V : own_Av Z h a k ty n f) : own_Av Z h' a k ty n f := by obtain ⟨cl, A, r⟩ := V; exact ⟨cl, A.ext E, r⟩
theorem own_Av.other {sl : Nat} (W : Wr h h' b sl v) (V : own_Av Z h a k ty n f) (q : a ≠ b) : own_Av Z h' a k ty n f := by obtain ⟨cl, A, r⟩ := V; exact ⟨cl, A.other W q, r⟩
theorem own_Av.keep {ws : List Addr} (V : own_Av Z h a k ty n f) (K : Keep h h' ws) (q : a ∉ ws) : own_Av Z h' a k ty n f := by obtain ⟨cl, A, r⟩ := V; exact ⟨cl, ⟨K.2.1 a cl A.1 q, A.2⟩, r⟩
theorem own_Av.congr (V : own_Av Z h a k ty n f) (q : ∀ j, j < n → f j = f' j) : own_Av Z h a k ty n f' := by obtain ⟨cl, A, r1, r2, r3⟩ := V; exact ⟨cl, A, r1, r2, fun j hj => by rw [r3 j hj, q j hj]⟩
theorem own_Av.new {z : Int32} (A : Arr Z h a (newA k ty z) ty) (q : z.toNatClampNeg = n) : own_Av Z h a k ty n (fun _ => defaultValue ty) := ⟨_, A, rfl, (sz_new _ _ _).trans q, fun j hj => by simp [newA, q, hj]⟩
theorem own_Av.set (V : own_Av Z h a k ty n f) (W : Wr h h' a i v) (hi : i < n) : own_Av Z h' a k ty n (fun x => if x = i then v else f x) := by
  obtain ⟨cl, A, r1, r2, r3⟩ := V
  refine ⟨cl.setSlot i v, Arr.same W A, r1, (sz_set _ _ _).trans r2, fun x hx => ?_⟩
  by_cases q : x = i
  · subst q; show (cl.setSlot x v).slots[x]? = some (if x = x then v else f x); rw [if_pos rfl]; simp [Cell.setSlot, r2, hi]
  · show (cl.setSlot i v).slots[x]? = some (if x = i then v else f x); rw [if_neg q, ← r3 x hx]; exact Array.getElem?_setIfInBounds_ne (Ne.symm q)
theorem own_in (r : i < n) (hj : ¬ j < 0) (hi : j.toNatClampNeg = i) {cl : Cell} (S : cl.slots.size = n) : ¬ (j < 0 ∨ cl.slots.size ≤ j.toNatClampNeg) := fun q => q.elim hj fun q => by omega
theorem own_alen (X : Stand p l e R s m args below meth c T locs cells slots) (hx : p.tables.exec = Jvm.exec) (hZ : Z.Warmed39 s.vm) (eT : T.heap = h) (V : own_Av Z h a k ty n f) (z : Int32) (hz : n.toInt32 = z) (hd : decode c.code pc = .ok (.arraylength, 1))
    (q : own_Go p.tables e below F (T.setTop (mkF m (pc + 1) Ls (.int z :: rest)))) : own_Go p.tables e below F (T.setTop (mkF m pc Ls (.ref a :: rest))) := by
  obtain ⟨cl, A, r1, r2, r3⟩ := V
  subst hz r2
  exact own_go (fun t k => X.arraylength hx (by rw [eT]; exact A.1) (State.isArrayOf_alike hZ.alike A.2.1) (g := mkF m pc Ls (.ref a :: rest)) rfl rfl hd t k) q
theorem own_bald (X : Stand p l e R s m args below meth c T locs cells slots) (hx : p.tables.exec = Jvm.exec) (hZ : Z.Warmed39 s.vm) (eT : T.heap = h) (V : own_Av Z h a k .byte n f) (i : Nat) (hj : ¬ j < 0) (hi : j.toNatClampNeg = i) (r : i < n) {w : Value} (hw : f i = w) (hd : decode c.code pc = .ok (.baload, 1))
    (q : own_Go p.tables e below F (T.setTop (mkF m (pc + 1) Ls (w :: rest)))) : own_Go p.tables e below F (T.setTop (mkF m pc Ls (.int j :: .ref a :: rest))) := by
  obtain ⟨cl, A, r1, r2, r3⟩ := V
  subst hw
  exact own_go (fun t k => X.baloadBytes hx (by rw [eT]; exact A.1) (State.isArrayOf_alike hZ.alike A.2.1) A.2.2 (own_in r hj hi r2) (by rw [hi]; exact r3 i r) (g := mkF m pc Ls (.int j :: .ref a :: rest)) rfl rfl hd t k) q
theorem own_iald (X : Stand p l e R s m args below meth c T locs cells slots) (hx : p.tables.exec = Jvm.exec) (hZ : Z.Warmed39 s.vm) (eT : T.heap = h) (V : own_Av Z h a k .int n f) (i : Nat) (hj : ¬ j < 0) (hi : j.toNatClampNeg = i) (r : i < n) {w : Value} (hw : f i = w) (hd : decode c.code pc = .ok (.iaload, 1))
    (q : own_Go p.tables e below F (T.setTop (mkF m (pc + 1) Ls (w :: rest)))) : own_Go p.tables e below F (T.setTop (mkF m pc Ls (.int j :: .ref a :: rest))) := by
  obtain ⟨cl, A, r1, r2, r3⟩ := V
  subst hw
  exact own_go (fun t k => X.iaload hx (by rw [eT]; exact A.1) (State.isArrayOf_alike hZ.alike A.2.1) A.2.2 (own_in r hj hi r2) (by rw [hi]; exact r3 i r) (g := mkF m pc Ls (.int j :: .ref a :: rest)) rfl rfl hd t k) q
theorem own_lald (X : Stand p l e R s m args below meth c T locs cells slots) (hx : p.tables.exec = Jvm.exec) (hZ : Z.Warmed39 s.vm) (eT : T.heap = h) (V : own_Av Z h a k .long n f) (i : Nat) (hj : ¬ j < 0) (hi : j.toNatClampNeg = i) (r : i < n) {w : Value} (hw : f i = w) (hd : decode c.code pc = .ok (.laload, 1))
    (q : own_Go p.tables e below F (T.setTop (mkF m (pc + 1) Ls (w :: rest)))) : own_Go p.tables e below F (T.setTop (mkF m pc Ls (.int j :: .ref a :: rest))) := by
  obtain ⟨cl, A, r1, r2, r3⟩ := V
  subst hw
  exact own_go (fun t k => X.laload hx (by rw [eT]; exact A.1) (State.isArrayOf_alike hZ.alike A.2.1) A.2.2 (own_in r hj hi r2) (by rw [hi]; exact r3 i r) (g := mkF m pc Ls (.int j :: .ref a :: rest)) rfl rfl hd t k) q
theorem own_aald (X : Stand p l e R s m args below meth c T locs cells slots) (hx : p.tables.exec = Jvm.exec) (hZ : Z.Warmed39 s.vm) (eT : T.heap = h) (V : own_Av Z h a k ty n f) (hty : ty.isReference = true) (i : Nat) (hj : ¬ j < 0) (hi : j.toNatClampNeg = i) (r : i < n) {w : Value} (hw : f i = w) (hd : decode c.code pc = .ok (.aaload, 1))
    (q : own_Go p.tables e below F (T.setTop (mkF m (pc + 1) Ls (w :: rest)))) : own_Go p.tables e below F (T.setTop (mkF m pc Ls (.int j :: .ref a :: rest))) := by
  obtain ⟨cl, A, r1, r2, r3⟩ := V
  subst hw
  exact own_go (fun t k => X.aaload hx (by rw [eT]; exact A.1) (State.isArrayOf_alike hZ.alike A.2.1) hty A.2.2 (own_in r hj hi r2) (by rw [hi]; exact r3 i r) (g := mkF m pc Ls (.int j :: .ref a :: rest)) rfl rfl hd t k) q
theorem own_bast (X : Stand p l e R s m args below meth c T locs cells slots) (hx : p.tables.exec = Jvm.exec) (hZ : Z.Warmed39 s.vm) (eT : T.heap = h) (V : own_Av Z h a k .byte n f) (i : Nat) {x : Int32} (hj : ¬ j < 0) (hi : j.toNatClampNeg = i) (r : i < n) (hd : decode c.code pc = .ok (.bastore, 1))
    (q : ∀ T' h', Stand p l e R s m args below meth c T' (locs ++ [⟨a, i⟩]) cells slots → T'.heap = h' → Wr h h' a i (.int x.toInt8.toInt32) → own_Go p.tables e below F (T'.setTop (mkF m (pc + 1) Ls rest))) : own_Go p.tables e below F (T.setTop (mkF m pc Ls (.int x :: .int j :: .ref a :: rest))) := by
  obtain ⟨cl, A, r1, r2, r3⟩ := V
  obtain ⟨T', h', X', e', W, st⟩ := stB X hx hZ eT A (own_in r hj hi r2) (g := mkF m pc Ls (.int x :: .int j :: .ref a :: rest)) rfl rfl hd
  rw [hi] at X' W
  exact own_go st (q T' h' X' e' W)
theorem own_iast (X : Stand p l e R s m args below meth c T locs cells slots) (hx : p.tables.exec = Jvm.exec) (hZ : Z.Warmed39 s.vm) (eT : T.heap = h) (V : own_Av Z h a k .int n f) (i : Nat) {x : Int32} (hj : ¬ j < 0) (hi : j.toNatClampNeg = i) (r : i < n) (hd : decode c.code pc = .ok (.iastore, 1))
    (q : ∀ T' h', Stand p l e R s m args below meth c T' (locs ++ [⟨a, i⟩]) cells slots → T'.heap = h' → Wr h h' a i (.int x) → own_Go p.tables e below F (T'.setTop (mkF m (pc + 1) Ls rest))) : own_Go p.tables e below F (T.setTop (mkF m pc Ls (.int x :: .int j :: .ref a :: rest))) := by
  obtain ⟨cl, A, r1, r2, r3⟩ := V
  obtain ⟨T', h', X', e', W, st⟩ := stI X hx hZ eT A (own_in r hj hi r2) (g := mkF m pc Ls (.int x :: .int j :: .ref a :: rest)) rfl rfl hd
  rw [hi] at X' W
  exact own_go st (q T' h' X' e' W)
theorem own_last (X : Stand p l e R s m args below meth c T locs cells slots) (hx : p.tables.exec = Jvm.exec) (hZ : Z.Warmed39 s.vm) (eT : T.heap = h) (V : own_Av Z h a k .long n f) (i : Nat) {x : Int64} (hj : ¬ j < 0) (hi : j.toNatClampNeg = i) (r : i < n) (hd : decode c.code pc = .ok (.lastore, 1))
    (q : ∀ T' h', Stand p l e R s m args below meth c T' (locs ++ [⟨a, i⟩]) cells slots → T'.heap = h' → Wr h h' a i (.long x) → own_Go p.tables e below F (T'.setTop (mkF m (pc + 1) Ls rest))) : own_Go p.tables e below F (T.setTop (mkF m pc Ls (.long x :: .int j :: .ref a :: rest))) := by
  obtain ⟨cl, A, r1, r2, r3⟩ := V
  obtain ⟨T', h', X', e', W, st⟩ := stJ X hx hZ eT A (own_in r hj hi r2) (g := mkF m pc Ls (.long x :: .int j :: .ref a :: rest)) rfl rfl hd
  rw [hi] at X' W
  exact own_go st (q T' h' X' e' W)
theorem own_aast (X : Stand p l e R s m args below meth c T locs cells slots) (hx : p.tables.exec = Jvm.exec) (hZ : Z.Warmed39 s.vm) (eT : T.heap = h) (V : own_Av Z h a k ty n f) (hty : ty.isReference = true) (S : Sto Z h a v) (i : Nat) (hj : ¬ j < 0) (hi : j.toNatClampNeg = i) (r : i < n) (hd : decode c.code pc = .ok (.aastore, 1))
    (q : ∀ T' h', Stand p l e R s m args below meth c T' (locs ++ [⟨a, i⟩]) cells slots → T'.heap = h' → Wr h h' a i v → own_Go p.tables e below F (T'.setTop (mkF m (pc + 1) Ls rest))) : own_Go p.tables e below F (T.setTop (mkF m pc Ls (v :: .int j :: .ref a :: rest))) := by
  obtain ⟨cl, A, r1, r2, r3⟩ := V
  obtain ⟨T', h', X', e', W, st⟩ := stR X hx hZ eT A (own_in r hj hi r2) hty S (g := mkF m pc Ls (v :: .int j :: .ref a :: rest)) rfl rfl hd
  rw [hi] at X' W
  exact own_go st (q T' h' X' e' W)
end OwnKit2

def own_b (P : Prop) [Decidable P] : Int32 := if P then 1 else 0
theorem own_1 {P : Prop} [Decidable P] (h : P) : some (Value.int 1) = some (Value.int (own_b P)) := by unfold own_b; rw [if_pos h]
theorem own_0 {P : Prop} [Decidable P] (h : ¬ P) : some (Value.int 0) = some (Value.int (own_b P)) := by unfold own_b; rw [if_neg h]
def own_Bt (Z : State) (h : Heap) (a : Addr) (ve vp : Value) (k : Int32) : Prop := Exa Z h a "dev/millrace/Batch" ∧ Fld Z h a "dev/millrace/Batch" "events" "[Ljava/lang/Object;" (ve) ∧ Fld Z h a "dev/millrace/Batch" "positions" "[J" (vp) ∧ Fld Z h a "dev/millrace/Batch" "keys" "[Ljava/lang/Object;" (.null) ∧ Fld Z h a "dev/millrace/Batch" "lanes" "[I" (.null) ∧ Fld Z h a "dev/millrace/Batch" "inputs" "[Ldev/millrace/Source$Input;" (.null) ∧ Fld Z h a "dev/millrace/Batch" "numbers" "[J" (.null) ∧ Fld Z h a "dev/millrace/Batch" "size" "I" (.int k)
theorem own_ix (z : Int32) (n : Nat) (q : z.toInt = n) : ¬ z < 0 ∧ z.toNatClampNeg = n := by
  have e : z.toNatClampNeg = z.toInt.toNat := rfl
  refine ⟨fun r => ?_, by rw [e]; omega⟩
  rw [Int32.lt_iff_toInt_lt] at r
  have l : (0 : Int32).toInt = 0 := by decide
  omega
theorem own_k (p k : Int32) (hk : k = p &&& 1023) : 0 ≤ k.toInt ∧ k.toInt < 1024 := by
  have a := c_mask p 1023 10 (by decide) (by decide)
  have l : (((2 ^ 10 : Nat) : Nat) : Int) = 1024 := by decide
  rw [l, ← hk] at a
  omega
theorem own_up (k : Int32) (d : Int32) (n j : Nat) (hk : k.toInt = n) (hd : d.toInt = j) (hn : n + j < 2000) : (k + d).toInt = ((n + j : Nat) : Int) := by
  have a := c_iadd k d
  have r := rng32 (k + d)
  omega
theorem own_dn (k : Int32) (n : Nat) (hk : k.toInt = n) (h0 : 0 < n) (hn : n < 2000) : (k - 1).toInt = ((n - 1 : Nat) : Int) := by
  have a := c_isub k 1
  have l : (1 : Int32).toInt = 1 := by decide
  rw [l] at a
  have r := rng32 (k - 1)
  omega
theorem own_kk (k : Int32) (n : Nat) (hk : k.toInt = n) (hn : n < 1024) : k + 1 = 1024 ↔ k = 1023 := by
  have a := own_up k 1 n 1 hk (by decide) (by omega)
  rw [← Int32.toInt_inj, ← Int32.toInt_inj, a, hk]
  have l : (1024 : Int32).toInt = 1024 := by decide
  have l' : (1023 : Int32).toInt = 1023 := by decide
  rw [l, l']
  omega
theorem own_k2 (k : Int32) : k + 1 + 1 = k + 2 := by rw [Int32.add_assoc]; rfl
theorem own_kk2 (k : Int32) (n : Nat) (hk : k.toInt = n) (hn : n < 1024) : k + 1 + 1 = 1024 ↔ k = 1022 := by
  rw [own_k2]
  have a := own_up k 2 n 2 hk (by decide) (by omega)
  rw [← Int32.toInt_inj, ← Int32.toInt_inj, a, hk]
  have l : (1024 : Int32).toInt = 1024 := by decide
  have l' : (1022 : Int32).toInt = 1022 := by decide
  rw [l, l']
  omega
theorem own_b1 {P : Prop} [Decidable P] (h : P) : own_b P = 1 := if_pos h
theorem own_b0 {P : Prop} [Decidable P] (h : ¬ P) : own_b P = 0 := if_neg h
theorem own_d1_0 : decode prog_1_method_1_code 0 = .ok (.aload_n 0, 1) := by decide +kernel
theorem own_d1_1 : decode prog_1_method_1_code 1 = .ok (.sipush 1024, 3) := by decide +kernel
theorem own_d1_4 : decode prog_1_method_1_code 4 = .ok (.invokespecial 3, 3) := by decide +kernel
theorem own_d1_7 : decode prog_1_method_1_code 7 = .ok (.return_, 1) := by decide +kernel
theorem own_pn_1 : plainName "dev/millrace/Batch" = true := by first | (simp [plainName, overriddenIn]; done) | decide +kernel
theorem own_d2_0 : decode prog_1_method_2_code 0 = .ok (.aload_n 0, 1) := by decide +kernel
theorem own_d2_1 : decode prog_1_method_2_code 1 = .ok (.invokespecial 7, 3) := by decide +kernel
theorem own_d2_4 : decode prog_1_method_2_code 4 = .ok (.aload_n 0, 1) := by decide +kernel
theorem own_d2_5 : decode prog_1_method_2_code 5 = .ok (.iload_n 1, 1) := by decide +kernel
theorem own_d2_6 : decode prog_1_method_2_code 6 = .ok (.anewarray 8, 3) := by decide +kernel
theorem own_d2_9 : decode prog_1_method_2_code 9 = .ok (.putfield 12, 3) := by decide +kernel
theorem own_d2_12 : decode prog_1_method_2_code 12 = .ok (.aload_n 0, 1) := by decide +kernel
theorem own_d2_13 : decode prog_1_method_2_code 13 = .ok (.iload_n 1, 1) := by decide +kernel
theorem own_d2_14 : decode prog_1_method_2_code 14 = .ok (.newarray .long, 2) := by decide +kernel
theorem own_d2_16 : decode prog_1_method_2_code 16 = .ok (.putfield 16, 3) := by decide +kernel
theorem own_d2_19 : decode prog_1_method_2_code 19 = .ok (.return_, 1) := by decide +kernel
theorem own_pn_2 : plainName "dev/millrace/Batch" = true := by first | (simp [plainName, overriddenIn]; done) | decide +kernel
theorem own_d4_0 : decode prog_1_method_3_code 0 = .ok (.aload_n 0, 1) := by decide +kernel
theorem own_d4_1 : decode prog_1_method_3_code 1 = .ok (.getfield 12, 3) := by decide +kernel
theorem own_d4_4 : decode prog_1_method_3_code 4 = .ok (.aload_n 0, 1) := by decide +kernel
theorem own_d4_5 : decode prog_1_method_3_code 5 = .ok (.getfield 20, 3) := by decide +kernel
theorem own_d4_8 : decode prog_1_method_3_code 8 = .ok (.aload_n 1, 1) := by decide +kernel
theorem own_d4_9 : decode prog_1_method_3_code 9 = .ok (.aastore, 1) := by decide +kernel
theorem own_d4_10 : decode prog_1_method_3_code 10 = .ok (.aload_n 0, 1) := by decide +kernel
theorem own_d4_11 : decode prog_1_method_3_code 11 = .ok (.getfield 16, 3) := by decide +kernel
theorem own_d4_14 : decode prog_1_method_3_code 14 = .ok (.aload_n 0, 1) := by decide +kernel
theorem own_d4_15 : decode prog_1_method_3_code 15 = .ok (.getfield 20, 3) := by decide +kernel
theorem own_d4_18 : decode prog_1_method_3_code 18 = .ok (.lload_n 2, 1) := by decide +kernel
theorem own_d4_19 : decode prog_1_method_3_code 19 = .ok (.lastore, 1) := by decide +kernel
theorem own_d4_20 : decode prog_1_method_3_code 20 = .ok (.aload_n 0, 1) := by decide +kernel
theorem own_d4_21 : decode prog_1_method_3_code 21 = .ok (.dup, 1) := by decide +kernel
theorem own_d4_22 : decode prog_1_method_3_code 22 = .ok (.getfield 20, 3) := by decide +kernel
theorem own_d4_25 : decode prog_1_method_3_code 25 = .ok (.iconst 1, 1) := by decide +kernel
theorem own_d4_26 : decode prog_1_method_3_code 26 = .ok (.iadd, 1) := by decide +kernel
theorem own_d4_27 : decode prog_1_method_3_code 27 = .ok (.putfield 20, 3) := by decide +kernel
theorem own_d4_30 : decode prog_1_method_3_code 30 = .ok (.aload_n 0, 1) := by decide +kernel
theorem own_d4_31 : decode prog_1_method_3_code 31 = .ok (.getfield 20, 3) := by decide +kernel
theorem own_d4_34 : decode prog_1_method_3_code 34 = .ok (.aload_n 0, 1) := by decide +kernel
theorem own_d4_35 : decode prog_1_method_3_code 35 = .ok (.getfield 12, 3) := by decide +kernel
theorem own_d4_38 : decode prog_1_method_3_code 38 = .ok (.arraylength, 1) := by decide +kernel
theorem own_d4_39 : decode prog_1_method_3_code 39 = .ok (.if_icmp .ne 7, 3) := by decide +kernel
theorem own_d4_42 : decode prog_1_method_3_code 42 = .ok (.iconst 1, 1) := by decide +kernel
theorem own_d4_43 : decode prog_1_method_3_code 43 = .ok (.goto 4, 3) := by decide +kernel
theorem own_d4_46 : decode prog_1_method_3_code 46 = .ok (.iconst 0, 1) := by decide +kernel
theorem own_d4_47 : decode prog_1_method_3_code 47 = .ok (.ireturn, 1) := by decide +kernel
theorem own_pn_4 : plainName "dev/millrace/Batch" = true := by first | (simp [plainName, overriddenIn]; done) | decide +kernel
theorem own_pn_0 : plainName "dev/millrace/BatchAddPinLaw" = true := by first | (simp [plainName, overriddenIn]; done) | decide +kernel
theorem own_pd___V : parseMethodDescriptor "()V" = some ⟨[], none⟩ := by decide +kernel
theorem own_pd__I_V : parseMethodDescriptor "(I)V" = some ⟨[.int], none⟩ := by decide +kernel
theorem own_pd__Ljava_lang_Object_J_Z : parseMethodDescriptor "(Ljava/lang/Object;J)Z" = some ⟨[(.object "java/lang/Object"), .long], (some .boolean)⟩ := by decide +kernel
theorem own_rm2_ef (m : MethodId) (a5 : Addr)  : entryFrame m #[(.ref a5), (.int (1024 : Int32))] 2 = mkF m 0 #[.val (.ref a5), .val (.int (1024 : Int32))] [] := by first | (simp [entryFrame, mkF, argsToLocals, Value.category, maxLocals]; done) | rfl
set_option maxRecDepth 65536 in
set_option maxHeartbeats 40000000 in
theorem own_rm2 (l : Launch) (Z : State) (a0 : Array Value) (hw : ∀ d ∈ tables_1, d.before a0 Z = true) (a5 : Addr) (h0 : Heap) (n0 : Nat) (Z0 : n0 ≤ h0.size) (B : own_Bt Z h0 a5 .null .null 0) (g9 : n0 ≤ a5) :
    own_Met l (⟨"dev/millrace/Batch", "<init>", "(I)V"⟩ : MethodName) (Jvm.Cond.code (⟨"dev/millrace/Batch", "<init>", "(I)V"⟩ : MethodName) prog_1_method_2_code 2 none :: []) ({ frames := 1, cells := 2, slots := 2048, locals := 12 } : Room) Z h0 #[(.ref a5), (.int (1024 : Int32))] (fun v h L => ∃ ev po kE kP, v = none ∧ Fr n0 L ∧ Keep h0 h [a5] ∧ h0.size ≤ ev ∧ h0.size ≤ po ∧ ev ≠ po ∧ own_Bt Z h a5 (.ref ev) (.ref po) 0 ∧ own_Av Z h ev kE (.object "java/lang/Object") 1024 (fun _ => .null) ∧ Ovr Z kE "java/lang/Object" ∧ own_Av Z h po kP .long 1024 (fun _ => .long 0)) := by
  refine own_body (pn := own_pn_2) ?_
  intro p e s m below meth c s₁ hx hby hml hown hnm hret hlk hZ X0 e0
  have N0 := Fr.nil n0
  refine own_go (fun _ kont => castTop (own_rm2_ef m a5 ) kont) ?_
  show own_Go p.tables e below _ (s₁.setTop (mkF m 0 #[.val (.ref a5), .val (.int (1024 : Int32))] []))
  have K0 : Keep h0 h0 [a5] := Keep.refl _ _
  obtain ⟨E_101, F0_102, F1_103, F2_104, F3_105, F4_106, F5_107, F6_108⟩ := B
  refine own_go (fun _ kont => XS.aloadN X0.here hx rfl (hb hby own_d2_0) rfl rfl kont) ?_
  show own_Go p.tables e below _ (s₁.setTop (mkF m 1 #[.val (.ref a5), .val (.int (1024 : Int32))] [(.ref a5)]))
  obtain ⟨T109, X109, e109, st109⟩ := initO X0 hx hZ hown (hw _ (List.mem_of_getElem? (i := 9) rfl)) (hw _ (List.mem_of_getElem? (i := 10) rfl)) (hw _ (List.mem_of_getElem? (i := 11) rfl)) e0 (g := (mkF m 1 #[.val (.ref a5), .val (.int (1024 : Int32))] [(.ref a5)])) rfl (by rw [hml]; rfl) rfl (hb hby own_d2_1) (by decide) (W := 0) (by show 2 * 0 + _ ≤ _; exact Nat.le_of_eq rfl) (by decide)
  refine own_go st109 ?_
  show own_Go p.tables e below _ (T109.setTop (mkF m 4 #[.val (.ref a5), .val (.int (1024 : Int32))] []))
  refine own_go (fun _ kont => XS.aloadN X109.here hx rfl (hb hby own_d2_4) rfl rfl kont) ?_
  show own_Go p.tables e below _ (T109.setTop (mkF m 5 #[.val (.ref a5), .val (.int (1024 : Int32))] [(.ref a5)]))
  refine own_go (fun _ kont => XS.iloadN X109.here hx rfl (hb hby own_d2_5) rfl kont) ?_
  show own_Go p.tables e below _ (T109.setTop (mkF m 6 #[.val (.ref a5), .val (.int (1024 : Int32))] [(.int (1024 : Int32)), (.ref a5)]))
  obtain ⟨T110, h110, cA110, X110, e110, E110, A110, B110, O110, st110⟩ := newRE X109 hx hZ hown (hw _ (List.mem_of_getElem? (i := 12) rfl)) (hw _ (List.mem_of_getElem? (i := 13) rfl)) e109 (g := (mkF m 6 #[.val (.ref a5), .val (.int (1024 : Int32))] [(.int (1024 : Int32)), (.ref a5)])) rfl (hb hby own_d2_6) rfl (by decide) (cap := 1024) (by decide) (by decide) (by decide) (by decide) rfl
  obtain ⟨ev, g110⟩ : ∃ z, z = h0.size := ⟨_, rfl⟩
  rw [← g110] at A110 B110 st110
  have ne111 : a5 ≠ ev := by rw [g110]; exact Nat.ne_of_lt E_101.lt
  have ge_ev : n0 ≤ ev := by rw [g110]; exact Z0
  have kb_ev : h0.size ≤ ev := by rw [g110]; exact K0.1
  have E_a5_112 : Exa Z h110 a5 "dev/millrace/Batch" := Exa.ext E110 E_101
  have F_a5_events_113 : Fld Z h110 a5 "dev/millrace/Batch" "events" "[Ljava/lang/Object;" (.null) := Fld.ext E110 F0_102
  have F_a5_positions_114 : Fld Z h110 a5 "dev/millrace/Batch" "positions" "[J" (.null) := Fld.ext E110 F1_103
  have F_a5_keys_115 : Fld Z h110 a5 "dev/millrace/Batch" "keys" "[Ljava/lang/Object;" (.null) := Fld.ext E110 F2_104
  have F_a5_lanes_116 : Fld Z h110 a5 "dev/millrace/Batch" "lanes" "[I" (.null) := Fld.ext E110 F3_105
  have F_a5_inputs_117 : Fld Z h110 a5 "dev/millrace/Batch" "inputs" "[Ldev/millrace/Source$Input;" (.null) := Fld.ext E110 F4_106
  have F_a5_numbers_118 : Fld Z h110 a5 "dev/millrace/Batch" "numbers" "[J" (.null) := Fld.ext E110 F5_107
  have F_a5_size_119 : Fld Z h110 a5 "dev/millrace/Batch" "size" "I" (.int 0) := Fld.ext E110 F6_108
  have Z120 : n0 ≤ h110.size := Nat.le_trans Z0 E110.1
  have K120 : Keep h0 h110 [a5] := Keep.ext K0 E110
  have E_ev_121 : Exa Z h110 ev "[Ljava/lang/Object;" := B110
  have V_ev_122 : own_Av Z h110 ev cA110 (.object "java/lang/Object") 1024 (fun _ => Value.null) := own_Av.new (ty := (.object "java/lang/Object")) A110 (by decide)
  refine own_go st110 ?_
  show own_Go p.tables e below _ (T110.setTop (mkF m 9 #[.val (.ref a5), .val (.int (1024 : Int32))] [(.ref ev), (.ref a5)]))
  have OV := O110
  obtain ⟨T123, h123, X123, e123, W123, st123⟩ := putF X110 hx hZ hown (host := "") (Or.inl (hw _ (List.mem_of_getElem? (i := 14) rfl))) Via.refl e110 F_a5_events_113 E_a5_112 (Or.inr ⟨(hw _ (List.mem_of_getElem? (i := 15) rfl)), rfl, hnm⟩) (hw _ (List.mem_of_getElem? (i := 1) rfl)) (ty := (.array (.object "java/lang/Object"))) (by decide) rfl rfl (g := (mkF m 9 #[.val (.ref a5), .val (.int (1024 : Int32))] [(.ref ev), (.ref a5)])) rfl rfl (hb hby own_d2_9)
  have E_a5_124 : Exa Z h123 a5 "dev/millrace/Batch" := Exa.wr W123 E_a5_112
  have F_a5_events_125 : Fld Z h123 a5 "dev/millrace/Batch" "events" "[Ljava/lang/Object;" (.ref ev) := Fld.same W123 F_a5_events_113
  have F_a5_positions_126 : Fld Z h123 a5 "dev/millrace/Batch" "positions" "[J" (.null) := Fld.other W123 F_a5_positions_114 (Or.inr (slot_ne (t := (.array .long)) (t' := (.array (.object "java/lang/Object"))) (Or.inr (hw _ (List.mem_of_getElem? (i := 18) rfl))) (Or.inr (hw _ (List.mem_of_getElem? (i := 15) rfl))) (by decide) (by decide) (by decide)))
  have F_a5_keys_127 : Fld Z h123 a5 "dev/millrace/Batch" "keys" "[Ljava/lang/Object;" (.null) := Fld.other W123 F_a5_keys_115 (Or.inr (slot_ne (t := (.array (.object "java/lang/Object"))) (t' := (.array (.object "java/lang/Object"))) (Or.inl (hw _ (List.mem_of_getElem? (i := 32) rfl))) (Or.inr (hw _ (List.mem_of_getElem? (i := 15) rfl))) (by decide) (by decide) (by decide)))
  have F_a5_lanes_128 : Fld Z h123 a5 "dev/millrace/Batch" "lanes" "[I" (.null) := Fld.other W123 F_a5_lanes_116 (Or.inr (slot_ne (t := (.array .int)) (t' := (.array (.object "java/lang/Object"))) (Or.inl (hw _ (List.mem_of_getElem? (i := 34) rfl))) (Or.inr (hw _ (List.mem_of_getElem? (i := 15) rfl))) (by decide) (by decide) (by decide)))
  have F_a5_inputs_129 : Fld Z h123 a5 "dev/millrace/Batch" "inputs" "[Ldev/millrace/Source$Input;" (.null) := Fld.other W123 F_a5_inputs_117 (Or.inr (slot_ne (t := (.array (.object "dev/millrace/Source$Input"))) (t' := (.array (.object "java/lang/Object"))) (Or.inl (hw _ (List.mem_of_getElem? (i := 36) rfl))) (Or.inr (hw _ (List.mem_of_getElem? (i := 15) rfl))) (by decide) (by decide) (by decide)))
  have F_a5_numbers_130 : Fld Z h123 a5 "dev/millrace/Batch" "numbers" "[J" (.null) := Fld.other W123 F_a5_numbers_118 (Or.inr (slot_ne (t := (.array .long)) (t' := (.array (.object "java/lang/Object"))) (Or.inl (hw _ (List.mem_of_getElem? (i := 38) rfl))) (Or.inr (hw _ (List.mem_of_getElem? (i := 15) rfl))) (by decide) (by decide) (by decide)))
  have F_a5_size_131 : Fld Z h123 a5 "dev/millrace/Batch" "size" "I" (.int 0) := Fld.other W123 F_a5_size_119 (Or.inr (slot_ne (t := .int) (t' := (.array (.object "java/lang/Object"))) (Or.inl (hw _ (List.mem_of_getElem? (i := 20) rfl))) (Or.inr (hw _ (List.mem_of_getElem? (i := 15) rfl))) (by decide) (by decide) (by decide)))
  have E_ev_132 : Exa Z h123 ev "[Ljava/lang/Object;" := Exa.wr W123 E_ev_121
  have V_ev_133 : own_Av Z h123 ev cA110 (.object "java/lang/Object") 1024 (fun _ => Value.null) := own_Av.other W123 V_ev_122 (Ne.symm ne111)
  have N134 := Fr.snoc X123 N0 g9
  have Z134 : n0 ≤ h123.size := by rw [W123.size]; exact Z120
  have K134 : Keep h0 h123 [a5] := Keep.wr K120 W123 (Or.inl (by simp))
  refine own_go st123 ?_
  show own_Go p.tables e below _ (T123.setTop (mkF m 12 #[.val (.ref a5), .val (.int (1024 : Int32))] []))
  refine own_go (fun _ kont => XS.aloadN X123.here hx rfl (hb hby own_d2_12) rfl rfl kont) ?_
  show own_Go p.tables e below _ (T123.setTop (mkF m 13 #[.val (.ref a5), .val (.int (1024 : Int32))] [(.ref a5)]))
  refine own_go (fun _ kont => XS.iloadN X123.here hx rfl (hb hby own_d2_13) rfl kont) ?_
  show own_Go p.tables e below _ (T123.setTop (mkF m 14 #[.val (.ref a5), .val (.int (1024 : Int32))] [(.int (1024 : Int32)), (.ref a5)]))
  obtain ⟨T135, h135, cA135, X135, e135, E135, A135, B135, st135⟩ := newPE X123 hx hZ (hw _ (List.mem_of_getElem? (i := 16) rfl)) e123 (g := (mkF m 14 #[.val (.ref a5), .val (.int (1024 : Int32))] [(.int (1024 : Int32)), (.ref a5)])) rfl (hb hby own_d2_14) rfl (by decide) (cap := 1024) (by decide) (by decide) (by decide) (by decide) rfl
  obtain ⟨po, g135⟩ : ∃ z, z = h123.size := ⟨_, rfl⟩
  rw [← g135] at A135 B135 st135
  have ne136 : a5 ≠ po := by rw [g135]; exact Nat.ne_of_lt E_a5_124.lt
  have ne137 : ev ≠ po := by rw [g135]; exact Nat.ne_of_lt E_ev_132.lt
  have ge_po : n0 ≤ po := by rw [g135]; exact Z134
  have kb_po : h0.size ≤ po := by rw [g135]; exact K134.1
  have E_a5_138 : Exa Z h135 a5 "dev/millrace/Batch" := Exa.ext E135 E_a5_124
  have F_a5_events_139 : Fld Z h135 a5 "dev/millrace/Batch" "events" "[Ljava/lang/Object;" (.ref ev) := Fld.ext E135 F_a5_events_125
  have F_a5_positions_140 : Fld Z h135 a5 "dev/millrace/Batch" "positions" "[J" (.null) := Fld.ext E135 F_a5_positions_126
  have F_a5_keys_141 : Fld Z h135 a5 "dev/millrace/Batch" "keys" "[Ljava/lang/Object;" (.null) := Fld.ext E135 F_a5_keys_127
  have F_a5_lanes_142 : Fld Z h135 a5 "dev/millrace/Batch" "lanes" "[I" (.null) := Fld.ext E135 F_a5_lanes_128
  have F_a5_inputs_143 : Fld Z h135 a5 "dev/millrace/Batch" "inputs" "[Ldev/millrace/Source$Input;" (.null) := Fld.ext E135 F_a5_inputs_129
  have F_a5_numbers_144 : Fld Z h135 a5 "dev/millrace/Batch" "numbers" "[J" (.null) := Fld.ext E135 F_a5_numbers_130
  have F_a5_size_145 : Fld Z h135 a5 "dev/millrace/Batch" "size" "I" (.int 0) := Fld.ext E135 F_a5_size_131
  have E_ev_146 : Exa Z h135 ev "[Ljava/lang/Object;" := Exa.ext E135 E_ev_132
  have V_ev_147 : own_Av Z h135 ev cA110 (.object "java/lang/Object") 1024 (fun _ => Value.null) := own_Av.ext E135 V_ev_133
  have Z148 : n0 ≤ h135.size := Nat.le_trans Z134 E135.1
  have K148 : Keep h0 h135 [a5] := Keep.ext K134 E135
  have E_po_149 : Exa Z h135 po "[J" := B135
  have V_po_150 : own_Av Z h135 po cA135 .long 1024 (fun _ => defaultValue .long) := own_Av.new (ty := .long) A135 (by decide)
  refine own_go st135 ?_
  show own_Go p.tables e below _ (T135.setTop (mkF m 16 #[.val (.ref a5), .val (.int (1024 : Int32))] [(.ref po), (.ref a5)]))
  obtain ⟨T151, h151, X151, e151, W151, st151⟩ := putF X135 hx hZ hown (host := "") (Or.inl (hw _ (List.mem_of_getElem? (i := 17) rfl))) Via.refl e135 F_a5_positions_140 E_a5_138 (Or.inr ⟨(hw _ (List.mem_of_getElem? (i := 18) rfl)), rfl, hnm⟩) (hw _ (List.mem_of_getElem? (i := 1) rfl)) (ty := (.array .long)) (by decide) rfl rfl (g := (mkF m 16 #[.val (.ref a5), .val (.int (1024 : Int32))] [(.ref po), (.ref a5)])) rfl rfl (hb hby own_d2_16)
  have E_a5_152 : Exa Z h151 a5 "dev/millrace/Batch" := Exa.wr W151 E_a5_138
  have F_a5_events_153 : Fld Z h151 a5 "dev/millrace/Batch" "events" "[Ljava/lang/Object;" (.ref ev) := Fld.other W151 F_a5_events_139 (Or.inr (slot_ne (t := (.array (.object "java/lang/Object"))) (t' := (.array .long)) (Or.inr (hw _ (List.mem_of_getElem? (i := 15) rfl))) (Or.inr (hw _ (List.mem_of_getElem? (i := 18) rfl))) (by decide) (by decide) (by decide)))
  have F_a5_positions_154 : Fld Z h151 a5 "dev/millrace/Batch" "positions" "[J" (.ref po) := Fld.same W151 F_a5_positions_140
  have F_a5_keys_155 : Fld Z h151 a5 "dev/millrace/Batch" "keys" "[Ljava/lang/Object;" (.null) := Fld.other W151 F_a5_keys_141 (Or.inr (slot_ne (t := (.array (.object "java/lang/Object"))) (t' := (.array .long)) (Or.inl (hw _ (List.mem_of_getElem? (i := 32) rfl))) (Or.inr (hw _ (List.mem_of_getElem? (i := 18) rfl))) (by decide) (by decide) (by decide)))
  have F_a5_lanes_156 : Fld Z h151 a5 "dev/millrace/Batch" "lanes" "[I" (.null) := Fld.other W151 F_a5_lanes_142 (Or.inr (slot_ne (t := (.array .int)) (t' := (.array .long)) (Or.inl (hw _ (List.mem_of_getElem? (i := 34) rfl))) (Or.inr (hw _ (List.mem_of_getElem? (i := 18) rfl))) (by decide) (by decide) (by decide)))
  have F_a5_inputs_157 : Fld Z h151 a5 "dev/millrace/Batch" "inputs" "[Ldev/millrace/Source$Input;" (.null) := Fld.other W151 F_a5_inputs_143 (Or.inr (slot_ne (t := (.array (.object "dev/millrace/Source$Input"))) (t' := (.array .long)) (Or.inl (hw _ (List.mem_of_getElem? (i := 36) rfl))) (Or.inr (hw _ (List.mem_of_getElem? (i := 18) rfl))) (by decide) (by decide) (by decide)))
  have F_a5_numbers_158 : Fld Z h151 a5 "dev/millrace/Batch" "numbers" "[J" (.null) := Fld.other W151 F_a5_numbers_144 (Or.inr (slot_ne (t := (.array .long)) (t' := (.array .long)) (Or.inl (hw _ (List.mem_of_getElem? (i := 38) rfl))) (Or.inr (hw _ (List.mem_of_getElem? (i := 18) rfl))) (by decide) (by decide) (by decide)))
  have F_a5_size_159 : Fld Z h151 a5 "dev/millrace/Batch" "size" "I" (.int 0) := Fld.other W151 F_a5_size_145 (Or.inr (slot_ne (t := .int) (t' := (.array .long)) (Or.inl (hw _ (List.mem_of_getElem? (i := 20) rfl))) (Or.inr (hw _ (List.mem_of_getElem? (i := 18) rfl))) (by decide) (by decide) (by decide)))
  have E_ev_160 : Exa Z h151 ev "[Ljava/lang/Object;" := Exa.wr W151 E_ev_146
  have V_ev_161 : own_Av Z h151 ev cA110 (.object "java/lang/Object") 1024 (fun _ => Value.null) := own_Av.other W151 V_ev_147 (Ne.symm ne111)
  have E_po_162 : Exa Z h151 po "[J" := Exa.wr W151 E_po_149
  have V_po_163 : own_Av Z h151 po cA135 .long 1024 (fun _ => defaultValue .long) := own_Av.other W151 V_po_150 (Ne.symm ne136)
  have N164 := Fr.snoc X151 N134 g9
  have Z164 : n0 ≤ h151.size := by rw [W151.size]; exact Z148
  have K164 : Keep h0 h151 [a5] := Keep.wr K148 W151 (Or.inl (by simp))
  refine own_go st151 ?_
  show own_Go p.tables e below _ (T151.setTop (mkF m 19 #[.val (.ref a5), .val (.int (1024 : Int32))] []))
  exact own_retV X151 hx hlk hret (hb hby own_d2_19) (by rw [e151]; exact ⟨ev, po, _, _, rfl, N164, K164, kb_ev, kb_po, ne137, ⟨E_a5_152, F_a5_events_153, F_a5_positions_154, F_a5_keys_155, F_a5_lanes_156, F_a5_inputs_157, F_a5_numbers_158, F_a5_size_159⟩, V_ev_161, OV, V_po_163⟩) (by decide) (by decide)
theorem own_rm1_ef (m : MethodId) (a5 : Addr)  : entryFrame m #[(.ref a5)] 1 = mkF m 0 #[.val (.ref a5)] [] := by first | (simp [entryFrame, mkF, argsToLocals, Value.category, maxLocals]; done) | rfl
set_option maxRecDepth 65536 in
set_option maxHeartbeats 40000000 in
theorem own_rm1 (l : Launch) (Z : State) (a0 : Array Value) (hw : ∀ d ∈ tables_1, d.before a0 Z = true) (a5 : Addr) (h0 : Heap) (n0 : Nat) (Z0 : n0 ≤ h0.size) (B : own_Bt Z h0 a5 .null .null 0) (g9 : n0 ≤ a5) :
    own_Met l (⟨"dev/millrace/Batch", "<init>", "()V"⟩ : MethodName) (Jvm.Cond.code (⟨"dev/millrace/Batch", "<init>", "()V"⟩ : MethodName) prog_1_method_1_code 1 none :: []) ({ frames := 2, cells := 2, slots := 2048, locals := 25 } : Room) Z h0 #[(.ref a5)] (fun v h L => ∃ ev po kE kP, v = none ∧ Fr n0 L ∧ Keep h0 h [a5] ∧ h0.size ≤ ev ∧ h0.size ≤ po ∧ ev ≠ po ∧ own_Bt Z h a5 (.ref ev) (.ref po) 0 ∧ own_Av Z h ev kE (.object "java/lang/Object") 1024 (fun _ => .null) ∧ Ovr Z kE "java/lang/Object" ∧ own_Av Z h po kP .long 1024 (fun _ => .long 0)) := by
  refine own_body (pn := own_pn_1) ?_
  intro p e s m below meth c s₁ hx hby hml hown hnm hret hlk hZ X0 e0
  have N0 := Fr.nil n0
  refine own_go (fun _ kont => castTop (own_rm1_ef m a5 ) kont) ?_
  show own_Go p.tables e below _ (s₁.setTop (mkF m 0 #[.val (.ref a5)] []))
  refine own_go (fun _ kont => XS.aloadN X0.here hx rfl (hb hby own_d1_0) rfl rfl kont) ?_
  show own_Go p.tables e below _ (s₁.setTop (mkF m 1 #[.val (.ref a5)] [(.ref a5)]))
  refine own_go (fun _ kont => XS.sipush X0.here hx rfl (hb hby own_d1_1) kont) ?_
  show own_Go p.tables e below _ (s₁.setTop (mkF m 4 #[.val (.ref a5)] [(.int (1024 : Int32)), (.ref a5)]))
  -- the other constructor
  refine own_callI X0 hx hZ (y := (⟨"dev/millrace/Batch", "<init>", "(I)V"⟩ : MethodName)) (argsL := [(.int (1024 : Int32))]) (rest := []) (W := 0) hown (hw _ (List.mem_of_getElem? (i := 6) rfl)) (hw _ (List.mem_of_getElem? (i := 7) rfl)) (hw _ (List.mem_of_getElem? (i := 8) rfl)) (hw _ (List.mem_of_getElem? (i := 2) rfl)) rfl (by decide) (own_rm2 l Z a0 hw a5 h0 n0 Z0 B g9) e0 (by decide) (by decide) (by decide) (by decide) (by rw [hml]; rfl) (lenOf own_pd__I_V rfl) rfl (Nat.le_of_eq rfl) (hb hby own_d1_4) ?_
  rintro _ T165 L165 X165 ⟨ev, po, kE, kP, rfl, N1, q⟩
  show own_Go p.tables e below _ (T165.setTop (mkF m 7 #[.val (.ref a5)] []))
  exact own_retV X165 hx hlk hret (hb hby own_d1_7) (⟨ev, po, kE, kP, rfl, Fr.app N0 N1, q⟩) (by decide) (by decide)
theorem own_rm4_ef (m : MethodId) (a5 : Addr) (x5 : Addr) (q5 : Int64)  : entryFrame m #[(.ref a5), (.ref x5), (.long q5)] 4 = mkF m 0 #[.val (.ref a5), .val (.ref x5), .val (.long q5), .second] [] := by first | (simp [entryFrame, mkF, argsToLocals, Value.category, maxLocals]; done) | rfl
set_option maxRecDepth 65536 in
set_option maxHeartbeats 40000000 in
theorem own_rm4 (l : Launch) (Z : State) (a0 : Array Value) (hw : ∀ d ∈ tables_1, d.before a0 Z = true) (a5 : Addr) (x5 : Addr) (q5 : Int64) (h0 : Heap) (n0 : Nat) (Z0 : n0 ≤ h0.size) (ev po : Addr) (kE kP : ClassId) (k : Int32) (i : Nat) (f g : Nat → Value) (B : own_Bt Z h0 a5 (.ref ev) (.ref po) k) (V1 : own_Av Z h0 ev kE (.object "java/lang/Object") 1024 f) (V2 : own_Av Z h0 po kP .long 1024 g) (S : Sto Z h0 ev (.ref x5)) (hk : ¬ k < 0) (hi : k.toNatClampNeg = i) (hl : i < 1024) (g1 : n0 ≤ a5) (g2 : n0 ≤ ev) (g3 : n0 ≤ po) (n1 : a5 ≠ ev) (n2 : a5 ≠ po) (n3 : ev ≠ po) :
    own_Met l (⟨"dev/millrace/Batch", "add", "(Ljava/lang/Object;J)Z"⟩ : MethodName) (Jvm.Cond.code (⟨"dev/millrace/Batch", "add", "(Ljava/lang/Object;J)Z"⟩ : MethodName) prog_1_method_3_code 4 (some .boolean) :: []) ({ frames := 0, cells := 0, slots := 0, locals := 0 } : Room) Z h0 #[(.ref a5), (.ref x5), (.long q5)] (fun v h L => v = some (.int (own_b (k + 1 = 1024))) ∧ Fr n0 L ∧ Keep h0 h [a5, ev, po] ∧ own_Bt Z h a5 (.ref ev) (.ref po) (k + 1) ∧ own_Av Z h ev kE (.object "java/lang/Object") 1024 (fun y => if y = i then .ref x5 else f y) ∧ own_Av Z h po kP .long 1024 (fun y => if y = i then .long q5 else g y)) := by
  refine own_body (pn := own_pn_4) ?_
  intro p e s m below meth c s₁ hx hby hml hown hnm hret hlk hZ X0 e0
  have N0 := Fr.nil n0
  refine own_go (fun _ kont => castTop (own_rm4_ef m a5 x5 q5 ) kont) ?_
  show own_Go p.tables e below _ (s₁.setTop (mkF m 0 #[.val (.ref a5), .val (.ref x5), .val (.long q5), .second] []))
  have K0 : Keep h0 h0 [a5, ev, po] := Keep.refl _ _
  obtain ⟨E_166, F0_167, F1_168, F2_169, F3_170, F4_171, F5_172, F6_173⟩ := B
  refine own_go (fun _ kont => XS.aloadN X0.here hx rfl (hb hby own_d4_0) rfl rfl kont) ?_
  show own_Go p.tables e below _ (s₁.setTop (mkF m 1 #[.val (.ref a5), .val (.ref x5), .val (.long q5), .second] [(.ref a5)]))
  obtain ⟨T174, X174, e174, st174⟩ := getF X0 hx hZ hown (host := "") (Or.inl (hw _ (List.mem_of_getElem? (i := 14) rfl))) Via.refl e0 F0_167 (g := (mkF m 1 #[.val (.ref a5), .val (.ref x5), .val (.long q5), .second] [(.ref a5)])) rfl rfl (hb hby own_d4_1)
  refine own_go st174 ?_
  show own_Go p.tables e below _ (T174.setTop (mkF m 4 #[.val (.ref a5), .val (.ref x5), .val (.long q5), .second] [(.ref ev)]))
  refine own_go (fun _ kont => XS.aloadN X174.here hx rfl (hb hby own_d4_4) rfl rfl kont) ?_
  show own_Go p.tables e below _ (T174.setTop (mkF m 5 #[.val (.ref a5), .val (.ref x5), .val (.long q5), .second] [(.ref a5), (.ref ev)]))
  obtain ⟨T175, X175, e175, st175⟩ := getF X174 hx hZ hown (host := "") (Or.inl (hw _ (List.mem_of_getElem? (i := 27) rfl))) Via.refl e174 F6_173 (g := (mkF m 5 #[.val (.ref a5), .val (.ref x5), .val (.long q5), .second] [(.ref a5), (.ref ev)])) rfl rfl (hb hby own_d4_5)
  refine own_go st175 ?_
  show own_Go p.tables e below _ (T175.setTop (mkF m 8 #[.val (.ref a5), .val (.ref x5), .val (.long q5), .second] [(.int k), (.ref ev)]))
  refine own_go (fun _ kont => XS.aloadN X175.here hx rfl (hb hby own_d4_8) rfl rfl kont) ?_
  show own_Go p.tables e below _ (T175.setTop (mkF m 9 #[.val (.ref a5), .val (.ref x5), .val (.long q5), .second] [(.ref x5), (.int k), (.ref ev)]))
  refine own_aast X175 hx hZ e175 V1 rfl S i hk hi hl (hb hby own_d4_9) ?_
  intro T176 h176 X176 e176 W176
  have E_a5_177 : Exa Z h176 a5 "dev/millrace/Batch" := Exa.wr W176 E_166
  have F_a5_events_178 : Fld Z h176 a5 "dev/millrace/Batch" "events" "[Ljava/lang/Object;" (.ref ev) := Fld.other W176 F0_167 (Or.inl n1)
  have F_a5_positions_179 : Fld Z h176 a5 "dev/millrace/Batch" "positions" "[J" (.ref po) := Fld.other W176 F1_168 (Or.inl n1)
  have F_a5_keys_180 : Fld Z h176 a5 "dev/millrace/Batch" "keys" "[Ljava/lang/Object;" (.null) := Fld.other W176 F2_169 (Or.inl n1)
  have F_a5_lanes_181 : Fld Z h176 a5 "dev/millrace/Batch" "lanes" "[I" (.null) := Fld.other W176 F3_170 (Or.inl n1)
  have F_a5_inputs_182 : Fld Z h176 a5 "dev/millrace/Batch" "inputs" "[Ldev/millrace/Source$Input;" (.null) := Fld.other W176 F4_171 (Or.inl n1)
  have F_a5_numbers_183 : Fld Z h176 a5 "dev/millrace/Batch" "numbers" "[J" (.null) := Fld.other W176 F5_172 (Or.inl n1)
  have F_a5_size_184 : Fld Z h176 a5 "dev/millrace/Batch" "size" "I" (.int k) := Fld.other W176 F6_173 (Or.inl n1)
  have V_ev_185 : own_Av Z h176 ev kE (.object "java/lang/Object") 1024 (fun y => if y = i then .ref x5 else f y) := own_Av.congr (own_Av.set V1 W176 hl) (fun _ _ => rfl)
  have V_po_186 : own_Av Z h176 po kP .long 1024 (g) := own_Av.other W176 V2 (Ne.symm n3)
  have N187 := Fr.snoc X176 N0 g2
  have Z187 : n0 ≤ h176.size := by rw [W176.size]; exact Z0
  have K187 : Keep h0 h176 [a5, ev, po] := Keep.wr K0 W176 (Or.inl (by simp))
  show own_Go p.tables e below _ (T176.setTop (mkF m 10 #[.val (.ref a5), .val (.ref x5), .val (.long q5), .second] []))
  refine own_go (fun _ kont => XS.aloadN X176.here hx rfl (hb hby own_d4_10) rfl rfl kont) ?_
  show own_Go p.tables e below _ (T176.setTop (mkF m 11 #[.val (.ref a5), .val (.ref x5), .val (.long q5), .second] [(.ref a5)]))
  obtain ⟨T188, X188, e188, st188⟩ := getF X176 hx hZ hown (host := "") (Or.inl (hw _ (List.mem_of_getElem? (i := 17) rfl))) Via.refl e176 F_a5_positions_179 (g := (mkF m 11 #[.val (.ref a5), .val (.ref x5), .val (.long q5), .second] [(.ref a5)])) rfl rfl (hb hby own_d4_11)
  refine own_go st188 ?_
  show own_Go p.tables e below _ (T188.setTop (mkF m 14 #[.val (.ref a5), .val (.ref x5), .val (.long q5), .second] [(.ref po)]))
  refine own_go (fun _ kont => XS.aloadN X188.here hx rfl (hb hby own_d4_14) rfl rfl kont) ?_
  show own_Go p.tables e below _ (T188.setTop (mkF m 15 #[.val (.ref a5), .val (.ref x5), .val (.long q5), .second] [(.ref a5), (.ref po)]))
  obtain ⟨T189, X189, e189, st189⟩ := getF X188 hx hZ hown (host := "") (Or.inl (hw _ (List.mem_of_getElem? (i := 27) rfl))) Via.refl e188 F_a5_size_184 (g := (mkF m 15 #[.val (.ref a5), .val (.ref x5), .val (.long q5), .second] [(.ref a5), (.ref po)])) rfl rfl (hb hby own_d4_15)
  refine own_go st189 ?_
  show own_Go p.tables e below _ (T189.setTop (mkF m 18 #[.val (.ref a5), .val (.ref x5), .val (.long q5), .second] [(.int k), (.ref po)]))
  refine own_go (fun _ kont => XS.lloadN X189.here hx rfl (hb hby own_d4_18) rfl kont) ?_
  show own_Go p.tables e below _ (T189.setTop (mkF m 19 #[.val (.ref a5), .val (.ref x5), .val (.long q5), .second] [(.long q5), (.int k), (.ref po)]))
  refine own_last X189 hx hZ e189 V_po_186 i hk hi hl (hb hby own_d4_19) ?_
  intro T190 h190 X190 e190 W190
  have E_a5_191 : Exa Z h190 a5 "dev/millrace/Batch" := Exa.wr W190 E_a5_177
  have F_a5_events_192 : Fld Z h190 a5 "dev/millrace/Batch" "events" "[Ljava/lang/Object;" (.ref ev) := Fld.other W190 F_a5_events_178 (Or.inl n2)
  have F_a5_positions_193 : Fld Z h190 a5 "dev/millrace/Batch" "positions" "[J" (.ref po) := Fld.other W190 F_a5_positions_179 (Or.inl n2)
  have F_a5_keys_194 : Fld Z h190 a5 "dev/millrace/Batch" "keys" "[Ljava/lang/Object;" (.null) := Fld.other W190 F_a5_keys_180 (Or.inl n2)
  have F_a5_lanes_195 : Fld Z h190 a5 "dev/millrace/Batch" "lanes" "[I" (.null) := Fld.other W190 F_a5_lanes_181 (Or.inl n2)
  have F_a5_inputs_196 : Fld Z h190 a5 "dev/millrace/Batch" "inputs" "[Ldev/millrace/Source$Input;" (.null) := Fld.other W190 F_a5_inputs_182 (Or.inl n2)
  have F_a5_numbers_197 : Fld Z h190 a5 "dev/millrace/Batch" "numbers" "[J" (.null) := Fld.other W190 F_a5_numbers_183 (Or.inl n2)
  have F_a5_size_198 : Fld Z h190 a5 "dev/millrace/Batch" "size" "I" (.int k) := Fld.other W190 F_a5_size_184 (Or.inl n2)
  have V_ev_199 : own_Av Z h190 ev kE (.object "java/lang/Object") 1024 (fun y => if y = i then .ref x5 else f y) := own_Av.other W190 V_ev_185 n3
  have V_po_200 : own_Av Z h190 po kP .long 1024 (fun y => if y = i then .long q5 else g y) := own_Av.congr (own_Av.set V_po_186 W190 hl) (fun _ _ => rfl)
  have N201 := Fr.snoc X190 N187 g3
  have Z201 : n0 ≤ h190.size := by rw [W190.size]; exact Z187
  have K201 : Keep h0 h190 [a5, ev, po] := Keep.wr K187 W190 (Or.inl (by simp))
  show own_Go p.tables e below _ (T190.setTop (mkF m 20 #[.val (.ref a5), .val (.ref x5), .val (.long q5), .second] []))
  refine own_go (fun _ kont => XS.aloadN X190.here hx rfl (hb hby own_d4_20) rfl rfl kont) ?_
  show own_Go p.tables e below _ (T190.setTop (mkF m 21 #[.val (.ref a5), .val (.ref x5), .val (.long q5), .second] [(.ref a5)]))
  refine own_go (fun _ kont => XS.dup X190.here hx rfl (hb hby own_d4_21) rfl rfl kont) ?_
  show own_Go p.tables e below _ (T190.setTop (mkF m 22 #[.val (.ref a5), .val (.ref x5), .val (.long q5), .second] [(.ref a5), (.ref a5)]))
  obtain ⟨T202, X202, e202, st202⟩ := getF X190 hx hZ hown (host := "") (Or.inl (hw _ (List.mem_of_getElem? (i := 27) rfl))) Via.refl e190 F_a5_size_198 (g := (mkF m 22 #[.val (.ref a5), .val (.ref x5), .val (.long q5), .second] [(.ref a5), (.ref a5)])) rfl rfl (hb hby own_d4_22)
  refine own_go st202 ?_
  show own_Go p.tables e below _ (T202.setTop (mkF m 25 #[.val (.ref a5), .val (.ref x5), .val (.long q5), .second] [(.int k), (.ref a5)]))
  refine own_go (fun _ kont => XS.iconst X202.here hx rfl (hb hby own_d4_25) kont) ?_
  show own_Go p.tables e below _ (T202.setTop (mkF m 26 #[.val (.ref a5), .val (.ref x5), .val (.long q5), .second] [(.int (1 : Int32)), (.int k), (.ref a5)]))
  refine own_go (fun _ kont => XS.iadd X202.here hx rfl (hb hby own_d4_26) rfl kont) ?_
  show own_Go p.tables e below _ (T202.setTop (mkF m 27 #[.val (.ref a5), .val (.ref x5), .val (.long q5), .second] [(.int (k + (1 : Int32))), (.ref a5)]))
  obtain ⟨T203, h203, X203, e203, W203, st203⟩ := putF X202 hx hZ hown (host := "") (Or.inl (hw _ (List.mem_of_getElem? (i := 27) rfl))) Via.refl e202 F_a5_size_198 E_a5_191 (Or.inl (hw _ (List.mem_of_getElem? (i := 20) rfl))) (hw _ (List.mem_of_getElem? (i := 1) rfl)) (ty := .int) (by decide) rfl rfl (g := (mkF m 27 #[.val (.ref a5), .val (.ref x5), .val (.long q5), .second] [(.int (k + (1 : Int32))), (.ref a5)])) rfl rfl (hb hby own_d4_27)
  have E_a5_204 : Exa Z h203 a5 "dev/millrace/Batch" := Exa.wr W203 E_a5_191
  have F_a5_events_205 : Fld Z h203 a5 "dev/millrace/Batch" "events" "[Ljava/lang/Object;" (.ref ev) := Fld.other W203 F_a5_events_192 (Or.inr (slot_ne (t := (.array (.object "java/lang/Object"))) (t' := .int) (Or.inr (hw _ (List.mem_of_getElem? (i := 15) rfl))) (Or.inl (hw _ (List.mem_of_getElem? (i := 20) rfl))) (by decide) (by decide) (by decide)))
  have F_a5_positions_206 : Fld Z h203 a5 "dev/millrace/Batch" "positions" "[J" (.ref po) := Fld.other W203 F_a5_positions_193 (Or.inr (slot_ne (t := (.array .long)) (t' := .int) (Or.inr (hw _ (List.mem_of_getElem? (i := 18) rfl))) (Or.inl (hw _ (List.mem_of_getElem? (i := 20) rfl))) (by decide) (by decide) (by decide)))
  have F_a5_keys_207 : Fld Z h203 a5 "dev/millrace/Batch" "keys" "[Ljava/lang/Object;" (.null) := Fld.other W203 F_a5_keys_194 (Or.inr (slot_ne (t := (.array (.object "java/lang/Object"))) (t' := .int) (Or.inl (hw _ (List.mem_of_getElem? (i := 32) rfl))) (Or.inl (hw _ (List.mem_of_getElem? (i := 20) rfl))) (by decide) (by decide) (by decide)))
  have F_a5_lanes_208 : Fld Z h203 a5 "dev/millrace/Batch" "lanes" "[I" (.null) := Fld.other W203 F_a5_lanes_195 (Or.inr (slot_ne (t := (.array .int)) (t' := .int) (Or.inl (hw _ (List.mem_of_getElem? (i := 34) rfl))) (Or.inl (hw _ (List.mem_of_getElem? (i := 20) rfl))) (by decide) (by decide) (by decide)))
  have F_a5_inputs_209 : Fld Z h203 a5 "dev/millrace/Batch" "inputs" "[Ldev/millrace/Source$Input;" (.null) := Fld.other W203 F_a5_inputs_196 (Or.inr (slot_ne (t := (.array (.object "dev/millrace/Source$Input"))) (t' := .int) (Or.inl (hw _ (List.mem_of_getElem? (i := 36) rfl))) (Or.inl (hw _ (List.mem_of_getElem? (i := 20) rfl))) (by decide) (by decide) (by decide)))
  have F_a5_numbers_210 : Fld Z h203 a5 "dev/millrace/Batch" "numbers" "[J" (.null) := Fld.other W203 F_a5_numbers_197 (Or.inr (slot_ne (t := (.array .long)) (t' := .int) (Or.inl (hw _ (List.mem_of_getElem? (i := 38) rfl))) (Or.inl (hw _ (List.mem_of_getElem? (i := 20) rfl))) (by decide) (by decide) (by decide)))
  have F_a5_size_211 : Fld Z h203 a5 "dev/millrace/Batch" "size" "I" (.int (k + (1 : Int32))) := Fld.same W203 F_a5_size_198
  have V_ev_212 : own_Av Z h203 ev kE (.object "java/lang/Object") 1024 (fun y => if y = i then .ref x5 else f y) := own_Av.other W203 V_ev_199 (Ne.symm n1)
  have V_po_213 : own_Av Z h203 po kP .long 1024 (fun y => if y = i then .long q5 else g y) := own_Av.other W203 V_po_200 (Ne.symm n2)
  have N214 := Fr.snoc X203 N201 g1
  have Z214 : n0 ≤ h203.size := by rw [W203.size]; exact Z201
  have K214 : Keep h0 h203 [a5, ev, po] := Keep.wr K201 W203 (Or.inl (by simp))
  refine own_go st203 ?_
  show own_Go p.tables e below _ (T203.setTop (mkF m 30 #[.val (.ref a5), .val (.ref x5), .val (.long q5), .second] []))
  refine own_go (fun _ kont => XS.aloadN X203.here hx rfl (hb hby own_d4_30) rfl rfl kont) ?_
  show own_Go p.tables e below _ (T203.setTop (mkF m 31 #[.val (.ref a5), .val (.ref x5), .val (.long q5), .second] [(.ref a5)]))
  obtain ⟨T215, X215, e215, st215⟩ := getF X203 hx hZ hown (host := "") (Or.inl (hw _ (List.mem_of_getElem? (i := 27) rfl))) Via.refl e203 F_a5_size_211 (g := (mkF m 31 #[.val (.ref a5), .val (.ref x5), .val (.long q5), .second] [(.ref a5)])) rfl rfl (hb hby own_d4_31)
  refine own_go st215 ?_
  show own_Go p.tables e below _ (T215.setTop (mkF m 34 #[.val (.ref a5), .val (.ref x5), .val (.long q5), .second] [(.int (k + (1 : Int32)))]))
  refine own_go (fun _ kont => XS.aloadN X215.here hx rfl (hb hby own_d4_34) rfl rfl kont) ?_
  show own_Go p.tables e below _ (T215.setTop (mkF m 35 #[.val (.ref a5), .val (.ref x5), .val (.long q5), .second] [(.ref a5), (.int (k + (1 : Int32)))]))
  obtain ⟨T216, X216, e216, st216⟩ := getF X215 hx hZ hown (host := "") (Or.inl (hw _ (List.mem_of_getElem? (i := 14) rfl))) Via.refl e215 F_a5_events_205 (g := (mkF m 35 #[.val (.ref a5), .val (.ref x5), .val (.long q5), .second] [(.ref a5), (.int (k + (1 : Int32)))])) rfl rfl (hb hby own_d4_35)
  refine own_go st216 ?_
  show own_Go p.tables e below _ (T216.setTop (mkF m 38 #[.val (.ref a5), .val (.ref x5), .val (.long q5), .second] [(.ref ev), (.int (k + (1 : Int32)))]))
  refine own_alen X216 hx hZ e216 V_ev_212 (1024 : Int32) (by decide) (hb hby own_d4_38) ?_
  show own_Go p.tables e below _ (T216.setTop (mkF m 39 #[.val (.ref a5), .val (.ref x5), .val (.long q5), .second] [(.int (1024 : Int32)), (.int (k + (1 : Int32)))]))
  by_cases b : (k + (1 : Int32)) = (1024 : Int32)
  · skip
    refine own_go (fun _ kont => XS.icmpNo X216.here hx rfl (hb hby own_d4_39) rfl (XT.ii_ne_f (b)) kont) ?_
    show own_Go p.tables e below _ (T216.setTop (mkF m 42 #[.val (.ref a5), .val (.ref x5), .val (.long q5), .second] []))
    refine own_go (fun _ kont => XS.iconst X216.here hx rfl (hb hby own_d4_42) kont) ?_
    show own_Go p.tables e below _ (T216.setTop (mkF m 43 #[.val (.ref a5), .val (.ref x5), .val (.long q5), .second] [(.int (1 : Int32))]))
    refine own_go (fun _ kont => XS.goto X216.here hx rfl (pc0 := 43) (pc' := 47) rfl (hb hby own_d4_43) (by decide) (by decide) kont) ?_
    show own_Go p.tables e below _ (T216.setTop (mkF m 47 #[.val (.ref a5), .val (.ref x5), .val (.long q5), .second] [(.int (1 : Int32))]))
    exact own_retI X216 hx hlk hret (by simp) rfl (hb hby own_d4_47) (by rw [e216]; exact ⟨own_1 b, N214, K214, ⟨E_a5_204, F_a5_events_205, F_a5_positions_206, F_a5_keys_207, F_a5_lanes_208, F_a5_inputs_209, F_a5_numbers_210, F_a5_size_211⟩, V_ev_212, V_po_213⟩) (by decide) (by decide)
  · skip
    refine own_go (fun _ kont => XS.icmpYes X216.here hx rfl (pc0 := 39) (pc' := 46) rfl (hb hby own_d4_39) rfl (XT.ii_ne_t (b)) (by decide) (by decide) kont) ?_
    show own_Go p.tables e below _ (T216.setTop (mkF m 46 #[.val (.ref a5), .val (.ref x5), .val (.long q5), .second] []))
    refine own_go (fun _ kont => XS.iconst X216.here hx rfl (hb hby own_d4_46) kont) ?_
    show own_Go p.tables e below _ (T216.setTop (mkF m 47 #[.val (.ref a5), .val (.ref x5), .val (.long q5), .second] [(.int (0 : Int32))]))
    exact own_retI X216 hx hlk hret (by simp) rfl (hb hby own_d4_47) (by rw [e216]; exact ⟨own_0 b, N214, K214, ⟨E_a5_204, F_a5_events_205, F_a5_positions_206, F_a5_keys_207, F_a5_lanes_208, F_a5_inputs_209, F_a5_numbers_210, F_a5_size_211⟩, V_ev_212, V_po_213⟩) (by decide) (by decide)
theorem own_rm0_ef (m : MethodId) (p1 : Int32) (q2 : Int64) (q3 : Int64)  : entryFrame m #[(.int p1), (.long q2), (.long q3)] maxLocals = mkF m 0 #[.val (.int p1), .val (.long q2), .second, .val (.long q3), .second, .unset, .unset, .unset, .unset, .unset, .unset, .unset] [] := by first | (simp [entryFrame, mkF, argsToLocals, Value.category, maxLocals]; done) | rfl
set_option maxRecDepth 65536 in
set_option maxHeartbeats 40000000 in
theorem own_rm0 (l : Launch) (Z : State) (a0 : Array Value) (hw : ∀ d ∈ tables_1, d.before a0 Z = true) (ws : List Jvm.Cond) (p1 : Int32) (q2 : Int64) (q3 : Int64) (h0 : Heap) (n0 : Nat) (Z0 : n0 ≤ h0.size)  :
    own_Met l x (Jvm.Cond.code x code maxLocals ret :: ws) room_1 Z h0 #[(.int p1), (.long q2), (.long q3)] (fun v h L => v = some (.int 1) ∧ Fr n0 L) := by
  refine own_body (pn := own_pn_0) ?_
  intro p e s m below meth c s₁ hx hby hml hown hnm hret hlk hZ X0 e0
  have N0 := Fr.nil n0
  refine own_go (fun _ kont => castTop (own_rm0_ef m p1 q2 q3 ) kont) ?_
  show own_Go p.tables e below _ (s₁.setTop (mkF m 0 #[.val (.int p1), .val (.long q2), .second, .val (.long q3), .second, .unset, .unset, .unset, .unset, .unset, .unset, .unset] []))
  refine own_go (fun _ kont => XS.iloadN X0.here hx rfl (hb hby at_0) rfl kont) ?_
  show own_Go p.tables e below _ (s₁.setTop (mkF m 1 #[.val (.int p1), .val (.long q2), .second, .val (.long q3), .second, .unset, .unset, .unset, .unset, .unset, .unset, .unset] [(.int p1)]))
  refine own_go (fun _ kont => XS.sipush X0.here hx rfl (hb hby at_1) kont) ?_
  show own_Go p.tables e below _ (s₁.setTop (mkF m 4 #[.val (.int p1), .val (.long q2), .second, .val (.long q3), .second, .unset, .unset, .unset, .unset, .unset, .unset, .unset] [(.int (1023 : Int32)), (.int p1)]))
  refine own_go (fun _ kont => XS.iand X0.here hx rfl (hb hby at_4) rfl kont) ?_
  show own_Go p.tables e below _ (s₁.setTop (mkF m 5 #[.val (.int p1), .val (.long q2), .second, .val (.long q3), .second, .unset, .unset, .unset, .unset, .unset, .unset, .unset] [(.int (p1 &&& (1023 : Int32)))]))
  obtain ⟨k, hk⟩ : ∃ z, z = p1 &&& (1023 : Int32) := ⟨_, rfl⟩
  rw [← hk]
  show own_Go p.tables e below _ (s₁.setTop (mkF m 5 #[.val (.int p1), .val (.long q2), .second, .val (.long q3), .second, .unset, .unset, .unset, .unset, .unset, .unset, .unset] [(.int k)]))
  have kr := own_k p1 k hk
  obtain ⟨i, ki⟩ : ∃ i : Nat, k.toInt = i := ⟨k.toInt.toNat, by omega⟩
  have i0 : i < 1024 := by omega
  obtain ⟨k0, k1⟩ := own_ix k i ki
  refine own_go (fun _ kont => XS.istore X0.here hx rfl (hb hby at_5) rfl (l' := #[.val (.int p1), .val (.long q2), .second, .val (.long q3), .second, .val (.int k), .unset, .unset, .unset, .unset, .unset, .unset]) rfl kont) ?_
  show own_Go p.tables e below _ (s₁.setTop (mkF m 7 #[.val (.int p1), .val (.long q2), .second, .val (.long q3), .second, .val (.int k), .unset, .unset, .unset, .unset, .unset, .unset] []))
  obtain ⟨T217, h217, X217, e217, E217, A217, D217, -, st217⟩ := newO X0 hx hZ hown (hw _ (List.mem_of_getElem? (i := 0) rfl)) (hw _ (List.mem_of_getElem? (i := 1) rfl)) (hw _ (List.mem_of_getElem? (i := 2) rfl)) e0 (g := (mkF m 7 #[.val (.int p1), .val (.long q2), .second, .val (.long q3), .second, .val (.int k), .unset, .unset, .unset, .unset, .unset, .unset] [])) rfl (hb hby at_7) (by decide) (by decide)
  obtain ⟨a1, g217⟩ : ∃ z, z = h0.size := ⟨_, rfl⟩
  rw [← g217] at A217 D217 st217
  have ge_a1 : n0 ≤ a1 := by rw [g217]; exact Z0
  have Z218 : n0 ≤ h217.size := Nat.le_trans Z0 E217.1
  have E_a1_219 : Exa Z h217 a1 "dev/millrace/Batch" := A217
  have F_a1_events_220 : Fld Z h217 a1 "dev/millrace/Batch" "events" "[Ljava/lang/Object;" (.null) := D217 (Or.inr (hw _ (List.mem_of_getElem? (i := 15) rfl))) (ty := (.array (.object "java/lang/Object"))) (by decide)
  have F_a1_positions_221 : Fld Z h217 a1 "dev/millrace/Batch" "positions" "[J" (.null) := D217 (Or.inr (hw _ (List.mem_of_getElem? (i := 18) rfl))) (ty := (.array .long)) (by decide)
  have F_a1_size_222 : Fld Z h217 a1 "dev/millrace/Batch" "size" "I" (.int (0 : Int32)) := D217 (Or.inl (hw _ (List.mem_of_getElem? (i := 20) rfl))) (ty := .int) (by decide)
  have F_a1_keys_223 : Fld Z h217 a1 "dev/millrace/Batch" "keys" "[Ljava/lang/Object;" (.null) := D217 (Or.inl (hw _ (List.mem_of_getElem? (i := 32) rfl))) (ty := (.array (.object "java/lang/Object"))) (by decide)
  have F_a1_lanes_224 : Fld Z h217 a1 "dev/millrace/Batch" "lanes" "[I" (.null) := D217 (Or.inl (hw _ (List.mem_of_getElem? (i := 34) rfl))) (ty := (.array .int)) (by decide)
  have F_a1_inputs_225 : Fld Z h217 a1 "dev/millrace/Batch" "inputs" "[Ldev/millrace/Source$Input;" (.null) := D217 (Or.inl (hw _ (List.mem_of_getElem? (i := 36) rfl))) (ty := (.array (.object "dev/millrace/Source$Input"))) (by decide)
  have F_a1_numbers_226 : Fld Z h217 a1 "dev/millrace/Batch" "numbers" "[J" (.null) := D217 (Or.inl (hw _ (List.mem_of_getElem? (i := 38) rfl))) (ty := (.array .long)) (by decide)
  refine own_go st217 ?_
  show own_Go p.tables e below _ (T217.setTop (mkF m 10 #[.val (.int p1), .val (.long q2), .second, .val (.long q3), .second, .val (.int k), .unset, .unset, .unset, .unset, .unset, .unset] [(.ref a1)]))
  refine own_go (fun _ kont => XS.dup X217.here hx rfl (hb hby at_10) rfl rfl kont) ?_
  show own_Go p.tables e below _ (T217.setTop (mkF m 11 #[.val (.int p1), .val (.long q2), .second, .val (.long q3), .second, .val (.int k), .unset, .unset, .unset, .unset, .unset, .unset] [(.ref a1), (.ref a1)]))
  have B1 : own_Bt Z h217 a1 .null .null 0 := ⟨E_a1_219, F_a1_events_220, F_a1_positions_221, F_a1_keys_223, F_a1_lanes_224, F_a1_inputs_225, F_a1_numbers_226, F_a1_size_222⟩
  refine own_callI X217 hx hZ (y := (⟨"dev/millrace/Batch", "<init>", "()V"⟩ : MethodName)) (argsL := []) (rest := [(.ref a1)]) (W := 1) hown (hw _ (List.mem_of_getElem? (i := 3) rfl)) (hw _ (List.mem_of_getElem? (i := 4) rfl)) (hw _ (List.mem_of_getElem? (i := 5) rfl)) (hw _ (List.mem_of_getElem? (i := 2) rfl)) rfl (by decide) (own_rm1 l Z a0 hw a1 h217 n0 Z218 B1 ge_a1) e217 (by decide) (by decide) (by decide) (by decide) (by rw [hml]; rfl) (lenOf own_pd___V rfl) rfl (Nat.le_of_eq rfl) (hb hby at_11) ?_
  rintro _ T227 L227 X227 ⟨ev, po, kE, kP, rfl, N227, K227, gv, gp, nvp, B227, V1_, OV, V2_⟩
  have NA227 := Fr.app N0 N227
  have E_a1_228 : Exa Z T227.heap a1 "dev/millrace/Batch" := Exa.keep E_a1_219 K227
  have Z229 : n0 ≤ T227.heap.size := Nat.le_trans Z218 K227.1
  show own_Go p.tables e below _ (T227.setTop (mkF m 14 #[.val (.int p1), .val (.long q2), .second, .val (.long q3), .second, .val (.int k), .unset, .unset, .unset, .unset, .unset, .unset] [(.ref a1)]))
  have ne230 : a1 ≠ ev := Nat.ne_of_lt (Nat.lt_of_lt_of_le E_a1_219.lt gv)
  have ge_ev : n0 ≤ ev := Nat.le_trans Z218 gv
  have ne231 : a1 ≠ po := Nat.ne_of_lt (Nat.lt_of_lt_of_le E_a1_219.lt gp)
  have ge_po : n0 ≤ po := Nat.le_trans Z218 gp
  obtain ⟨E_232, F0_233, F1_234, F2_235, F3_236, F4_237, F5_238, F6_239⟩ := B227
  refine own_go (fun _ kont => XS.astore X227.here hx rfl (hb hby at_14) rfl rfl (l' := #[.val (.int p1), .val (.long q2), .second, .val (.long q3), .second, .val (.int k), .val (.ref a1), .unset, .unset, .unset, .unset, .unset]) rfl kont) ?_
  show own_Go p.tables e below _ (T227.setTop (mkF m 16 #[.val (.int p1), .val (.long q2), .second, .val (.long q3), .second, .val (.int k), .val (.ref a1), .unset, .unset, .unset, .unset, .unset] []))
  refine own_go (fun _ kont => XS.aload X227.here hx rfl (hb hby at_16) rfl rfl kont) ?_
  show own_Go p.tables e below _ (T227.setTop (mkF m 18 #[.val (.int p1), .val (.long q2), .second, .val (.long q3), .second, .val (.int k), .val (.ref a1), .unset, .unset, .unset, .unset, .unset] [(.ref a1)]))
  refine own_go (fun _ kont => XS.iload X227.here hx rfl (hb hby at_18) rfl kont) ?_
  show own_Go p.tables e below _ (T227.setTop (mkF m 20 #[.val (.int p1), .val (.long q2), .second, .val (.long q3), .second, .val (.int k), .val (.ref a1), .unset, .unset, .unset, .unset, .unset] [(.int k), (.ref a1)]))
  obtain ⟨T240, h240, X240, e240, W240, st240⟩ := putF X227 hx hZ hown (host := "") (Or.inl (hw _ (List.mem_of_getElem? (i := 19) rfl))) Via.refl rfl F6_239 E_232 (Or.inl (hw _ (List.mem_of_getElem? (i := 20) rfl))) (hw _ (List.mem_of_getElem? (i := 1) rfl)) (ty := .int) (by decide) rfl rfl (g := (mkF m 20 #[.val (.int p1), .val (.long q2), .second, .val (.long q3), .second, .val (.int k), .val (.ref a1), .unset, .unset, .unset, .unset, .unset] [(.int k), (.ref a1)])) rfl rfl (hb hby at_20)
  have E_a1_241 : Exa Z h240 a1 "dev/millrace/Batch" := Exa.wr W240 E_232
  have F_a1_events_242 : Fld Z h240 a1 "dev/millrace/Batch" "events" "[Ljava/lang/Object;" (.ref ev) := Fld.other W240 F0_233 (Or.inr (slot_ne (t := (.array (.object "java/lang/Object"))) (t' := .int) (Or.inr (hw _ (List.mem_of_getElem? (i := 15) rfl))) (Or.inl (hw _ (List.mem_of_getElem? (i := 20) rfl))) (by decide) (by decide) (by decide)))
  have F_a1_positions_243 : Fld Z h240 a1 "dev/millrace/Batch" "positions" "[J" (.ref po) := Fld.other W240 F1_234 (Or.inr (slot_ne (t := (.array .long)) (t' := .int) (Or.inr (hw _ (List.mem_of_getElem? (i := 18) rfl))) (Or.inl (hw _ (List.mem_of_getElem? (i := 20) rfl))) (by decide) (by decide) (by decide)))
  have F_a1_keys_244 : Fld Z h240 a1 "dev/millrace/Batch" "keys" "[Ljava/lang/Object;" (.null) := Fld.other W240 F2_235 (Or.inr (slot_ne (t := (.array (.object "java/lang/Object"))) (t' := .int) (Or.inl (hw _ (List.mem_of_getElem? (i := 32) rfl))) (Or.inl (hw _ (List.mem_of_getElem? (i := 20) rfl))) (by decide) (by decide) (by decide)))
  have F_a1_lanes_245 : Fld Z h240 a1 "dev/millrace/Batch" "lanes" "[I" (.null) := Fld.other W240 F3_236 (Or.inr (slot_ne (t := (.array .int)) (t' := .int) (Or.inl (hw _ (List.mem_of_getElem? (i := 34) rfl))) (Or.inl (hw _ (List.mem_of_getElem? (i := 20) rfl))) (by decide) (by decide) (by decide)))
  have F_a1_inputs_246 : Fld Z h240 a1 "dev/millrace/Batch" "inputs" "[Ldev/millrace/Source$Input;" (.null) := Fld.other W240 F4_237 (Or.inr (slot_ne (t := (.array (.object "dev/millrace/Source$Input"))) (t' := .int) (Or.inl (hw _ (List.mem_of_getElem? (i := 36) rfl))) (Or.inl (hw _ (List.mem_of_getElem? (i := 20) rfl))) (by decide) (by decide) (by decide)))
  have F_a1_numbers_247 : Fld Z h240 a1 "dev/millrace/Batch" "numbers" "[J" (.null) := Fld.other W240 F5_238 (Or.inr (slot_ne (t := (.array .long)) (t' := .int) (Or.inl (hw _ (List.mem_of_getElem? (i := 38) rfl))) (Or.inl (hw _ (List.mem_of_getElem? (i := 20) rfl))) (by decide) (by decide) (by decide)))
  have F_a1_size_248 : Fld Z h240 a1 "dev/millrace/Batch" "size" "I" (.int k) := Fld.same W240 F6_239
  have V_ev_249 : own_Av Z h240 ev kE (.object "java/lang/Object") 1024 (fun _ => .null) := own_Av.other W240 V1_ (Ne.symm ne230)
  have V_po_250 : own_Av Z h240 po kP .long 1024 (fun _ => .long 0) := own_Av.other W240 V2_ (Ne.symm ne231)
  have N251 := Fr.snoc X240 NA227 ge_a1
  have Z251 : n0 ≤ h240.size := by rw [W240.size]; exact Z229
  refine own_go st240 ?_
  show own_Go p.tables e below _ (T240.setTop (mkF m 23 #[.val (.int p1), .val (.long q2), .second, .val (.long q3), .second, .val (.int k), .val (.ref a1), .unset, .unset, .unset, .unset, .unset] []))
  refine own_go (fun _ kont => XS.iconst X240.here hx rfl (hb hby at_23) kont) ?_
  show own_Go p.tables e below _ (T240.setTop (mkF m 24 #[.val (.int p1), .val (.long q2), .second, .val (.long q3), .second, .val (.int k), .val (.ref a1), .unset, .unset, .unset, .unset, .unset] [(.int (1 : Int32))]))
  obtain ⟨T252, h252, cA252, X252, e252, E252, A252, B252, st252⟩ := newPE X240 hx hZ (hw _ (List.mem_of_getElem? (i := 21) rfl)) e240 (g := (mkF m 24 #[.val (.int p1), .val (.long q2), .second, .val (.long q3), .second, .val (.int k), .val (.ref a1), .unset, .unset, .unset, .unset, .unset] [(.int (1 : Int32))])) rfl (hb hby at_24) rfl (by decide) (cap := 1) (by decide) (by decide) (by decide) (by decide) rfl
  obtain ⟨x1, g252⟩ : ∃ z, z = h240.size := ⟨_, rfl⟩
  rw [← g252] at A252 B252 st252
  have ne253 : a1 ≠ x1 := by rw [g252]; exact Nat.ne_of_lt E_a1_241.lt
  have ne254 : ev ≠ x1 := by rw [g252]; exact Nat.ne_of_lt V_ev_249.lt
  have ne255 : po ≠ x1 := by rw [g252]; exact Nat.ne_of_lt V_po_250.lt
  have ge_x1 : n0 ≤ x1 := by rw [g252]; exact Z251
  have E_a1_256 : Exa Z h252 a1 "dev/millrace/Batch" := Exa.ext E252 E_a1_241
  have F_a1_events_257 : Fld Z h252 a1 "dev/millrace/Batch" "events" "[Ljava/lang/Object;" (.ref ev) := Fld.ext E252 F_a1_events_242
  have F_a1_positions_258 : Fld Z h252 a1 "dev/millrace/Batch" "positions" "[J" (.ref po) := Fld.ext E252 F_a1_positions_243
  have F_a1_keys_259 : Fld Z h252 a1 "dev/millrace/Batch" "keys" "[Ljava/lang/Object;" (.null) := Fld.ext E252 F_a1_keys_244
  have F_a1_lanes_260 : Fld Z h252 a1 "dev/millrace/Batch" "lanes" "[I" (.null) := Fld.ext E252 F_a1_lanes_245
  have F_a1_inputs_261 : Fld Z h252 a1 "dev/millrace/Batch" "inputs" "[Ldev/millrace/Source$Input;" (.null) := Fld.ext E252 F_a1_inputs_246
  have F_a1_numbers_262 : Fld Z h252 a1 "dev/millrace/Batch" "numbers" "[J" (.null) := Fld.ext E252 F_a1_numbers_247
  have F_a1_size_263 : Fld Z h252 a1 "dev/millrace/Batch" "size" "I" (.int k) := Fld.ext E252 F_a1_size_248
  have V_ev_264 : own_Av Z h252 ev kE (.object "java/lang/Object") 1024 (fun _ => .null) := own_Av.ext E252 V_ev_249
  have V_po_265 : own_Av Z h252 po kP .long 1024 (fun _ => .long 0) := own_Av.ext E252 V_po_250
  have Z266 : n0 ≤ h252.size := Nat.le_trans Z251 E252.1
  have E_x1_267 : Exa Z h252 x1 "[I" := B252
  have V_x1_268 : own_Av Z h252 x1 cA252 .int 1 (fun _ => defaultValue .int) := own_Av.new (ty := .int) A252 (by decide)
  refine own_go st252 ?_
  show own_Go p.tables e below _ (T252.setTop (mkF m 26 #[.val (.int p1), .val (.long q2), .second, .val (.long q3), .second, .val (.int k), .val (.ref a1), .unset, .unset, .unset, .unset, .unset] [(.ref x1)]))
  refine own_go (fun _ kont => XS.astore X252.here hx rfl (hb hby at_26) rfl rfl (l' := #[.val (.int p1), .val (.long q2), .second, .val (.long q3), .second, .val (.int k), .val (.ref a1), .val (.ref x1), .unset, .unset, .unset, .unset]) rfl kont) ?_
  show own_Go p.tables e below _ (T252.setTop (mkF m 28 #[.val (.int p1), .val (.long q2), .second, .val (.long q3), .second, .val (.int k), .val (.ref a1), .val (.ref x1), .unset, .unset, .unset, .unset] []))
  refine own_go (fun _ kont => XS.iconst X252.here hx rfl (hb hby at_28) kont) ?_
  show own_Go p.tables e below _ (T252.setTop (mkF m 29 #[.val (.int p1), .val (.long q2), .second, .val (.long q3), .second, .val (.int k), .val (.ref a1), .val (.ref x1), .unset, .unset, .unset, .unset] [(.int (1 : Int32))]))
  obtain ⟨T269, h269, cA269, X269, e269, E269, A269, B269, st269⟩ := newPE X252 hx hZ (hw _ (List.mem_of_getElem? (i := 21) rfl)) e252 (g := (mkF m 29 #[.val (.int p1), .val (.long q2), .second, .val (.long q3), .second, .val (.int k), .val (.ref a1), .val (.ref x1), .unset, .unset, .unset, .unset] [(.int (1 : Int32))])) rfl (hb hby at_29) rfl (by decide) (cap := 1) (by decide) (by decide) (by decide) (by decide) rfl
  obtain ⟨x2, g269⟩ : ∃ z, z = h252.size := ⟨_, rfl⟩
  rw [← g269] at A269 B269 st269
  have ne270 : a1 ≠ x2 := by rw [g269]; exact Nat.ne_of_lt E_a1_256.lt
  have ne271 : ev ≠ x2 := by rw [g269]; exact Nat.ne_of_lt V_ev_264.lt
  have ne272 : po ≠ x2 := by rw [g269]; exact Nat.ne_of_lt V_po_265.lt
  have ne273 : x1 ≠ x2 := by rw [g269]; exact Nat.ne_of_lt E_x1_267.lt
  have ge_x2 : n0 ≤ x2 := by rw [g269]; exact Z266
  have E_a1_274 : Exa Z h269 a1 "dev/millrace/Batch" := Exa.ext E269 E_a1_256
  have F_a1_events_275 : Fld Z h269 a1 "dev/millrace/Batch" "events" "[Ljava/lang/Object;" (.ref ev) := Fld.ext E269 F_a1_events_257
  have F_a1_positions_276 : Fld Z h269 a1 "dev/millrace/Batch" "positions" "[J" (.ref po) := Fld.ext E269 F_a1_positions_258
  have F_a1_keys_277 : Fld Z h269 a1 "dev/millrace/Batch" "keys" "[Ljava/lang/Object;" (.null) := Fld.ext E269 F_a1_keys_259
  have F_a1_lanes_278 : Fld Z h269 a1 "dev/millrace/Batch" "lanes" "[I" (.null) := Fld.ext E269 F_a1_lanes_260
  have F_a1_inputs_279 : Fld Z h269 a1 "dev/millrace/Batch" "inputs" "[Ldev/millrace/Source$Input;" (.null) := Fld.ext E269 F_a1_inputs_261
  have F_a1_numbers_280 : Fld Z h269 a1 "dev/millrace/Batch" "numbers" "[J" (.null) := Fld.ext E269 F_a1_numbers_262
  have F_a1_size_281 : Fld Z h269 a1 "dev/millrace/Batch" "size" "I" (.int k) := Fld.ext E269 F_a1_size_263
  have V_ev_282 : own_Av Z h269 ev kE (.object "java/lang/Object") 1024 (fun _ => .null) := own_Av.ext E269 V_ev_264
  have V_po_283 : own_Av Z h269 po kP .long 1024 (fun _ => .long 0) := own_Av.ext E269 V_po_265
  have E_x1_284 : Exa Z h269 x1 "[I" := Exa.ext E269 E_x1_267
  have V_x1_285 : own_Av Z h269 x1 cA252 .int 1 (fun _ => defaultValue .int) := own_Av.ext E269 V_x1_268
  have Z286 : n0 ≤ h269.size := Nat.le_trans Z266 E269.1
  have E_x2_287 : Exa Z h269 x2 "[I" := B269
  have V_x2_288 : own_Av Z h269 x2 cA269 .int 1 (fun _ => defaultValue .int) := own_Av.new (ty := .int) A269 (by decide)
  refine own_go st269 ?_
  show own_Go p.tables e below _ (T269.setTop (mkF m 31 #[.val (.int p1), .val (.long q2), .second, .val (.long q3), .second, .val (.int k), .val (.ref a1), .val (.ref x1), .unset, .unset, .unset, .unset] [(.ref x2)]))
  refine own_go (fun _ kont => XS.astore X269.here hx rfl (hb hby at_31) rfl rfl (l' := #[.val (.int p1), .val (.long q2), .second, .val (.long q3), .second, .val (.int k), .val (.ref a1), .val (.ref x1), .val (.ref x2), .unset, .unset, .unset]) rfl kont) ?_
  show own_Go p.tables e below _ (T269.setTop (mkF m 33 #[.val (.int p1), .val (.long q2), .second, .val (.long q3), .second, .val (.int k), .val (.ref a1), .val (.ref x1), .val (.ref x2), .unset, .unset, .unset] []))
  refine own_go (fun _ kont => XS.aload X269.here hx rfl (hb hby at_33) rfl rfl kont) ?_
  show own_Go p.tables e below _ (T269.setTop (mkF m 35 #[.val (.int p1), .val (.long q2), .second, .val (.long q3), .second, .val (.int k), .val (.ref a1), .val (.ref x1), .val (.ref x2), .unset, .unset, .unset] [(.ref a1)]))
  refine own_go (fun _ kont => XS.aload X269.here hx rfl (hb hby at_35) rfl rfl kont) ?_
  show own_Go p.tables e below _ (T269.setTop (mkF m 37 #[.val (.int p1), .val (.long q2), .second, .val (.long q3), .second, .val (.int k), .val (.ref a1), .val (.ref x1), .val (.ref x2), .unset, .unset, .unset] [(.ref x1), (.ref a1)]))
  refine own_go (fun _ kont => XS.lloadN X269.here hx rfl (hb hby at_37) rfl kont) ?_
  show own_Go p.tables e below _ (T269.setTop (mkF m 38 #[.val (.int p1), .val (.long q2), .second, .val (.long q3), .second, .val (.int k), .val (.ref a1), .val (.ref x1), .val (.ref x2), .unset, .unset, .unset] [(.long q2), (.ref x1), (.ref a1)]))
  have S289 : Sto Z h269 ev (.ref x1) := by obtain ⟨cl, A, r, -⟩ := V_ev_282; exact Sto.ofV A r OV (Ins.of_exa E_x1_284 (hw _ (List.mem_of_getElem? (i := 28) rfl)))
  have B289 : own_Bt Z h269 a1 (.ref ev) (.ref po) k := ⟨E_a1_274, F_a1_events_275, F_a1_positions_276, F_a1_keys_277, F_a1_lanes_278, F_a1_inputs_279, F_a1_numbers_280, F_a1_size_281⟩
  refine own_callV X269 hx hZ (z := (⟨"dev/millrace/Batch", "add", "(Ljava/lang/Object;J)Z"⟩ : MethodName)) (argsL := [(.ref x1), (.long q2)]) (rest := []) (W := 0) hown (hw _ (List.mem_of_getElem? (i := 22) rfl)) (hw _ (List.mem_of_getElem? (i := 23) rfl)) (hw _ (List.mem_of_getElem? (i := 25) rfl)) (hw _ (List.mem_of_getElem? (i := 24) rfl)) (hw _ (List.mem_of_getElem? (i := 26) rfl)) (hw _ (List.mem_of_getElem? (i := 2) rfl)) (by decide) (E_a1_274) (own_rm4 l Z a0 hw a1 x1 q2 h269 n0 Z286 ev po kE kP k i _ _ B289 V_ev_282 V_po_283 S289 k0 k1 i0 ge_a1 ge_ev ge_po ne230 ne231 nvp) e269 (by decide) (by decide) (by decide) (by decide) (by rw [hml]; rfl) (lenOf own_pd__Ljava_lang_Object_J_Z rfl) rfl (Nat.le_of_eq rfl) (hb hby at_38) ?_
  rintro _ T290 L290 X290 ⟨rfl, N290, K290, B290, V1290, V2290⟩
  have NA290 := Fr.app N251 N290
  have E_a1_291 : Exa Z T290.heap a1 "dev/millrace/Batch" := Exa.keep E_a1_274 K290
  have E_x1_292 : Exa Z T290.heap x1 "[I" := Exa.keep E_x1_284 K290
  have V_x1_293 : own_Av Z T290.heap x1 cA252 .int 1 (fun _ => defaultValue .int) := own_Av.keep V_x1_285 K290 (ninS (Ne.symm ne253) (ninS (Ne.symm ne254) (ninS (Ne.symm ne255) nin0)))
  have E_x2_294 : Exa Z T290.heap x2 "[I" := Exa.keep E_x2_287 K290
  have V_x2_295 : own_Av Z T290.heap x2 cA269 .int 1 (fun _ => defaultValue .int) := own_Av.keep V_x2_288 K290 (ninS (Ne.symm ne270) (ninS (Ne.symm ne271) (ninS (Ne.symm ne272) nin0)))
  have Z296 : n0 ≤ T290.heap.size := Nat.le_trans Z286 K290.1
  show own_Go p.tables e below _ (T290.setTop (mkF m 41 #[.val (.int p1), .val (.long q2), .second, .val (.long q3), .second, .val (.int k), .val (.ref a1), .val (.ref x1), .val (.ref x2), .unset, .unset, .unset] [(.int (own_b (k + 1 = (1024 : Int32))))]))
  obtain ⟨E_297, F0_298, F1_299, F2_300, F3_301, F4_302, F5_303, F6_304⟩ := B290
  refine own_go (fun _ kont => XS.istore X290.here hx rfl (hb hby at_41) rfl (l' := #[.val (.int p1), .val (.long q2), .second, .val (.long q3), .second, .val (.int k), .val (.ref a1), .val (.ref x1), .val (.ref x2), .val (.int (own_b (k + 1 = (1024 : Int32)))), .unset, .unset]) rfl kont) ?_
  show own_Go p.tables e below _ (T290.setTop (mkF m 43 #[.val (.int p1), .val (.long q2), .second, .val (.long q3), .second, .val (.int k), .val (.ref a1), .val (.ref x1), .val (.ref x2), .val (.int (own_b (k + 1 = (1024 : Int32)))), .unset, .unset] []))
  have c411 : ∀ (hz : Heap) (o11 : Slot) (T305 : State) (Lc305 : List Loc), Stand p l e room_1 s m #[(.int p1), (.long q2), (.long q3)] below meth c T305 Lc305 (5) (2057) → Fr n0 Lc305 → T305.heap = hz → own_Go p.tables e below (own_Fin s below (fun v h L => v = some (.int 1) ∧ Fr n0 L) room_1.cells room_1.slots) (T305.setTop (mkF m 411 #[.val (.int p1), .val (.long q2), .second, .val (.long q3), .second, .val (.int k), .val (.ref a1), .val (.ref x1), .val (.ref x2), .val (.int (own_b (k + 1 = (1024 : Int32)))), .val (.int (1 : Int32)), o11] [])) := by
    intro hz o11 T305 Lc305  X305 N305 e305
    refine own_go (fun _ kont => XS.iload X305.here hx rfl (hb hby at_411) rfl kont) ?_
    show own_Go p.tables e below _ (T305.setTop (mkF m 413 #[.val (.int p1), .val (.long q2), .second, .val (.long q3), .second, .val (.int k), .val (.ref a1), .val (.ref x1), .val (.ref x2), .val (.int (own_b (k + 1 = (1024 : Int32)))), .val (.int (1 : Int32)), o11] [(.int (1 : Int32))]))
    exact own_retI X305 hx hlk hret (by simp) rfl (hb hby at_413) (⟨rfl, N305⟩) (by decide) (by decide)
  have c207 : ∀  (T306 : State) (Lc306 : List Loc), Stand p l e room_1 s m #[(.int p1), (.long q2), (.long q3)] below meth c T306 Lc306 (5) (2057) → Fr n0 Lc306 → T306.heap = T290.heap → own_Go p.tables e below (own_Fin s below (fun v h L => v = some (.int 1) ∧ Fr n0 L) room_1.cells room_1.slots) (T306.setTop (mkF m 207 #[.val (.int p1), .val (.long q2), .second, .val (.long q3), .second, .val (.int k), .val (.ref a1), .val (.ref x1), .val (.ref x2), .val (.int (own_b (k + 1 = (1024 : Int32)))), .val (.int (1 : Int32)), .unset] [])) := by
    intro  T306 Lc306  X306 N306 e306
    refine own_go (fun _ kont => XS.iload X306.here hx rfl (hb hby at_207) rfl kont) ?_
    show own_Go p.tables e below _ (T306.setTop (mkF m 209 #[.val (.int p1), .val (.long q2), .second, .val (.long q3), .second, .val (.int k), .val (.ref a1), .val (.ref x1), .val (.ref x2), .val (.int (own_b (k + 1 = (1024 : Int32)))), .val (.int (1 : Int32)), .unset] [(.int k)]))
    refine own_go (fun _ kont => XS.sipush X306.here hx rfl (hb hby at_209) kont) ?_
    show own_Go p.tables e below _ (T306.setTop (mkF m 212 #[.val (.int p1), .val (.long q2), .second, .val (.long q3), .second, .val (.int k), .val (.ref a1), .val (.ref x1), .val (.ref x2), .val (.int (own_b (k + 1 = (1024 : Int32)))), .val (.int (1 : Int32)), .unset] [(.int (1023 : Int32)), (.int k)]))
    by_cases b3 : k < (1023 : Int32)
    · skip
      refine own_go (fun _ kont => XS.icmpNo X306.here hx rfl (hb hby at_212) rfl (XT.ii_ge_f (b3)) kont) ?_
      show own_Go p.tables e below _ (T306.setTop (mkF m 215 #[.val (.int p1), .val (.long q2), .second, .val (.long q3), .second, .val (.int k), .val (.ref a1), .val (.ref x1), .val (.ref x2), .val (.int (own_b (k + 1 = (1024 : Int32)))), .val (.int (1 : Int32)), .unset] []))
      have i3 : i < 1023 := by rw [Int32.lt_iff_toInt_lt] at b3; have l : (1023 : Int32).toInt = 1023 := (by decide); omega
      refine own_go (fun _ kont => XS.iload X306.here hx rfl (hb hby at_215) rfl kont) ?_
      show own_Go p.tables e below _ (T306.setTop (mkF m 217 #[.val (.int p1), .val (.long q2), .second, .val (.long q3), .second, .val (.int k), .val (.ref a1), .val (.ref x1), .val (.ref x2), .val (.int (own_b (k + 1 = (1024 : Int32)))), .val (.int (1 : Int32)), .unset] [(.int (1 : Int32))]))
      refine own_go (fun _ kont => XS.ifNo X306.here hx rfl (hb hby at_217) rfl (XT.i0_eq_f (by decide)) kont) ?_
      show own_Go p.tables e below _ (T306.setTop (mkF m 220 #[.val (.int p1), .val (.long q2), .second, .val (.long q3), .second, .val (.int k), .val (.ref a1), .val (.ref x1), .val (.ref x2), .val (.int (own_b (k + 1 = (1024 : Int32)))), .val (.int (1 : Int32)), .unset] []))
      refine own_go (fun _ kont => XS.aload X306.here hx rfl (hb hby at_220) rfl rfl kont) ?_
      show own_Go p.tables e below _ (T306.setTop (mkF m 222 #[.val (.int p1), .val (.long q2), .second, .val (.long q3), .second, .val (.int k), .val (.ref a1), .val (.ref x1), .val (.ref x2), .val (.int (own_b (k + 1 = (1024 : Int32)))), .val (.int (1 : Int32)), .unset] [(.ref a1)]))
      obtain ⟨T307, X307, e307, st307⟩ := getF X306 hx hZ hown (host := "") (Or.inl (hw _ (List.mem_of_getElem? (i := 29) rfl))) Via.refl e306 F0_298 (g := (mkF m 222 #[.val (.int p1), .val (.long q2), .second, .val (.long q3), .second, .val (.int k), .val (.ref a1), .val (.ref x1), .val (.ref x2), .val (.int (own_b (k + 1 = (1024 : Int32)))), .val (.int (1 : Int32)), .unset] [(.ref a1)])) rfl rfl (hb hby at_222)
      refine own_go st307 ?_
      show own_Go p.tables e below _ (T307.setTop (mkF m 225 #[.val (.int p1), .val (.long q2), .second, .val (.long q3), .second, .val (.int k), .val (.ref a1), .val (.ref x1), .val (.ref x2), .val (.int (own_b (k + 1 = (1024 : Int32)))), .val (.int (1 : Int32)), .unset] [(.ref ev)]))
      refine own_go (fun _ kont => XS.iload X307.here hx rfl (hb hby at_225) rfl kont) ?_
      show own_Go p.tables e below _ (T307.setTop (mkF m 227 #[.val (.int p1), .val (.long q2), .second, .val (.long q3), .second, .val (.int k), .val (.ref a1), .val (.ref x1), .val (.ref x2), .val (.int (own_b (k + 1 = (1024 : Int32)))), .val (.int (1 : Int32)), .unset] [(.int k), (.ref ev)]))
      refine own_go (fun _ kont => XS.iconst X307.here hx rfl (hb hby at_227) kont) ?_
      show own_Go p.tables e below _ (T307.setTop (mkF m 228 #[.val (.int p1), .val (.long q2), .second, .val (.long q3), .second, .val (.int k), .val (.ref a1), .val (.ref x1), .val (.ref x2), .val (.int (own_b (k + 1 = (1024 : Int32)))), .val (.int (1 : Int32)), .unset] [(.int (1 : Int32)), (.int k), (.ref ev)]))
      refine own_go (fun _ kont => XS.iadd X307.here hx rfl (hb hby at_228) rfl kont) ?_
      show own_Go p.tables e below _ (T307.setTop (mkF m 229 #[.val (.int p1), .val (.long q2), .second, .val (.long q3), .second, .val (.int k), .val (.ref a1), .val (.ref x1), .val (.ref x2), .val (.int (own_b (k + 1 = (1024 : Int32)))), .val (.int (1 : Int32)), .unset] [(.int (k + (1 : Int32))), (.ref ev)]))
      refine own_aald X307 hx hZ e307 V1290 rfl (i + 1) (own_ix (k + 1) (i + 1) (own_up k 1 i 1 ki (by decide) (by omega))).1 (own_ix (k + 1) (i + 1) (own_up k 1 i 1 ki (by decide) (by omega))).2 (by omega) (w := .null) (if_neg (by omega)) (hb hby at_229) ?_
      show own_Go p.tables e below _ (T307.setTop (mkF m 230 #[.val (.int p1), .val (.long q2), .second, .val (.long q3), .second, .val (.int k), .val (.ref a1), .val (.ref x1), .val (.ref x2), .val (.int (own_b (k + 1 = (1024 : Int32)))), .val (.int (1 : Int32)), .unset] [(.null)]))
      refine own_go (fun _ kont => XS.ifnonnullNo X307.here hx rfl (hb hby at_230) rfl kont) ?_
      show own_Go p.tables e below _ (T307.setTop (mkF m 233 #[.val (.int p1), .val (.long q2), .second, .val (.long q3), .second, .val (.int k), .val (.ref a1), .val (.ref x1), .val (.ref x2), .val (.int (own_b (k + 1 = (1024 : Int32)))), .val (.int (1 : Int32)), .unset] []))
      refine own_go (fun _ kont => XS.aload X307.here hx rfl (hb hby at_233) rfl rfl kont) ?_
      show own_Go p.tables e below _ (T307.setTop (mkF m 235 #[.val (.int p1), .val (.long q2), .second, .val (.long q3), .second, .val (.int k), .val (.ref a1), .val (.ref x1), .val (.ref x2), .val (.int (own_b (k + 1 = (1024 : Int32)))), .val (.int (1 : Int32)), .unset] [(.ref a1)]))
      obtain ⟨T308, X308, e308, st308⟩ := getF X307 hx hZ hown (host := "") (Or.inl (hw _ (List.mem_of_getElem? (i := 30) rfl))) Via.refl e307 F1_299 (g := (mkF m 235 #[.val (.int p1), .val (.long q2), .second, .val (.long q3), .second, .val (.int k), .val (.ref a1), .val (.ref x1), .val (.ref x2), .val (.int (own_b (k + 1 = (1024 : Int32)))), .val (.int (1 : Int32)), .unset] [(.ref a1)])) rfl rfl (hb hby at_235)
      refine own_go st308 ?_
      show own_Go p.tables e below _ (T308.setTop (mkF m 238 #[.val (.int p1), .val (.long q2), .second, .val (.long q3), .second, .val (.int k), .val (.ref a1), .val (.ref x1), .val (.ref x2), .val (.int (own_b (k + 1 = (1024 : Int32)))), .val (.int (1 : Int32)), .unset] [(.ref po)]))
      refine own_go (fun _ kont => XS.iload X308.here hx rfl (hb hby at_238) rfl kont) ?_
      show own_Go p.tables e below _ (T308.setTop (mkF m 240 #[.val (.int p1), .val (.long q2), .second, .val (.long q3), .second, .val (.int k), .val (.ref a1), .val (.ref x1), .val (.ref x2), .val (.int (own_b (k + 1 = (1024 : Int32)))), .val (.int (1 : Int32)), .unset] [(.int k), (.ref po)]))
      refine own_go (fun _ kont => XS.iconst X308.here hx rfl (hb hby at_240) kont) ?_
      show own_Go p.tables e below _ (T308.setTop (mkF m 241 #[.val (.int p1), .val (.long q2), .second, .val (.long q3), .second, .val (.int k), .val (.ref a1), .val (.ref x1), .val (.ref x2), .val (.int (own_b (k + 1 = (1024 : Int32)))), .val (.int (1 : Int32)), .unset] [(.int (1 : Int32)), (.int k), (.ref po)]))
      refine own_go (fun _ kont => XS.iadd X308.here hx rfl (hb hby at_241) rfl kont) ?_
      show own_Go p.tables e below _ (T308.setTop (mkF m 242 #[.val (.int p1), .val (.long q2), .second, .val (.long q3), .second, .val (.int k), .val (.ref a1), .val (.ref x1), .val (.ref x2), .val (.int (own_b (k + 1 = (1024 : Int32)))), .val (.int (1 : Int32)), .unset] [(.int (k + (1 : Int32))), (.ref po)]))
      refine own_lald X308 hx hZ e308 V2290 (i + 1) (own_ix (k + 1) (i + 1) (own_up k 1 i 1 ki (by decide) (by omega))).1 (own_ix (k + 1) (i + 1) (own_up k 1 i 1 ki (by decide) (by omega))).2 (by omega) (w := .long (0 : Int64)) (if_neg (by omega)) (hb hby at_242) ?_
      show own_Go p.tables e below _ (T308.setTop (mkF m 243 #[.val (.int p1), .val (.long q2), .second, .val (.long q3), .second, .val (.int k), .val (.ref a1), .val (.ref x1), .val (.ref x2), .val (.int (own_b (k + 1 = (1024 : Int32)))), .val (.int (1 : Int32)), .unset] [(.long (0 : Int64))]))
      refine own_go (fun _ kont => XS.lconst X308.here hx rfl (hb hby at_243) kont) ?_
      show own_Go p.tables e below _ (T308.setTop (mkF m 244 #[.val (.int p1), .val (.long q2), .second, .val (.long q3), .second, .val (.int k), .val (.ref a1), .val (.ref x1), .val (.ref x2), .val (.int (own_b (k + 1 = (1024 : Int32)))), .val (.int (1 : Int32)), .unset] [(.long (0 : Int64)), (.long (0 : Int64))]))
      refine own_go (fun _ kont => XS.lcmp X308.here hx rfl (hb hby at_244) rfl kont) ?_
      show own_Go p.tables e below _ (T308.setTop (mkF m 245 #[.val (.int p1), .val (.long q2), .second, .val (.long q3), .second, .val (.int k), .val (.ref a1), .val (.ref x1), .val (.ref x2), .val (.int (own_b (k + 1 = (1024 : Int32)))), .val (.int (1 : Int32)), .unset] [(.int (lcmpW (0 : Int64) (0 : Int64)))]))
      refine own_go (fun _ kont => XS.ifNo X308.here hx rfl (hb hby at_245) rfl (XT.i0_ne_f ((lw_eq _ _).mpr rfl)) kont) ?_
      show own_Go p.tables e below _ (T308.setTop (mkF m 248 #[.val (.int p1), .val (.long q2), .second, .val (.long q3), .second, .val (.int k), .val (.ref a1), .val (.ref x1), .val (.ref x2), .val (.int (own_b (k + 1 = (1024 : Int32)))), .val (.int (1 : Int32)), .unset] []))
      refine own_go (fun _ kont => XS.iconst X308.here hx rfl (hb hby at_248) kont) ?_
      show own_Go p.tables e below _ (T308.setTop (mkF m 249 #[.val (.int p1), .val (.long q2), .second, .val (.long q3), .second, .val (.int k), .val (.ref a1), .val (.ref x1), .val (.ref x2), .val (.int (own_b (k + 1 = (1024 : Int32)))), .val (.int (1 : Int32)), .unset] [(.int (1 : Int32))]))
      refine own_go (fun _ kont => XS.goto X308.here hx rfl (pc0 := 249) (pc' := 253) rfl (hb hby at_249) (by decide) (by decide) kont) ?_
      show own_Go p.tables e below _ (T308.setTop (mkF m 253 #[.val (.int p1), .val (.long q2), .second, .val (.long q3), .second, .val (.int k), .val (.ref a1), .val (.ref x1), .val (.ref x2), .val (.int (own_b (k + 1 = (1024 : Int32)))), .val (.int (1 : Int32)), .unset] [(.int (1 : Int32))]))
      refine own_go (fun _ kont => XS.istore X308.here hx rfl (hb hby at_253) rfl (l' := #[.val (.int p1), .val (.long q2), .second, .val (.long q3), .second, .val (.int k), .val (.ref a1), .val (.ref x1), .val (.ref x2), .val (.int (own_b (k + 1 = (1024 : Int32)))), .val (.int (1 : Int32)), .unset]) rfl kont) ?_
      show own_Go p.tables e below _ (T308.setTop (mkF m 255 #[.val (.int p1), .val (.long q2), .second, .val (.long q3), .second, .val (.int k), .val (.ref a1), .val (.ref x1), .val (.ref x2), .val (.int (own_b (k + 1 = (1024 : Int32)))), .val (.int (1 : Int32)), .unset] []))
      refine own_go (fun _ kont => XS.aload X308.here hx rfl (hb hby at_255) rfl rfl kont) ?_
      show own_Go p.tables e below _ (T308.setTop (mkF m 257 #[.val (.int p1), .val (.long q2), .second, .val (.long q3), .second, .val (.int k), .val (.ref a1), .val (.ref x1), .val (.ref x2), .val (.int (own_b (k + 1 = (1024 : Int32)))), .val (.int (1 : Int32)), .unset] [(.ref a1)]))
      refine own_go (fun _ kont => XS.aload X308.here hx rfl (hb hby at_257) rfl rfl kont) ?_
      show own_Go p.tables e below _ (T308.setTop (mkF m 259 #[.val (.int p1), .val (.long q2), .second, .val (.long q3), .second, .val (.int k), .val (.ref a1), .val (.ref x1), .val (.ref x2), .val (.int (own_b (k + 1 = (1024 : Int32)))), .val (.int (1 : Int32)), .unset] [(.ref x2), (.ref a1)]))
      refine own_go (fun _ kont => XS.lloadN X308.here hx rfl (hb hby at_259) rfl kont) ?_
      show own_Go p.tables e below _ (T308.setTop (mkF m 260 #[.val (.int p1), .val (.long q2), .second, .val (.long q3), .second, .val (.int k), .val (.ref a1), .val (.ref x1), .val (.ref x2), .val (.int (own_b (k + 1 = (1024 : Int32)))), .val (.int (1 : Int32)), .unset] [(.long q3), (.ref x2), (.ref a1)]))
      have S309 : Sto Z T290.heap ev (.ref x2) := by obtain ⟨cl, A, r, -⟩ := V1290; exact Sto.ofV A r OV (Ins.of_exa E_x2_294 (hw _ (List.mem_of_getElem? (i := 28) rfl)))
      have B309 : own_Bt Z T290.heap a1 (.ref ev) (.ref po) (k + 1) := ⟨E_297, F0_298, F1_299, F2_300, F3_301, F4_302, F5_303, F6_304⟩
      refine own_callV X308 hx hZ (z := (⟨"dev/millrace/Batch", "add", "(Ljava/lang/Object;J)Z"⟩ : MethodName)) (argsL := [(.ref x2), (.long q3)]) (rest := []) (W := 0) hown (hw _ (List.mem_of_getElem? (i := 22) rfl)) (hw _ (List.mem_of_getElem? (i := 23) rfl)) (hw _ (List.mem_of_getElem? (i := 25) rfl)) (hw _ (List.mem_of_getElem? (i := 24) rfl)) (hw _ (List.mem_of_getElem? (i := 26) rfl)) (hw _ (List.mem_of_getElem? (i := 2) rfl)) (by decide) (E_297) (own_rm4 l Z a0 hw a1 x2 q3 T290.heap n0 Z296 ev po kE kP (k + 1) (i + 1) _ _ B309 V1290 V2290 S309 (own_ix (k + 1) (i + 1) (own_up k 1 i 1 ki (by decide) (by omega))).1 (own_ix (k + 1) (i + 1) (own_up k 1 i 1 ki (by decide) (by omega))).2 (by omega) ge_a1 ge_ev ge_po ne230 ne231 nvp) e308 (by decide) (by decide) (by decide) (by decide) (by rw [hml]; rfl) (lenOf own_pd__Ljava_lang_Object_J_Z rfl) rfl (Nat.le_of_eq rfl) (hb hby at_260) ?_
      rintro _ T310 L310 X310 ⟨rfl, N310, K310, B310, V1310, V2310⟩
      have NA310 := Fr.app N306 N310
      have E_a1_311 : Exa Z T310.heap a1 "dev/millrace/Batch" := Exa.keep E_297 K310
      have E_x1_312 : Exa Z T310.heap x1 "[I" := Exa.keep E_x1_292 K310
      have V_x1_313 : own_Av Z T310.heap x1 cA252 .int 1 (fun _ => defaultValue .int) := own_Av.keep V_x1_293 K310 (ninS (Ne.symm ne253) (ninS (Ne.symm ne254) (ninS (Ne.symm ne255) nin0)))
      have E_x2_314 : Exa Z T310.heap x2 "[I" := Exa.keep E_x2_294 K310
      have V_x2_315 : own_Av Z T310.heap x2 cA269 .int 1 (fun _ => defaultValue .int) := own_Av.keep V_x2_295 K310 (ninS (Ne.symm ne270) (ninS (Ne.symm ne271) (ninS (Ne.symm ne272) nin0)))
      have Z316 : n0 ≤ T310.heap.size := Nat.le_trans Z296 K310.1
      show own_Go p.tables e below _ (T310.setTop (mkF m 263 #[.val (.int p1), .val (.long q2), .second, .val (.long q3), .second, .val (.int k), .val (.ref a1), .val (.ref x1), .val (.ref x2), .val (.int (own_b (k + 1 = (1024 : Int32)))), .val (.int (1 : Int32)), .unset] [(.int (own_b ((k + 1) + 1 = (1024 : Int32))))]))
      obtain ⟨E_317, F0_318, F1_319, F2_320, F3_321, F4_322, F5_323, F6_324⟩ := B310
      refine own_go (fun _ kont => XS.istore X310.here hx rfl (hb hby at_263) rfl (l' := #[.val (.int p1), .val (.long q2), .second, .val (.long q3), .second, .val (.int k), .val (.ref a1), .val (.ref x1), .val (.ref x2), .val (.int (own_b (k + 1 = (1024 : Int32)))), .val (.int (1 : Int32)), .val (.int (own_b ((k + 1) + 1 = (1024 : Int32))))]) rfl kont) ?_
      show own_Go p.tables e below _ (T310.setTop (mkF m 265 #[.val (.int p1), .val (.long q2), .second, .val (.long q3), .second, .val (.int k), .val (.ref a1), .val (.ref x1), .val (.ref x2), .val (.int (own_b (k + 1 = (1024 : Int32)))), .val (.int (1 : Int32)), .val (.int (own_b ((k + 1) + 1 = (1024 : Int32))))] []))
      refine own_go (fun _ kont => XS.iload X310.here hx rfl (hb hby at_265) rfl kont) ?_
      show own_Go p.tables e below _ (T310.setTop (mkF m 267 #[.val (.int p1), .val (.long q2), .second, .val (.long q3), .second, .val (.int k), .val (.ref a1), .val (.ref x1), .val (.ref x2), .val (.int (own_b (k + 1 = (1024 : Int32)))), .val (.int (1 : Int32)), .val (.int (own_b ((k + 1) + 1 = (1024 : Int32))))] [(.int (1 : Int32))]))
      refine own_go (fun _ kont => XS.ifNo X310.here hx rfl (hb hby at_267) rfl (XT.i0_eq_f (by decide)) kont) ?_
      show own_Go p.tables e below _ (T310.setTop (mkF m 270 #[.val (.int p1), .val (.long q2), .second, .val (.long q3), .second, .val (.int k), .val (.ref a1), .val (.ref x1), .val (.ref x2), .val (.int (own_b (k + 1 = (1024 : Int32)))), .val (.int (1 : Int32)), .val (.int (own_b ((k + 1) + 1 = (1024 : Int32))))] []))
      refine own_go (fun _ kont => XS.iload X310.here hx rfl (hb hby at_270) rfl kont) ?_
      show own_Go p.tables e below _ (T310.setTop (mkF m 272 #[.val (.int p1), .val (.long q2), .second, .val (.long q3), .second, .val (.int k), .val (.ref a1), .val (.ref x1), .val (.ref x2), .val (.int (own_b (k + 1 = (1024 : Int32)))), .val (.int (1 : Int32)), .val (.int (own_b ((k + 1) + 1 = (1024 : Int32))))] [(.int (own_b ((k + 1) + 1 = (1024 : Int32))))]))
      refine own_go (fun _ kont => XS.iload X310.here hx rfl (hb hby at_272) rfl kont) ?_
      show own_Go p.tables e below _ (T310.setTop (mkF m 274 #[.val (.int p1), .val (.long q2), .second, .val (.long q3), .second, .val (.int k), .val (.ref a1), .val (.ref x1), .val (.ref x2), .val (.int (own_b (k + 1 = (1024 : Int32)))), .val (.int (1 : Int32)), .val (.int (own_b ((k + 1) + 1 = (1024 : Int32))))] [(.int k), (.int (own_b ((k + 1) + 1 = (1024 : Int32))))]))
      refine own_go (fun _ kont => XS.sipush X310.here hx rfl (hb hby at_274) kont) ?_
      show own_Go p.tables e below _ (T310.setTop (mkF m 277 #[.val (.int p1), .val (.long q2), .second, .val (.long q3), .second, .val (.int k), .val (.ref a1), .val (.ref x1), .val (.ref x2), .val (.int (own_b (k + 1 = (1024 : Int32)))), .val (.int (1 : Int32)), .val (.int (own_b ((k + 1) + 1 = (1024 : Int32))))] [(.int (1022 : Int32)), (.int k), (.int (own_b ((k + 1) + 1 = (1024 : Int32))))]))
      have c285 : ∀ (z : Int32) (T325 : State) (Lc325 : List Loc), (hz : (own_b ((k + 1) + 1 = (1024 : Int32))) = z) → Stand p l e room_1 s m #[(.int p1), (.long q2), (.long q3)] below meth c T325 Lc325 (5) (2057) → Fr n0 Lc325 → T325.heap = T310.heap → own_Go p.tables e below (own_Fin s below (fun v h L => v = some (.int 1) ∧ Fr n0 L) room_1.cells room_1.slots) (T325.setTop (mkF m 285 #[.val (.int p1), .val (.long q2), .second, .val (.long q3), .second, .val (.int k), .val (.ref a1), .val (.ref x1), .val (.ref x2), .val (.int (own_b (k + 1 = (1024 : Int32)))), .val (.int (1 : Int32)), .val (.int (own_b ((k + 1) + 1 = (1024 : Int32))))] [(.int z), (.int (own_b ((k + 1) + 1 = (1024 : Int32))))])) := by
        intro z T325 Lc325 hz X325 N325 e325
        refine own_go (fun _ kont => XS.icmpNo X325.here hx rfl (hb hby at_285) rfl (XT.ii_ne_f (hz)) kont) ?_
        show own_Go p.tables e below _ (T325.setTop (mkF m 288 #[.val (.int p1), .val (.long q2), .second, .val (.long q3), .second, .val (.int k), .val (.ref a1), .val (.ref x1), .val (.ref x2), .val (.int (own_b (k + 1 = (1024 : Int32)))), .val (.int (1 : Int32)), .val (.int (own_b ((k + 1) + 1 = (1024 : Int32))))] []))
        refine own_go (fun _ kont => XS.aload X325.here hx rfl (hb hby at_288) rfl rfl kont) ?_
        show own_Go p.tables e below _ (T325.setTop (mkF m 290 #[.val (.int p1), .val (.long q2), .second, .val (.long q3), .second, .val (.int k), .val (.ref a1), .val (.ref x1), .val (.ref x2), .val (.int (own_b (k + 1 = (1024 : Int32)))), .val (.int (1 : Int32)), .val (.int (own_b ((k + 1) + 1 = (1024 : Int32))))] [(.ref a1)]))
        obtain ⟨T326, X326, e326, st326⟩ := getF X325 hx hZ hown (host := "") (Or.inl (hw _ (List.mem_of_getElem? (i := 19) rfl))) Via.refl e325 F6_324 (g := (mkF m 290 #[.val (.int p1), .val (.long q2), .second, .val (.long q3), .second, .val (.int k), .val (.ref a1), .val (.ref x1), .val (.ref x2), .val (.int (own_b (k + 1 = (1024 : Int32)))), .val (.int (1 : Int32)), .val (.int (own_b ((k + 1) + 1 = (1024 : Int32))))] [(.ref a1)])) rfl rfl (hb hby at_290)
        refine own_go st326 ?_
        show own_Go p.tables e below _ (T326.setTop (mkF m 293 #[.val (.int p1), .val (.long q2), .second, .val (.long q3), .second, .val (.int k), .val (.ref a1), .val (.ref x1), .val (.ref x2), .val (.int (own_b (k + 1 = (1024 : Int32)))), .val (.int (1 : Int32)), .val (.int (own_b ((k + 1) + 1 = (1024 : Int32))))] [(.int ((k + 1) + 1))]))
        refine own_go (fun _ kont => XS.iload X326.here hx rfl (hb hby at_293) rfl kont) ?_
        show own_Go p.tables e below _ (T326.setTop (mkF m 295 #[.val (.int p1), .val (.long q2), .second, .val (.long q3), .second, .val (.int k), .val (.ref a1), .val (.ref x1), .val (.ref x2), .val (.int (own_b (k + 1 = (1024 : Int32)))), .val (.int (1 : Int32)), .val (.int (own_b ((k + 1) + 1 = (1024 : Int32))))] [(.int k), (.int ((k + 1) + 1))]))
        refine own_go (fun _ kont => XS.iconst X326.here hx rfl (hb hby at_295) kont) ?_
        show own_Go p.tables e below _ (T326.setTop (mkF m 296 #[.val (.int p1), .val (.long q2), .second, .val (.long q3), .second, .val (.int k), .val (.ref a1), .val (.ref x1), .val (.ref x2), .val (.int (own_b (k + 1 = (1024 : Int32)))), .val (.int (1 : Int32)), .val (.int (own_b ((k + 1) + 1 = (1024 : Int32))))] [(.int (2 : Int32)), (.int k), (.int ((k + 1) + 1))]))
        refine own_go (fun _ kont => XS.iadd X326.here hx rfl (hb hby at_296) rfl kont) ?_
        show own_Go p.tables e below _ (T326.setTop (mkF m 297 #[.val (.int p1), .val (.long q2), .second, .val (.long q3), .second, .val (.int k), .val (.ref a1), .val (.ref x1), .val (.ref x2), .val (.int (own_b (k + 1 = (1024 : Int32)))), .val (.int (1 : Int32)), .val (.int (own_b ((k + 1) + 1 = (1024 : Int32))))] [(.int (k + (2 : Int32))), (.int ((k + 1) + 1))]))
        refine own_go (fun _ kont => XS.icmpNo X326.here hx rfl (hb hby at_297) rfl (XT.ii_ne_f (own_k2 k)) kont) ?_
        show own_Go p.tables e below _ (T326.setTop (mkF m 300 #[.val (.int p1), .val (.long q2), .second, .val (.long q3), .second, .val (.int k), .val (.ref a1), .val (.ref x1), .val (.ref x2), .val (.int (own_b (k + 1 = (1024 : Int32)))), .val (.int (1 : Int32)), .val (.int (own_b ((k + 1) + 1 = (1024 : Int32))))] []))
        refine own_go (fun _ kont => XS.aload X326.here hx rfl (hb hby at_300) rfl rfl kont) ?_
        show own_Go p.tables e below _ (T326.setTop (mkF m 302 #[.val (.int p1), .val (.long q2), .second, .val (.long q3), .second, .val (.int k), .val (.ref a1), .val (.ref x1), .val (.ref x2), .val (.int (own_b (k + 1 = (1024 : Int32)))), .val (.int (1 : Int32)), .val (.int (own_b ((k + 1) + 1 = (1024 : Int32))))] [(.ref a1)]))
        obtain ⟨T327, X327, e327, st327⟩ := getF X326 hx hZ hown (host := "") (Or.inl (hw _ (List.mem_of_getElem? (i := 29) rfl))) Via.refl e326 F0_318 (g := (mkF m 302 #[.val (.int p1), .val (.long q2), .second, .val (.long q3), .second, .val (.int k), .val (.ref a1), .val (.ref x1), .val (.ref x2), .val (.int (own_b (k + 1 = (1024 : Int32)))), .val (.int (1 : Int32)), .val (.int (own_b ((k + 1) + 1 = (1024 : Int32))))] [(.ref a1)])) rfl rfl (hb hby at_302)
        refine own_go st327 ?_
        show own_Go p.tables e below _ (T327.setTop (mkF m 305 #[.val (.int p1), .val (.long q2), .second, .val (.long q3), .second, .val (.int k), .val (.ref a1), .val (.ref x1), .val (.ref x2), .val (.int (own_b (k + 1 = (1024 : Int32)))), .val (.int (1 : Int32)), .val (.int (own_b ((k + 1) + 1 = (1024 : Int32))))] [(.ref ev)]))
        refine own_go (fun _ kont => XS.iload X327.here hx rfl (hb hby at_305) rfl kont) ?_
        show own_Go p.tables e below _ (T327.setTop (mkF m 307 #[.val (.int p1), .val (.long q2), .second, .val (.long q3), .second, .val (.int k), .val (.ref a1), .val (.ref x1), .val (.ref x2), .val (.int (own_b (k + 1 = (1024 : Int32)))), .val (.int (1 : Int32)), .val (.int (own_b ((k + 1) + 1 = (1024 : Int32))))] [(.int k), (.ref ev)]))
        refine own_aald X327 hx hZ e327 V1310 rfl i k0 k1 i0 (w := .ref x1) ((if_neg (by omega)).trans (if_pos rfl)) (hb hby at_307) ?_
        show own_Go p.tables e below _ (T327.setTop (mkF m 308 #[.val (.int p1), .val (.long q2), .second, .val (.long q3), .second, .val (.int k), .val (.ref a1), .val (.ref x1), .val (.ref x2), .val (.int (own_b (k + 1 = (1024 : Int32)))), .val (.int (1 : Int32)), .val (.int (own_b ((k + 1) + 1 = (1024 : Int32))))] [(.ref x1)]))
        refine own_go (fun _ kont => XS.aload X327.here hx rfl (hb hby at_308) rfl rfl kont) ?_
        show own_Go p.tables e below _ (T327.setTop (mkF m 310 #[.val (.int p1), .val (.long q2), .second, .val (.long q3), .second, .val (.int k), .val (.ref a1), .val (.ref x1), .val (.ref x2), .val (.int (own_b (k + 1 = (1024 : Int32)))), .val (.int (1 : Int32)), .val (.int (own_b ((k + 1) + 1 = (1024 : Int32))))] [(.ref x1), (.ref x1)]))
        refine own_go (fun _ kont => XT.acmpNo X327.here hx rfl (hb hby at_310) rfl rfl rfl (XT.aa_ne_f (rfl)) kont) ?_
        show own_Go p.tables e below _ (T327.setTop (mkF m 313 #[.val (.int p1), .val (.long q2), .second, .val (.long q3), .second, .val (.int k), .val (.ref a1), .val (.ref x1), .val (.ref x2), .val (.int (own_b (k + 1 = (1024 : Int32)))), .val (.int (1 : Int32)), .val (.int (own_b ((k + 1) + 1 = (1024 : Int32))))] []))
        refine own_go (fun _ kont => XS.aload X327.here hx rfl (hb hby at_313) rfl rfl kont) ?_
        show own_Go p.tables e below _ (T327.setTop (mkF m 315 #[.val (.int p1), .val (.long q2), .second, .val (.long q3), .second, .val (.int k), .val (.ref a1), .val (.ref x1), .val (.ref x2), .val (.int (own_b (k + 1 = (1024 : Int32)))), .val (.int (1 : Int32)), .val (.int (own_b ((k + 1) + 1 = (1024 : Int32))))] [(.ref a1)]))
        obtain ⟨T328, X328, e328, st328⟩ := getF X327 hx hZ hown (host := "") (Or.inl (hw _ (List.mem_of_getElem? (i := 30) rfl))) Via.refl e327 F1_319 (g := (mkF m 315 #[.val (.int p1), .val (.long q2), .second, .val (.long q3), .second, .val (.int k), .val (.ref a1), .val (.ref x1), .val (.ref x2), .val (.int (own_b (k + 1 = (1024 : Int32)))), .val (.int (1 : Int32)), .val (.int (own_b ((k + 1) + 1 = (1024 : Int32))))] [(.ref a1)])) rfl rfl (hb hby at_315)
        refine own_go st328 ?_
        show own_Go p.tables e below _ (T328.setTop (mkF m 318 #[.val (.int p1), .val (.long q2), .second, .val (.long q3), .second, .val (.int k), .val (.ref a1), .val (.ref x1), .val (.ref x2), .val (.int (own_b (k + 1 = (1024 : Int32)))), .val (.int (1 : Int32)), .val (.int (own_b ((k + 1) + 1 = (1024 : Int32))))] [(.ref po)]))
        refine own_go (fun _ kont => XS.iload X328.here hx rfl (hb hby at_318) rfl kont) ?_
        show own_Go p.tables e below _ (T328.setTop (mkF m 320 #[.val (.int p1), .val (.long q2), .second, .val (.long q3), .second, .val (.int k), .val (.ref a1), .val (.ref x1), .val (.ref x2), .val (.int (own_b (k + 1 = (1024 : Int32)))), .val (.int (1 : Int32)), .val (.int (own_b ((k + 1) + 1 = (1024 : Int32))))] [(.int k), (.ref po)]))
        refine own_lald X328 hx hZ e328 V2310 i k0 k1 i0 (w := .long q2) ((if_neg (by omega)).trans (if_pos rfl)) (hb hby at_320) ?_
        show own_Go p.tables e below _ (T328.setTop (mkF m 321 #[.val (.int p1), .val (.long q2), .second, .val (.long q3), .second, .val (.int k), .val (.ref a1), .val (.ref x1), .val (.ref x2), .val (.int (own_b (k + 1 = (1024 : Int32)))), .val (.int (1 : Int32)), .val (.int (own_b ((k + 1) + 1 = (1024 : Int32))))] [(.long q2)]))
        refine own_go (fun _ kont => XS.lloadN X328.here hx rfl (hb hby at_321) rfl kont) ?_
        show own_Go p.tables e below _ (T328.setTop (mkF m 322 #[.val (.int p1), .val (.long q2), .second, .val (.long q3), .second, .val (.int k), .val (.ref a1), .val (.ref x1), .val (.ref x2), .val (.int (own_b (k + 1 = (1024 : Int32)))), .val (.int (1 : Int32)), .val (.int (own_b ((k + 1) + 1 = (1024 : Int32))))] [(.long q2), (.long q2)]))
        refine own_go (fun _ kont => XS.lcmp X328.here hx rfl (hb hby at_322) rfl kont) ?_
        show own_Go p.tables e below _ (T328.setTop (mkF m 323 #[.val (.int p1), .val (.long q2), .second, .val (.long q3), .second, .val (.int k), .val (.ref a1), .val (.ref x1), .val (.ref x2), .val (.int (own_b (k + 1 = (1024 : Int32)))), .val (.int (1 : Int32)), .val (.int (own_b ((k + 1) + 1 = (1024 : Int32))))] [(.int (lcmpW q2 q2))]))
        refine own_go (fun _ kont => XS.ifNo X328.here hx rfl (hb hby at_323) rfl (XT.i0_ne_f ((lw_eq _ _).mpr rfl)) kont) ?_
        show own_Go p.tables e below _ (T328.setTop (mkF m 326 #[.val (.int p1), .val (.long q2), .second, .val (.long q3), .second, .val (.int k), .val (.ref a1), .val (.ref x1), .val (.ref x2), .val (.int (own_b (k + 1 = (1024 : Int32)))), .val (.int (1 : Int32)), .val (.int (own_b ((k + 1) + 1 = (1024 : Int32))))] []))
        refine own_go (fun _ kont => XS.aload X328.here hx rfl (hb hby at_326) rfl rfl kont) ?_
        show own_Go p.tables e below _ (T328.setTop (mkF m 328 #[.val (.int p1), .val (.long q2), .second, .val (.long q3), .second, .val (.int k), .val (.ref a1), .val (.ref x1), .val (.ref x2), .val (.int (own_b (k + 1 = (1024 : Int32)))), .val (.int (1 : Int32)), .val (.int (own_b ((k + 1) + 1 = (1024 : Int32))))] [(.ref a1)]))
        obtain ⟨T329, X329, e329, st329⟩ := getF X328 hx hZ hown (host := "") (Or.inl (hw _ (List.mem_of_getElem? (i := 29) rfl))) Via.refl e328 F0_318 (g := (mkF m 328 #[.val (.int p1), .val (.long q2), .second, .val (.long q3), .second, .val (.int k), .val (.ref a1), .val (.ref x1), .val (.ref x2), .val (.int (own_b (k + 1 = (1024 : Int32)))), .val (.int (1 : Int32)), .val (.int (own_b ((k + 1) + 1 = (1024 : Int32))))] [(.ref a1)])) rfl rfl (hb hby at_328)
        refine own_go st329 ?_
        show own_Go p.tables e below _ (T329.setTop (mkF m 331 #[.val (.int p1), .val (.long q2), .second, .val (.long q3), .second, .val (.int k), .val (.ref a1), .val (.ref x1), .val (.ref x2), .val (.int (own_b (k + 1 = (1024 : Int32)))), .val (.int (1 : Int32)), .val (.int (own_b ((k + 1) + 1 = (1024 : Int32))))] [(.ref ev)]))
        refine own_go (fun _ kont => XS.iload X329.here hx rfl (hb hby at_331) rfl kont) ?_
        show own_Go p.tables e below _ (T329.setTop (mkF m 333 #[.val (.int p1), .val (.long q2), .second, .val (.long q3), .second, .val (.int k), .val (.ref a1), .val (.ref x1), .val (.ref x2), .val (.int (own_b (k + 1 = (1024 : Int32)))), .val (.int (1 : Int32)), .val (.int (own_b ((k + 1) + 1 = (1024 : Int32))))] [(.int k), (.ref ev)]))
        refine own_go (fun _ kont => XS.iconst X329.here hx rfl (hb hby at_333) kont) ?_
        show own_Go p.tables e below _ (T329.setTop (mkF m 334 #[.val (.int p1), .val (.long q2), .second, .val (.long q3), .second, .val (.int k), .val (.ref a1), .val (.ref x1), .val (.ref x2), .val (.int (own_b (k + 1 = (1024 : Int32)))), .val (.int (1 : Int32)), .val (.int (own_b ((k + 1) + 1 = (1024 : Int32))))] [(.int (1 : Int32)), (.int k), (.ref ev)]))
        refine own_go (fun _ kont => XS.iadd X329.here hx rfl (hb hby at_334) rfl kont) ?_
        show own_Go p.tables e below _ (T329.setTop (mkF m 335 #[.val (.int p1), .val (.long q2), .second, .val (.long q3), .second, .val (.int k), .val (.ref a1), .val (.ref x1), .val (.ref x2), .val (.int (own_b (k + 1 = (1024 : Int32)))), .val (.int (1 : Int32)), .val (.int (own_b ((k + 1) + 1 = (1024 : Int32))))] [(.int (k + (1 : Int32))), (.ref ev)]))
        refine own_aald X329 hx hZ e329 V1310 rfl (i + 1) (own_ix (k + 1) (i + 1) (own_up k 1 i 1 ki (by decide) (by omega))).1 (own_ix (k + 1) (i + 1) (own_up k 1 i 1 ki (by decide) (by omega))).2 (by omega) (w := .ref x2) (if_pos rfl) (hb hby at_335) ?_
        show own_Go p.tables e below _ (T329.setTop (mkF m 336 #[.val (.int p1), .val (.long q2), .second, .val (.long q3), .second, .val (.int k), .val (.ref a1), .val (.ref x1), .val (.ref x2), .val (.int (own_b (k + 1 = (1024 : Int32)))), .val (.int (1 : Int32)), .val (.int (own_b ((k + 1) + 1 = (1024 : Int32))))] [(.ref x2)]))
        refine own_go (fun _ kont => XS.aload X329.here hx rfl (hb hby at_336) rfl rfl kont) ?_
        show own_Go p.tables e below _ (T329.setTop (mkF m 338 #[.val (.int p1), .val (.long q2), .second, .val (.long q3), .second, .val (.int k), .val (.ref a1), .val (.ref x1), .val (.ref x2), .val (.int (own_b (k + 1 = (1024 : Int32)))), .val (.int (1 : Int32)), .val (.int (own_b ((k + 1) + 1 = (1024 : Int32))))] [(.ref x2), (.ref x2)]))
        refine own_go (fun _ kont => XT.acmpNo X329.here hx rfl (hb hby at_338) rfl rfl rfl (XT.aa_ne_f (rfl)) kont) ?_
        show own_Go p.tables e below _ (T329.setTop (mkF m 341 #[.val (.int p1), .val (.long q2), .second, .val (.long q3), .second, .val (.int k), .val (.ref a1), .val (.ref x1), .val (.ref x2), .val (.int (own_b (k + 1 = (1024 : Int32)))), .val (.int (1 : Int32)), .val (.int (own_b ((k + 1) + 1 = (1024 : Int32))))] []))
        refine own_go (fun _ kont => XS.aload X329.here hx rfl (hb hby at_341) rfl rfl kont) ?_
        show own_Go p.tables e below _ (T329.setTop (mkF m 343 #[.val (.int p1), .val (.long q2), .second, .val (.long q3), .second, .val (.int k), .val (.ref a1), .val (.ref x1), .val (.ref x2), .val (.int (own_b (k + 1 = (1024 : Int32)))), .val (.int (1 : Int32)), .val (.int (own_b ((k + 1) + 1 = (1024 : Int32))))] [(.ref a1)]))
        obtain ⟨T330, X330, e330, st330⟩ := getF X329 hx hZ hown (host := "") (Or.inl (hw _ (List.mem_of_getElem? (i := 30) rfl))) Via.refl e329 F1_319 (g := (mkF m 343 #[.val (.int p1), .val (.long q2), .second, .val (.long q3), .second, .val (.int k), .val (.ref a1), .val (.ref x1), .val (.ref x2), .val (.int (own_b (k + 1 = (1024 : Int32)))), .val (.int (1 : Int32)), .val (.int (own_b ((k + 1) + 1 = (1024 : Int32))))] [(.ref a1)])) rfl rfl (hb hby at_343)
        refine own_go st330 ?_
        show own_Go p.tables e below _ (T330.setTop (mkF m 346 #[.val (.int p1), .val (.long q2), .second, .val (.long q3), .second, .val (.int k), .val (.ref a1), .val (.ref x1), .val (.ref x2), .val (.int (own_b (k + 1 = (1024 : Int32)))), .val (.int (1 : Int32)), .val (.int (own_b ((k + 1) + 1 = (1024 : Int32))))] [(.ref po)]))
        refine own_go (fun _ kont => XS.iload X330.here hx rfl (hb hby at_346) rfl kont) ?_
        show own_Go p.tables e below _ (T330.setTop (mkF m 348 #[.val (.int p1), .val (.long q2), .second, .val (.long q3), .second, .val (.int k), .val (.ref a1), .val (.ref x1), .val (.ref x2), .val (.int (own_b (k + 1 = (1024 : Int32)))), .val (.int (1 : Int32)), .val (.int (own_b ((k + 1) + 1 = (1024 : Int32))))] [(.int k), (.ref po)]))
        refine own_go (fun _ kont => XS.iconst X330.here hx rfl (hb hby at_348) kont) ?_
        show own_Go p.tables e below _ (T330.setTop (mkF m 349 #[.val (.int p1), .val (.long q2), .second, .val (.long q3), .second, .val (.int k), .val (.ref a1), .val (.ref x1), .val (.ref x2), .val (.int (own_b (k + 1 = (1024 : Int32)))), .val (.int (1 : Int32)), .val (.int (own_b ((k + 1) + 1 = (1024 : Int32))))] [(.int (1 : Int32)), (.int k), (.ref po)]))
        refine own_go (fun _ kont => XS.iadd X330.here hx rfl (hb hby at_349) rfl kont) ?_
        show own_Go p.tables e below _ (T330.setTop (mkF m 350 #[.val (.int p1), .val (.long q2), .second, .val (.long q3), .second, .val (.int k), .val (.ref a1), .val (.ref x1), .val (.ref x2), .val (.int (own_b (k + 1 = (1024 : Int32)))), .val (.int (1 : Int32)), .val (.int (own_b ((k + 1) + 1 = (1024 : Int32))))] [(.int (k + (1 : Int32))), (.ref po)]))
        refine own_lald X330 hx hZ e330 V2310 (i + 1) (own_ix (k + 1) (i + 1) (own_up k 1 i 1 ki (by decide) (by omega))).1 (own_ix (k + 1) (i + 1) (own_up k 1 i 1 ki (by decide) (by omega))).2 (by omega) (w := .long q3) (if_pos rfl) (hb hby at_350) ?_
        show own_Go p.tables e below _ (T330.setTop (mkF m 351 #[.val (.int p1), .val (.long q2), .second, .val (.long q3), .second, .val (.int k), .val (.ref a1), .val (.ref x1), .val (.ref x2), .val (.int (own_b (k + 1 = (1024 : Int32)))), .val (.int (1 : Int32)), .val (.int (own_b ((k + 1) + 1 = (1024 : Int32))))] [(.long q3)]))
        refine own_go (fun _ kont => XS.lloadN X330.here hx rfl (hb hby at_351) rfl kont) ?_
        show own_Go p.tables e below _ (T330.setTop (mkF m 352 #[.val (.int p1), .val (.long q2), .second, .val (.long q3), .second, .val (.int k), .val (.ref a1), .val (.ref x1), .val (.ref x2), .val (.int (own_b (k + 1 = (1024 : Int32)))), .val (.int (1 : Int32)), .val (.int (own_b ((k + 1) + 1 = (1024 : Int32))))] [(.long q3), (.long q3)]))
        refine own_go (fun _ kont => XS.lcmp X330.here hx rfl (hb hby at_352) rfl kont) ?_
        show own_Go p.tables e below _ (T330.setTop (mkF m 353 #[.val (.int p1), .val (.long q2), .second, .val (.long q3), .second, .val (.int k), .val (.ref a1), .val (.ref x1), .val (.ref x2), .val (.int (own_b (k + 1 = (1024 : Int32)))), .val (.int (1 : Int32)), .val (.int (own_b ((k + 1) + 1 = (1024 : Int32))))] [(.int (lcmpW q3 q3))]))
        refine own_go (fun _ kont => XS.ifNo X330.here hx rfl (hb hby at_353) rfl (XT.i0_ne_f ((lw_eq _ _).mpr rfl)) kont) ?_
        show own_Go p.tables e below _ (T330.setTop (mkF m 356 #[.val (.int p1), .val (.long q2), .second, .val (.long q3), .second, .val (.int k), .val (.ref a1), .val (.ref x1), .val (.ref x2), .val (.int (own_b (k + 1 = (1024 : Int32)))), .val (.int (1 : Int32)), .val (.int (own_b ((k + 1) + 1 = (1024 : Int32))))] []))
        refine own_go (fun _ kont => XS.iconst X330.here hx rfl (hb hby at_356) kont) ?_
        show own_Go p.tables e below _ (T330.setTop (mkF m 357 #[.val (.int p1), .val (.long q2), .second, .val (.long q3), .second, .val (.int k), .val (.ref a1), .val (.ref x1), .val (.ref x2), .val (.int (own_b (k + 1 = (1024 : Int32)))), .val (.int (1 : Int32)), .val (.int (own_b ((k + 1) + 1 = (1024 : Int32))))] [(.int (1 : Int32))]))
        refine own_go (fun _ kont => XS.goto X330.here hx rfl (pc0 := 357) (pc' := 361) rfl (hb hby at_357) (by decide) (by decide) kont) ?_
        show own_Go p.tables e below _ (T330.setTop (mkF m 361 #[.val (.int p1), .val (.long q2), .second, .val (.long q3), .second, .val (.int k), .val (.ref a1), .val (.ref x1), .val (.ref x2), .val (.int (own_b (k + 1 = (1024 : Int32)))), .val (.int (1 : Int32)), .val (.int (own_b ((k + 1) + 1 = (1024 : Int32))))] [(.int (1 : Int32))]))
        refine own_go (fun _ kont => XS.istore X330.here hx rfl (hb hby at_361) rfl (l' := #[.val (.int p1), .val (.long q2), .second, .val (.long q3), .second, .val (.int k), .val (.ref a1), .val (.ref x1), .val (.ref x2), .val (.int (own_b (k + 1 = (1024 : Int32)))), .val (.int (1 : Int32)), .val (.int (own_b ((k + 1) + 1 = (1024 : Int32))))]) rfl kont) ?_
        show own_Go p.tables e below _ (T330.setTop (mkF m 363 #[.val (.int p1), .val (.long q2), .second, .val (.long q3), .second, .val (.int k), .val (.ref a1), .val (.ref x1), .val (.ref x2), .val (.int (own_b (k + 1 = (1024 : Int32)))), .val (.int (1 : Int32)), .val (.int (own_b ((k + 1) + 1 = (1024 : Int32))))] []))
        refine own_go (fun _ kont => XS.iload X330.here hx rfl (hb hby at_363) rfl kont) ?_
        show own_Go p.tables e below _ (T330.setTop (mkF m 365 #[.val (.int p1), .val (.long q2), .second, .val (.long q3), .second, .val (.int k), .val (.ref a1), .val (.ref x1), .val (.ref x2), .val (.int (own_b (k + 1 = (1024 : Int32)))), .val (.int (1 : Int32)), .val (.int (own_b ((k + 1) + 1 = (1024 : Int32))))] [(.int k)]))
        refine own_go (fun _ kont => XS.sipush X330.here hx rfl (hb hby at_365) kont) ?_
        show own_Go p.tables e below _ (T330.setTop (mkF m 368 #[.val (.int p1), .val (.long q2), .second, .val (.long q3), .second, .val (.int k), .val (.ref a1), .val (.ref x1), .val (.ref x2), .val (.int (own_b (k + 1 = (1024 : Int32)))), .val (.int (1 : Int32)), .val (.int (own_b ((k + 1) + 1 = (1024 : Int32))))] [(.int (1022 : Int32)), (.int k)]))
        by_cases b4 : k < (1022 : Int32)
        · skip
          refine own_go (fun _ kont => XS.icmpNo X330.here hx rfl (hb hby at_368) rfl (XT.ii_ge_f (b4)) kont) ?_
          show own_Go p.tables e below _ (T330.setTop (mkF m 371 #[.val (.int p1), .val (.long q2), .second, .val (.long q3), .second, .val (.int k), .val (.ref a1), .val (.ref x1), .val (.ref x2), .val (.int (own_b (k + 1 = (1024 : Int32)))), .val (.int (1 : Int32)), .val (.int (own_b ((k + 1) + 1 = (1024 : Int32))))] []))
          have i4 : i < 1022 := by rw [Int32.lt_iff_toInt_lt] at b4; have l : (1022 : Int32).toInt = 1022 := (by decide); omega
          refine own_go (fun _ kont => XS.iload X330.here hx rfl (hb hby at_371) rfl kont) ?_
          show own_Go p.tables e below _ (T330.setTop (mkF m 373 #[.val (.int p1), .val (.long q2), .second, .val (.long q3), .second, .val (.int k), .val (.ref a1), .val (.ref x1), .val (.ref x2), .val (.int (own_b (k + 1 = (1024 : Int32)))), .val (.int (1 : Int32)), .val (.int (own_b ((k + 1) + 1 = (1024 : Int32))))] [(.int (1 : Int32))]))
          refine own_go (fun _ kont => XS.ifNo X330.here hx rfl (hb hby at_373) rfl (XT.i0_eq_f (by decide)) kont) ?_
          show own_Go p.tables e below _ (T330.setTop (mkF m 376 #[.val (.int p1), .val (.long q2), .second, .val (.long q3), .second, .val (.int k), .val (.ref a1), .val (.ref x1), .val (.ref x2), .val (.int (own_b (k + 1 = (1024 : Int32)))), .val (.int (1 : Int32)), .val (.int (own_b ((k + 1) + 1 = (1024 : Int32))))] []))
          refine own_go (fun _ kont => XS.aload X330.here hx rfl (hb hby at_376) rfl rfl kont) ?_
          show own_Go p.tables e below _ (T330.setTop (mkF m 378 #[.val (.int p1), .val (.long q2), .second, .val (.long q3), .second, .val (.int k), .val (.ref a1), .val (.ref x1), .val (.ref x2), .val (.int (own_b (k + 1 = (1024 : Int32)))), .val (.int (1 : Int32)), .val (.int (own_b ((k + 1) + 1 = (1024 : Int32))))] [(.ref a1)]))
          obtain ⟨T331, X331, e331, st331⟩ := getF X330 hx hZ hown (host := "") (Or.inl (hw _ (List.mem_of_getElem? (i := 29) rfl))) Via.refl e330 F0_318 (g := (mkF m 378 #[.val (.int p1), .val (.long q2), .second, .val (.long q3), .second, .val (.int k), .val (.ref a1), .val (.ref x1), .val (.ref x2), .val (.int (own_b (k + 1 = (1024 : Int32)))), .val (.int (1 : Int32)), .val (.int (own_b ((k + 1) + 1 = (1024 : Int32))))] [(.ref a1)])) rfl rfl (hb hby at_378)
          refine own_go st331 ?_
          show own_Go p.tables e below _ (T331.setTop (mkF m 381 #[.val (.int p1), .val (.long q2), .second, .val (.long q3), .second, .val (.int k), .val (.ref a1), .val (.ref x1), .val (.ref x2), .val (.int (own_b (k + 1 = (1024 : Int32)))), .val (.int (1 : Int32)), .val (.int (own_b ((k + 1) + 1 = (1024 : Int32))))] [(.ref ev)]))
          refine own_go (fun _ kont => XS.iload X331.here hx rfl (hb hby at_381) rfl kont) ?_
          show own_Go p.tables e below _ (T331.setTop (mkF m 383 #[.val (.int p1), .val (.long q2), .second, .val (.long q3), .second, .val (.int k), .val (.ref a1), .val (.ref x1), .val (.ref x2), .val (.int (own_b (k + 1 = (1024 : Int32)))), .val (.int (1 : Int32)), .val (.int (own_b ((k + 1) + 1 = (1024 : Int32))))] [(.int k), (.ref ev)]))
          refine own_go (fun _ kont => XS.iconst X331.here hx rfl (hb hby at_383) kont) ?_
          show own_Go p.tables e below _ (T331.setTop (mkF m 384 #[.val (.int p1), .val (.long q2), .second, .val (.long q3), .second, .val (.int k), .val (.ref a1), .val (.ref x1), .val (.ref x2), .val (.int (own_b (k + 1 = (1024 : Int32)))), .val (.int (1 : Int32)), .val (.int (own_b ((k + 1) + 1 = (1024 : Int32))))] [(.int (2 : Int32)), (.int k), (.ref ev)]))
          refine own_go (fun _ kont => XS.iadd X331.here hx rfl (hb hby at_384) rfl kont) ?_
          show own_Go p.tables e below _ (T331.setTop (mkF m 385 #[.val (.int p1), .val (.long q2), .second, .val (.long q3), .second, .val (.int k), .val (.ref a1), .val (.ref x1), .val (.ref x2), .val (.int (own_b (k + 1 = (1024 : Int32)))), .val (.int (1 : Int32)), .val (.int (own_b ((k + 1) + 1 = (1024 : Int32))))] [(.int (k + (2 : Int32))), (.ref ev)]))
          refine own_aald X331 hx hZ e331 V1310 rfl (i + 2) (own_ix (k + 2) (i + 2) (own_up k 2 i 2 ki (by decide) (by omega))).1 (own_ix (k + 2) (i + 2) (own_up k 2 i 2 ki (by decide) (by omega))).2 (by omega) (w := .null) ((if_neg (by omega)).trans (if_neg (by omega))) (hb hby at_385) ?_
          show own_Go p.tables e below _ (T331.setTop (mkF m 386 #[.val (.int p1), .val (.long q2), .second, .val (.long q3), .second, .val (.int k), .val (.ref a1), .val (.ref x1), .val (.ref x2), .val (.int (own_b (k + 1 = (1024 : Int32)))), .val (.int (1 : Int32)), .val (.int (own_b ((k + 1) + 1 = (1024 : Int32))))] [(.null)]))
          refine own_go (fun _ kont => XS.ifnonnullNo X331.here hx rfl (hb hby at_386) rfl kont) ?_
          show own_Go p.tables e below _ (T331.setTop (mkF m 389 #[.val (.int p1), .val (.long q2), .second, .val (.long q3), .second, .val (.int k), .val (.ref a1), .val (.ref x1), .val (.ref x2), .val (.int (own_b (k + 1 = (1024 : Int32)))), .val (.int (1 : Int32)), .val (.int (own_b ((k + 1) + 1 = (1024 : Int32))))] []))
          refine own_go (fun _ kont => XS.aload X331.here hx rfl (hb hby at_389) rfl rfl kont) ?_
          show own_Go p.tables e below _ (T331.setTop (mkF m 391 #[.val (.int p1), .val (.long q2), .second, .val (.long q3), .second, .val (.int k), .val (.ref a1), .val (.ref x1), .val (.ref x2), .val (.int (own_b (k + 1 = (1024 : Int32)))), .val (.int (1 : Int32)), .val (.int (own_b ((k + 1) + 1 = (1024 : Int32))))] [(.ref a1)]))
          obtain ⟨T332, X332, e332, st332⟩ := getF X331 hx hZ hown (host := "") (Or.inl (hw _ (List.mem_of_getElem? (i := 30) rfl))) Via.refl e331 F1_319 (g := (mkF m 391 #[.val (.int p1), .val (.long q2), .second, .val (.long q3), .second, .val (.int k), .val (.ref a1), .val (.ref x1), .val (.ref x2), .val (.int (own_b (k + 1 = (1024 : Int32)))), .val (.int (1 : Int32)), .val (.int (own_b ((k + 1) + 1 = (1024 : Int32))))] [(.ref a1)])) rfl rfl (hb hby at_391)
          refine own_go st332 ?_
          show own_Go p.tables e below _ (T332.setTop (mkF m 394 #[.val (.int p1), .val (.long q2), .second, .val (.long q3), .second, .val (.int k), .val (.ref a1), .val (.ref x1), .val (.ref x2), .val (.int (own_b (k + 1 = (1024 : Int32)))), .val (.int (1 : Int32)), .val (.int (own_b ((k + 1) + 1 = (1024 : Int32))))] [(.ref po)]))
          refine own_go (fun _ kont => XS.iload X332.here hx rfl (hb hby at_394) rfl kont) ?_
          show own_Go p.tables e below _ (T332.setTop (mkF m 396 #[.val (.int p1), .val (.long q2), .second, .val (.long q3), .second, .val (.int k), .val (.ref a1), .val (.ref x1), .val (.ref x2), .val (.int (own_b (k + 1 = (1024 : Int32)))), .val (.int (1 : Int32)), .val (.int (own_b ((k + 1) + 1 = (1024 : Int32))))] [(.int k), (.ref po)]))
          refine own_go (fun _ kont => XS.iconst X332.here hx rfl (hb hby at_396) kont) ?_
          show own_Go p.tables e below _ (T332.setTop (mkF m 397 #[.val (.int p1), .val (.long q2), .second, .val (.long q3), .second, .val (.int k), .val (.ref a1), .val (.ref x1), .val (.ref x2), .val (.int (own_b (k + 1 = (1024 : Int32)))), .val (.int (1 : Int32)), .val (.int (own_b ((k + 1) + 1 = (1024 : Int32))))] [(.int (2 : Int32)), (.int k), (.ref po)]))
          refine own_go (fun _ kont => XS.iadd X332.here hx rfl (hb hby at_397) rfl kont) ?_
          show own_Go p.tables e below _ (T332.setTop (mkF m 398 #[.val (.int p1), .val (.long q2), .second, .val (.long q3), .second, .val (.int k), .val (.ref a1), .val (.ref x1), .val (.ref x2), .val (.int (own_b (k + 1 = (1024 : Int32)))), .val (.int (1 : Int32)), .val (.int (own_b ((k + 1) + 1 = (1024 : Int32))))] [(.int (k + (2 : Int32))), (.ref po)]))
          refine own_lald X332 hx hZ e332 V2310 (i + 2) (own_ix (k + 2) (i + 2) (own_up k 2 i 2 ki (by decide) (by omega))).1 (own_ix (k + 2) (i + 2) (own_up k 2 i 2 ki (by decide) (by omega))).2 (by omega) (w := .long (0 : Int64)) ((if_neg (by omega)).trans (if_neg (by omega))) (hb hby at_398) ?_
          show own_Go p.tables e below _ (T332.setTop (mkF m 399 #[.val (.int p1), .val (.long q2), .second, .val (.long q3), .second, .val (.int k), .val (.ref a1), .val (.ref x1), .val (.ref x2), .val (.int (own_b (k + 1 = (1024 : Int32)))), .val (.int (1 : Int32)), .val (.int (own_b ((k + 1) + 1 = (1024 : Int32))))] [(.long (0 : Int64))]))
          refine own_go (fun _ kont => XS.lconst X332.here hx rfl (hb hby at_399) kont) ?_
          show own_Go p.tables e below _ (T332.setTop (mkF m 400 #[.val (.int p1), .val (.long q2), .second, .val (.long q3), .second, .val (.int k), .val (.ref a1), .val (.ref x1), .val (.ref x2), .val (.int (own_b (k + 1 = (1024 : Int32)))), .val (.int (1 : Int32)), .val (.int (own_b ((k + 1) + 1 = (1024 : Int32))))] [(.long (0 : Int64)), (.long (0 : Int64))]))
          refine own_go (fun _ kont => XS.lcmp X332.here hx rfl (hb hby at_400) rfl kont) ?_
          show own_Go p.tables e below _ (T332.setTop (mkF m 401 #[.val (.int p1), .val (.long q2), .second, .val (.long q3), .second, .val (.int k), .val (.ref a1), .val (.ref x1), .val (.ref x2), .val (.int (own_b (k + 1 = (1024 : Int32)))), .val (.int (1 : Int32)), .val (.int (own_b ((k + 1) + 1 = (1024 : Int32))))] [(.int (lcmpW (0 : Int64) (0 : Int64)))]))
          refine own_go (fun _ kont => XS.ifNo X332.here hx rfl (hb hby at_401) rfl (XT.i0_ne_f ((lw_eq _ _).mpr rfl)) kont) ?_
          show own_Go p.tables e below _ (T332.setTop (mkF m 404 #[.val (.int p1), .val (.long q2), .second, .val (.long q3), .second, .val (.int k), .val (.ref a1), .val (.ref x1), .val (.ref x2), .val (.int (own_b (k + 1 = (1024 : Int32)))), .val (.int (1 : Int32)), .val (.int (own_b ((k + 1) + 1 = (1024 : Int32))))] []))
          refine own_go (fun _ kont => XS.iconst X332.here hx rfl (hb hby at_404) kont) ?_
          show own_Go p.tables e below _ (T332.setTop (mkF m 405 #[.val (.int p1), .val (.long q2), .second, .val (.long q3), .second, .val (.int k), .val (.ref a1), .val (.ref x1), .val (.ref x2), .val (.int (own_b (k + 1 = (1024 : Int32)))), .val (.int (1 : Int32)), .val (.int (own_b ((k + 1) + 1 = (1024 : Int32))))] [(.int (1 : Int32))]))
          refine own_go (fun _ kont => XS.goto X332.here hx rfl (pc0 := 405) (pc' := 409) rfl (hb hby at_405) (by decide) (by decide) kont) ?_
          show own_Go p.tables e below _ (T332.setTop (mkF m 409 #[.val (.int p1), .val (.long q2), .second, .val (.long q3), .second, .val (.int k), .val (.ref a1), .val (.ref x1), .val (.ref x2), .val (.int (own_b (k + 1 = (1024 : Int32)))), .val (.int (1 : Int32)), .val (.int (own_b ((k + 1) + 1 = (1024 : Int32))))] [(.int (1 : Int32))]))
          refine own_go (fun _ kont => XS.istore X332.here hx rfl (hb hby at_409) rfl (l' := #[.val (.int p1), .val (.long q2), .second, .val (.long q3), .second, .val (.int k), .val (.ref a1), .val (.ref x1), .val (.ref x2), .val (.int (own_b (k + 1 = (1024 : Int32)))), .val (.int (1 : Int32)), .val (.int (own_b ((k + 1) + 1 = (1024 : Int32))))]) rfl kont) ?_
          show own_Go p.tables e below _ (T332.setTop (mkF m 411 #[.val (.int p1), .val (.long q2), .second, .val (.long q3), .second, .val (.int k), .val (.ref a1), .val (.ref x1), .val (.ref x2), .val (.int (own_b (k + 1 = (1024 : Int32)))), .val (.int (1 : Int32)), .val (.int (own_b ((k + 1) + 1 = (1024 : Int32))))] []))
          exact c411 _ _ _ _  X332 N325 e332
        · skip
          refine own_go (fun _ kont => XS.icmpYes X330.here hx rfl (pc0 := 368) (pc' := 411) rfl (hb hby at_368) rfl (XT.ii_ge_t (b4)) (by decide) (by decide) kont) ?_
          show own_Go p.tables e below _ (T330.setTop (mkF m 411 #[.val (.int p1), .val (.long q2), .second, .val (.long q3), .second, .val (.int k), .val (.ref a1), .val (.ref x1), .val (.ref x2), .val (.int (own_b (k + 1 = (1024 : Int32)))), .val (.int (1 : Int32)), .val (.int (own_b ((k + 1) + 1 = (1024 : Int32))))] []))
          exact c411 _ _ _ _  X330 N325 e330
      by_cases b5 : k = (1022 : Int32)
      · skip
        refine own_go (fun _ kont => XS.icmpNo X310.here hx rfl (hb hby at_277) rfl (XT.ii_ne_f (b5)) kont) ?_
        show own_Go p.tables e below _ (T310.setTop (mkF m 280 #[.val (.int p1), .val (.long q2), .second, .val (.long q3), .second, .val (.int k), .val (.ref a1), .val (.ref x1), .val (.ref x2), .val (.int (own_b (k + 1 = (1024 : Int32)))), .val (.int (1 : Int32)), .val (.int (own_b ((k + 1) + 1 = (1024 : Int32))))] [(.int (own_b ((k + 1) + 1 = (1024 : Int32))))]))
        refine own_go (fun _ kont => XS.iconst X310.here hx rfl (hb hby at_280) kont) ?_
        show own_Go p.tables e below _ (T310.setTop (mkF m 281 #[.val (.int p1), .val (.long q2), .second, .val (.long q3), .second, .val (.int k), .val (.ref a1), .val (.ref x1), .val (.ref x2), .val (.int (own_b (k + 1 = (1024 : Int32)))), .val (.int (1 : Int32)), .val (.int (own_b ((k + 1) + 1 = (1024 : Int32))))] [(.int (1 : Int32)), (.int (own_b ((k + 1) + 1 = (1024 : Int32))))]))
        refine own_go (fun _ kont => XS.goto X310.here hx rfl (pc0 := 281) (pc' := 285) rfl (hb hby at_281) (by decide) (by decide) kont) ?_
        show own_Go p.tables e below _ (T310.setTop (mkF m 285 #[.val (.int p1), .val (.long q2), .second, .val (.long q3), .second, .val (.int k), .val (.ref a1), .val (.ref x1), .val (.ref x2), .val (.int (own_b (k + 1 = (1024 : Int32)))), .val (.int (1 : Int32)), .val (.int (own_b ((k + 1) + 1 = (1024 : Int32))))] [(.int (1 : Int32)), (.int (own_b ((k + 1) + 1 = (1024 : Int32))))]))
        exact c285 _ _ _ (own_b1 ((own_kk2 k i ki i0).mpr b5)) X310 NA310 rfl
      · skip
        refine own_go (fun _ kont => XS.icmpYes X310.here hx rfl (pc0 := 277) (pc' := 284) rfl (hb hby at_277) rfl (XT.ii_ne_t (b5)) (by decide) (by decide) kont) ?_
        show own_Go p.tables e below _ (T310.setTop (mkF m 284 #[.val (.int p1), .val (.long q2), .second, .val (.long q3), .second, .val (.int k), .val (.ref a1), .val (.ref x1), .val (.ref x2), .val (.int (own_b (k + 1 = (1024 : Int32)))), .val (.int (1 : Int32)), .val (.int (own_b ((k + 1) + 1 = (1024 : Int32))))] [(.int (own_b ((k + 1) + 1 = (1024 : Int32))))]))
        refine own_go (fun _ kont => XS.iconst X310.here hx rfl (hb hby at_284) kont) ?_
        show own_Go p.tables e below _ (T310.setTop (mkF m 285 #[.val (.int p1), .val (.long q2), .second, .val (.long q3), .second, .val (.int k), .val (.ref a1), .val (.ref x1), .val (.ref x2), .val (.int (own_b (k + 1 = (1024 : Int32)))), .val (.int (1 : Int32)), .val (.int (own_b ((k + 1) + 1 = (1024 : Int32))))] [(.int (0 : Int32)), (.int (own_b ((k + 1) + 1 = (1024 : Int32))))]))
        exact c285 _ _ _ (own_b0 (fun q => b5 ((own_kk2 k i ki i0).mp q))) X310 NA310 rfl
    · skip
      refine own_go (fun _ kont => XS.icmpYes X306.here hx rfl (pc0 := 212) (pc' := 411) rfl (hb hby at_212) rfl (XT.ii_ge_t (b3)) (by decide) (by decide) kont) ?_
      show own_Go p.tables e below _ (T306.setTop (mkF m 411 #[.val (.int p1), .val (.long q2), .second, .val (.long q3), .second, .val (.int k), .val (.ref a1), .val (.ref x1), .val (.ref x2), .val (.int (own_b (k + 1 = (1024 : Int32)))), .val (.int (1 : Int32)), .unset] []))
      exact c411 _ _ _ _  X306 N306 e306
  have c58 : ∀ (z : Int32) (T333 : State) (Lc333 : List Loc), (hz : (own_b (k + 1 = (1024 : Int32))) = z) → Stand p l e room_1 s m #[(.int p1), (.long q2), (.long q3)] below meth c T333 Lc333 (5) (2057) → Fr n0 Lc333 → T333.heap = T290.heap → own_Go p.tables e below (own_Fin s below (fun v h L => v = some (.int 1) ∧ Fr n0 L) room_1.cells room_1.slots) (T333.setTop (mkF m 58 #[.val (.int p1), .val (.long q2), .second, .val (.long q3), .second, .val (.int k), .val (.ref a1), .val (.ref x1), .val (.ref x2), .val (.int (own_b (k + 1 = (1024 : Int32)))), .unset, .unset] [(.int z), (.int (own_b (k + 1 = (1024 : Int32))))])) := by
    intro z T333 Lc333 hz X333 N333 e333
    refine own_go (fun _ kont => XS.icmpNo X333.here hx rfl (hb hby at_58) rfl (XT.ii_ne_f (hz)) kont) ?_
    show own_Go p.tables e below _ (T333.setTop (mkF m 61 #[.val (.int p1), .val (.long q2), .second, .val (.long q3), .second, .val (.int k), .val (.ref a1), .val (.ref x1), .val (.ref x2), .val (.int (own_b (k + 1 = (1024 : Int32)))), .unset, .unset] []))
    refine own_go (fun _ kont => XS.aload X333.here hx rfl (hb hby at_61) rfl rfl kont) ?_
    show own_Go p.tables e below _ (T333.setTop (mkF m 63 #[.val (.int p1), .val (.long q2), .second, .val (.long q3), .second, .val (.int k), .val (.ref a1), .val (.ref x1), .val (.ref x2), .val (.int (own_b (k + 1 = (1024 : Int32)))), .unset, .unset] [(.ref a1)]))
    obtain ⟨T334, X334, e334, st334⟩ := getF X333 hx hZ hown (host := "") (Or.inl (hw _ (List.mem_of_getElem? (i := 19) rfl))) Via.refl e333 F6_304 (g := (mkF m 63 #[.val (.int p1), .val (.long q2), .second, .val (.long q3), .second, .val (.int k), .val (.ref a1), .val (.ref x1), .val (.ref x2), .val (.int (own_b (k + 1 = (1024 : Int32)))), .unset, .unset] [(.ref a1)])) rfl rfl (hb hby at_63)
    refine own_go st334 ?_
    show own_Go p.tables e below _ (T334.setTop (mkF m 66 #[.val (.int p1), .val (.long q2), .second, .val (.long q3), .second, .val (.int k), .val (.ref a1), .val (.ref x1), .val (.ref x2), .val (.int (own_b (k + 1 = (1024 : Int32)))), .unset, .unset] [(.int (k + 1))]))
    refine own_go (fun _ kont => XS.iload X334.here hx rfl (hb hby at_66) rfl kont) ?_
    show own_Go p.tables e below _ (T334.setTop (mkF m 68 #[.val (.int p1), .val (.long q2), .second, .val (.long q3), .second, .val (.int k), .val (.ref a1), .val (.ref x1), .val (.ref x2), .val (.int (own_b (k + 1 = (1024 : Int32)))), .unset, .unset] [(.int k), (.int (k + 1))]))
    refine own_go (fun _ kont => XS.iconst X334.here hx rfl (hb hby at_68) kont) ?_
    show own_Go p.tables e below _ (T334.setTop (mkF m 69 #[.val (.int p1), .val (.long q2), .second, .val (.long q3), .second, .val (.int k), .val (.ref a1), .val (.ref x1), .val (.ref x2), .val (.int (own_b (k + 1 = (1024 : Int32)))), .unset, .unset] [(.int (1 : Int32)), (.int k), (.int (k + 1))]))
    refine own_go (fun _ kont => XS.iadd X334.here hx rfl (hb hby at_69) rfl kont) ?_
    show own_Go p.tables e below _ (T334.setTop (mkF m 70 #[.val (.int p1), .val (.long q2), .second, .val (.long q3), .second, .val (.int k), .val (.ref a1), .val (.ref x1), .val (.ref x2), .val (.int (own_b (k + 1 = (1024 : Int32)))), .unset, .unset] [(.int (k + (1 : Int32))), (.int (k + 1))]))
    refine own_go (fun _ kont => XS.icmpNo X334.here hx rfl (hb hby at_70) rfl (XT.ii_ne_f (rfl)) kont) ?_
    show own_Go p.tables e below _ (T334.setTop (mkF m 73 #[.val (.int p1), .val (.long q2), .second, .val (.long q3), .second, .val (.int k), .val (.ref a1), .val (.ref x1), .val (.ref x2), .val (.int (own_b (k + 1 = (1024 : Int32)))), .unset, .unset] []))
    refine own_go (fun _ kont => XS.aload X334.here hx rfl (hb hby at_73) rfl rfl kont) ?_
    show own_Go p.tables e below _ (T334.setTop (mkF m 75 #[.val (.int p1), .val (.long q2), .second, .val (.long q3), .second, .val (.int k), .val (.ref a1), .val (.ref x1), .val (.ref x2), .val (.int (own_b (k + 1 = (1024 : Int32)))), .unset, .unset] [(.ref a1)]))
    obtain ⟨T335, X335, e335, st335⟩ := getF X334 hx hZ hown (host := "") (Or.inl (hw _ (List.mem_of_getElem? (i := 29) rfl))) Via.refl e334 F0_298 (g := (mkF m 75 #[.val (.int p1), .val (.long q2), .second, .val (.long q3), .second, .val (.int k), .val (.ref a1), .val (.ref x1), .val (.ref x2), .val (.int (own_b (k + 1 = (1024 : Int32)))), .unset, .unset] [(.ref a1)])) rfl rfl (hb hby at_75)
    refine own_go st335 ?_
    show own_Go p.tables e below _ (T335.setTop (mkF m 78 #[.val (.int p1), .val (.long q2), .second, .val (.long q3), .second, .val (.int k), .val (.ref a1), .val (.ref x1), .val (.ref x2), .val (.int (own_b (k + 1 = (1024 : Int32)))), .unset, .unset] [(.ref ev)]))
    refine own_alen X335 hx hZ e335 V1290 (1024 : Int32) (by decide) (hb hby at_78) ?_
    show own_Go p.tables e below _ (T335.setTop (mkF m 79 #[.val (.int p1), .val (.long q2), .second, .val (.long q3), .second, .val (.int k), .val (.ref a1), .val (.ref x1), .val (.ref x2), .val (.int (own_b (k + 1 = (1024 : Int32)))), .unset, .unset] [(.int (1024 : Int32))]))
    refine own_go (fun _ kont => XS.sipush X335.here hx rfl (hb hby at_79) kont) ?_
    show own_Go p.tables e below _ (T335.setTop (mkF m 82 #[.val (.int p1), .val (.long q2), .second, .val (.long q3), .second, .val (.int k), .val (.ref a1), .val (.ref x1), .val (.ref x2), .val (.int (own_b (k + 1 = (1024 : Int32)))), .unset, .unset] [(.int (1024 : Int32)), (.int (1024 : Int32))]))
    refine own_go (fun _ kont => XS.icmpNo X335.here hx rfl (hb hby at_82) rfl (XT.ii_ne_f (rfl)) kont) ?_
    show own_Go p.tables e below _ (T335.setTop (mkF m 85 #[.val (.int p1), .val (.long q2), .second, .val (.long q3), .second, .val (.int k), .val (.ref a1), .val (.ref x1), .val (.ref x2), .val (.int (own_b (k + 1 = (1024 : Int32)))), .unset, .unset] []))
    refine own_go (fun _ kont => XS.aload X335.here hx rfl (hb hby at_85) rfl rfl kont) ?_
    show own_Go p.tables e below _ (T335.setTop (mkF m 87 #[.val (.int p1), .val (.long q2), .second, .val (.long q3), .second, .val (.int k), .val (.ref a1), .val (.ref x1), .val (.ref x2), .val (.int (own_b (k + 1 = (1024 : Int32)))), .unset, .unset] [(.ref a1)]))
    obtain ⟨T336, X336, e336, st336⟩ := getF X335 hx hZ hown (host := "") (Or.inl (hw _ (List.mem_of_getElem? (i := 30) rfl))) Via.refl e335 F1_299 (g := (mkF m 87 #[.val (.int p1), .val (.long q2), .second, .val (.long q3), .second, .val (.int k), .val (.ref a1), .val (.ref x1), .val (.ref x2), .val (.int (own_b (k + 1 = (1024 : Int32)))), .unset, .unset] [(.ref a1)])) rfl rfl (hb hby at_87)
    refine own_go st336 ?_
    show own_Go p.tables e below _ (T336.setTop (mkF m 90 #[.val (.int p1), .val (.long q2), .second, .val (.long q3), .second, .val (.int k), .val (.ref a1), .val (.ref x1), .val (.ref x2), .val (.int (own_b (k + 1 = (1024 : Int32)))), .unset, .unset] [(.ref po)]))
    refine own_alen X336 hx hZ e336 V2290 (1024 : Int32) (by decide) (hb hby at_90) ?_
    show own_Go p.tables e below _ (T336.setTop (mkF m 91 #[.val (.int p1), .val (.long q2), .second, .val (.long q3), .second, .val (.int k), .val (.ref a1), .val (.ref x1), .val (.ref x2), .val (.int (own_b (k + 1 = (1024 : Int32)))), .unset, .unset] [(.int (1024 : Int32))]))
    refine own_go (fun _ kont => XS.sipush X336.here hx rfl (hb hby at_91) kont) ?_
    show own_Go p.tables e below _ (T336.setTop (mkF m 94 #[.val (.int p1), .val (.long q2), .second, .val (.long q3), .second, .val (.int k), .val (.ref a1), .val (.ref x1), .val (.ref x2), .val (.int (own_b (k + 1 = (1024 : Int32)))), .unset, .unset] [(.int (1024 : Int32)), (.int (1024 : Int32))]))
    refine own_go (fun _ kont => XS.icmpNo X336.here hx rfl (hb hby at_94) rfl (XT.ii_ne_f (rfl)) kont) ?_
    show own_Go p.tables e below _ (T336.setTop (mkF m 97 #[.val (.int p1), .val (.long q2), .second, .val (.long q3), .second, .val (.int k), .val (.ref a1), .val (.ref x1), .val (.ref x2), .val (.int (own_b (k + 1 = (1024 : Int32)))), .unset, .unset] []))
    refine own_go (fun _ kont => XS.aload X336.here hx rfl (hb hby at_97) rfl rfl kont) ?_
    show own_Go p.tables e below _ (T336.setTop (mkF m 99 #[.val (.int p1), .val (.long q2), .second, .val (.long q3), .second, .val (.int k), .val (.ref a1), .val (.ref x1), .val (.ref x2), .val (.int (own_b (k + 1 = (1024 : Int32)))), .unset, .unset] [(.ref a1)]))
    obtain ⟨T337, X337, e337, st337⟩ := getF X336 hx hZ hown (host := "") (Or.inl (hw _ (List.mem_of_getElem? (i := 29) rfl))) Via.refl e336 F0_298 (g := (mkF m 99 #[.val (.int p1), .val (.long q2), .second, .val (.long q3), .second, .val (.int k), .val (.ref a1), .val (.ref x1), .val (.ref x2), .val (.int (own_b (k + 1 = (1024 : Int32)))), .unset, .unset] [(.ref a1)])) rfl rfl (hb hby at_99)
    refine own_go st337 ?_
    show own_Go p.tables e below _ (T337.setTop (mkF m 102 #[.val (.int p1), .val (.long q2), .second, .val (.long q3), .second, .val (.int k), .val (.ref a1), .val (.ref x1), .val (.ref x2), .val (.int (own_b (k + 1 = (1024 : Int32)))), .unset, .unset] [(.ref ev)]))
    refine own_go (fun _ kont => XS.iload X337.here hx rfl (hb hby at_102) rfl kont) ?_
    show own_Go p.tables e below _ (T337.setTop (mkF m 104 #[.val (.int p1), .val (.long q2), .second, .val (.long q3), .second, .val (.int k), .val (.ref a1), .val (.ref x1), .val (.ref x2), .val (.int (own_b (k + 1 = (1024 : Int32)))), .unset, .unset] [(.int k), (.ref ev)]))
    refine own_aald X337 hx hZ e337 V1290 rfl i k0 k1 i0 (w := .ref x1) (if_pos rfl) (hb hby at_104) ?_
    show own_Go p.tables e below _ (T337.setTop (mkF m 105 #[.val (.int p1), .val (.long q2), .second, .val (.long q3), .second, .val (.int k), .val (.ref a1), .val (.ref x1), .val (.ref x2), .val (.int (own_b (k + 1 = (1024 : Int32)))), .unset, .unset] [(.ref x1)]))
    refine own_go (fun _ kont => XS.aload X337.here hx rfl (hb hby at_105) rfl rfl kont) ?_
    show own_Go p.tables e below _ (T337.setTop (mkF m 107 #[.val (.int p1), .val (.long q2), .second, .val (.long q3), .second, .val (.int k), .val (.ref a1), .val (.ref x1), .val (.ref x2), .val (.int (own_b (k + 1 = (1024 : Int32)))), .unset, .unset] [(.ref x1), (.ref x1)]))
    refine own_go (fun _ kont => XT.acmpNo X337.here hx rfl (hb hby at_107) rfl rfl rfl (XT.aa_ne_f (rfl)) kont) ?_
    show own_Go p.tables e below _ (T337.setTop (mkF m 110 #[.val (.int p1), .val (.long q2), .second, .val (.long q3), .second, .val (.int k), .val (.ref a1), .val (.ref x1), .val (.ref x2), .val (.int (own_b (k + 1 = (1024 : Int32)))), .unset, .unset] []))
    refine own_go (fun _ kont => XS.aload X337.here hx rfl (hb hby at_110) rfl rfl kont) ?_
    show own_Go p.tables e below _ (T337.setTop (mkF m 112 #[.val (.int p1), .val (.long q2), .second, .val (.long q3), .second, .val (.int k), .val (.ref a1), .val (.ref x1), .val (.ref x2), .val (.int (own_b (k + 1 = (1024 : Int32)))), .unset, .unset] [(.ref a1)]))
    obtain ⟨T338, X338, e338, st338⟩ := getF X337 hx hZ hown (host := "") (Or.inl (hw _ (List.mem_of_getElem? (i := 30) rfl))) Via.refl e337 F1_299 (g := (mkF m 112 #[.val (.int p1), .val (.long q2), .second, .val (.long q3), .second, .val (.int k), .val (.ref a1), .val (.ref x1), .val (.ref x2), .val (.int (own_b (k + 1 = (1024 : Int32)))), .unset, .unset] [(.ref a1)])) rfl rfl (hb hby at_112)
    refine own_go st338 ?_
    show own_Go p.tables e below _ (T338.setTop (mkF m 115 #[.val (.int p1), .val (.long q2), .second, .val (.long q3), .second, .val (.int k), .val (.ref a1), .val (.ref x1), .val (.ref x2), .val (.int (own_b (k + 1 = (1024 : Int32)))), .unset, .unset] [(.ref po)]))
    refine own_go (fun _ kont => XS.iload X338.here hx rfl (hb hby at_115) rfl kont) ?_
    show own_Go p.tables e below _ (T338.setTop (mkF m 117 #[.val (.int p1), .val (.long q2), .second, .val (.long q3), .second, .val (.int k), .val (.ref a1), .val (.ref x1), .val (.ref x2), .val (.int (own_b (k + 1 = (1024 : Int32)))), .unset, .unset] [(.int k), (.ref po)]))
    refine own_lald X338 hx hZ e338 V2290 i k0 k1 i0 (w := .long q2) (if_pos rfl) (hb hby at_117) ?_
    show own_Go p.tables e below _ (T338.setTop (mkF m 118 #[.val (.int p1), .val (.long q2), .second, .val (.long q3), .second, .val (.int k), .val (.ref a1), .val (.ref x1), .val (.ref x2), .val (.int (own_b (k + 1 = (1024 : Int32)))), .unset, .unset] [(.long q2)]))
    refine own_go (fun _ kont => XS.lloadN X338.here hx rfl (hb hby at_118) rfl kont) ?_
    show own_Go p.tables e below _ (T338.setTop (mkF m 119 #[.val (.int p1), .val (.long q2), .second, .val (.long q3), .second, .val (.int k), .val (.ref a1), .val (.ref x1), .val (.ref x2), .val (.int (own_b (k + 1 = (1024 : Int32)))), .unset, .unset] [(.long q2), (.long q2)]))
    refine own_go (fun _ kont => XS.lcmp X338.here hx rfl (hb hby at_119) rfl kont) ?_
    show own_Go p.tables e below _ (T338.setTop (mkF m 120 #[.val (.int p1), .val (.long q2), .second, .val (.long q3), .second, .val (.int k), .val (.ref a1), .val (.ref x1), .val (.ref x2), .val (.int (own_b (k + 1 = (1024 : Int32)))), .unset, .unset] [(.int (lcmpW q2 q2))]))
    refine own_go (fun _ kont => XS.ifNo X338.here hx rfl (hb hby at_120) rfl (XT.i0_ne_f ((lw_eq _ _).mpr rfl)) kont) ?_
    show own_Go p.tables e below _ (T338.setTop (mkF m 123 #[.val (.int p1), .val (.long q2), .second, .val (.long q3), .second, .val (.int k), .val (.ref a1), .val (.ref x1), .val (.ref x2), .val (.int (own_b (k + 1 = (1024 : Int32)))), .unset, .unset] []))
    refine own_go (fun _ kont => XS.aload X338.here hx rfl (hb hby at_123) rfl rfl kont) ?_
    show own_Go p.tables e below _ (T338.setTop (mkF m 125 #[.val (.int p1), .val (.long q2), .second, .val (.long q3), .second, .val (.int k), .val (.ref a1), .val (.ref x1), .val (.ref x2), .val (.int (own_b (k + 1 = (1024 : Int32)))), .unset, .unset] [(.ref a1)]))
    obtain ⟨T339, X339, e339, st339⟩ := getF X338 hx hZ hown (host := "") (Or.inl (hw _ (List.mem_of_getElem? (i := 31) rfl))) Via.refl e338 F2_300 (g := (mkF m 125 #[.val (.int p1), .val (.long q2), .second, .val (.long q3), .second, .val (.int k), .val (.ref a1), .val (.ref x1), .val (.ref x2), .val (.int (own_b (k + 1 = (1024 : Int32)))), .unset, .unset] [(.ref a1)])) rfl rfl (hb hby at_125)
    refine own_go st339 ?_
    show own_Go p.tables e below _ (T339.setTop (mkF m 128 #[.val (.int p1), .val (.long q2), .second, .val (.long q3), .second, .val (.int k), .val (.ref a1), .val (.ref x1), .val (.ref x2), .val (.int (own_b (k + 1 = (1024 : Int32)))), .unset, .unset] [(.null)]))
    refine own_go (fun _ kont => XS.ifnonnullNo X339.here hx rfl (hb hby at_128) rfl kont) ?_
    show own_Go p.tables e below _ (T339.setTop (mkF m 131 #[.val (.int p1), .val (.long q2), .second, .val (.long q3), .second, .val (.int k), .val (.ref a1), .val (.ref x1), .val (.ref x2), .val (.int (own_b (k + 1 = (1024 : Int32)))), .unset, .unset] []))
    refine own_go (fun _ kont => XS.aload X339.here hx rfl (hb hby at_131) rfl rfl kont) ?_
    show own_Go p.tables e below _ (T339.setTop (mkF m 133 #[.val (.int p1), .val (.long q2), .second, .val (.long q3), .second, .val (.int k), .val (.ref a1), .val (.ref x1), .val (.ref x2), .val (.int (own_b (k + 1 = (1024 : Int32)))), .unset, .unset] [(.ref a1)]))
    obtain ⟨T340, X340, e340, st340⟩ := getF X339 hx hZ hown (host := "") (Or.inl (hw _ (List.mem_of_getElem? (i := 33) rfl))) Via.refl e339 F3_301 (g := (mkF m 133 #[.val (.int p1), .val (.long q2), .second, .val (.long q3), .second, .val (.int k), .val (.ref a1), .val (.ref x1), .val (.ref x2), .val (.int (own_b (k + 1 = (1024 : Int32)))), .unset, .unset] [(.ref a1)])) rfl rfl (hb hby at_133)
    refine own_go st340 ?_
    show own_Go p.tables e below _ (T340.setTop (mkF m 136 #[.val (.int p1), .val (.long q2), .second, .val (.long q3), .second, .val (.int k), .val (.ref a1), .val (.ref x1), .val (.ref x2), .val (.int (own_b (k + 1 = (1024 : Int32)))), .unset, .unset] [(.null)]))
    refine own_go (fun _ kont => XS.ifnonnullNo X340.here hx rfl (hb hby at_136) rfl kont) ?_
    show own_Go p.tables e below _ (T340.setTop (mkF m 139 #[.val (.int p1), .val (.long q2), .second, .val (.long q3), .second, .val (.int k), .val (.ref a1), .val (.ref x1), .val (.ref x2), .val (.int (own_b (k + 1 = (1024 : Int32)))), .unset, .unset] []))
    refine own_go (fun _ kont => XS.aload X340.here hx rfl (hb hby at_139) rfl rfl kont) ?_
    show own_Go p.tables e below _ (T340.setTop (mkF m 141 #[.val (.int p1), .val (.long q2), .second, .val (.long q3), .second, .val (.int k), .val (.ref a1), .val (.ref x1), .val (.ref x2), .val (.int (own_b (k + 1 = (1024 : Int32)))), .unset, .unset] [(.ref a1)]))
    obtain ⟨T341, X341, e341, st341⟩ := getF X340 hx hZ hown (host := "") (Or.inl (hw _ (List.mem_of_getElem? (i := 35) rfl))) Via.refl e340 F4_302 (g := (mkF m 141 #[.val (.int p1), .val (.long q2), .second, .val (.long q3), .second, .val (.int k), .val (.ref a1), .val (.ref x1), .val (.ref x2), .val (.int (own_b (k + 1 = (1024 : Int32)))), .unset, .unset] [(.ref a1)])) rfl rfl (hb hby at_141)
    refine own_go st341 ?_
    show own_Go p.tables e below _ (T341.setTop (mkF m 144 #[.val (.int p1), .val (.long q2), .second, .val (.long q3), .second, .val (.int k), .val (.ref a1), .val (.ref x1), .val (.ref x2), .val (.int (own_b (k + 1 = (1024 : Int32)))), .unset, .unset] [(.null)]))
    refine own_go (fun _ kont => XS.ifnonnullNo X341.here hx rfl (hb hby at_144) rfl kont) ?_
    show own_Go p.tables e below _ (T341.setTop (mkF m 147 #[.val (.int p1), .val (.long q2), .second, .val (.long q3), .second, .val (.int k), .val (.ref a1), .val (.ref x1), .val (.ref x2), .val (.int (own_b (k + 1 = (1024 : Int32)))), .unset, .unset] []))
    refine own_go (fun _ kont => XS.aload X341.here hx rfl (hb hby at_147) rfl rfl kont) ?_
    show own_Go p.tables e below _ (T341.setTop (mkF m 149 #[.val (.int p1), .val (.long q2), .second, .val (.long q3), .second, .val (.int k), .val (.ref a1), .val (.ref x1), .val (.ref x2), .val (.int (own_b (k + 1 = (1024 : Int32)))), .unset, .unset] [(.ref a1)]))
    obtain ⟨T342, X342, e342, st342⟩ := getF X341 hx hZ hown (host := "") (Or.inl (hw _ (List.mem_of_getElem? (i := 37) rfl))) Via.refl e341 F5_303 (g := (mkF m 149 #[.val (.int p1), .val (.long q2), .second, .val (.long q3), .second, .val (.int k), .val (.ref a1), .val (.ref x1), .val (.ref x2), .val (.int (own_b (k + 1 = (1024 : Int32)))), .unset, .unset] [(.ref a1)])) rfl rfl (hb hby at_149)
    refine own_go st342 ?_
    show own_Go p.tables e below _ (T342.setTop (mkF m 152 #[.val (.int p1), .val (.long q2), .second, .val (.long q3), .second, .val (.int k), .val (.ref a1), .val (.ref x1), .val (.ref x2), .val (.int (own_b (k + 1 = (1024 : Int32)))), .unset, .unset] [(.null)]))
    refine own_go (fun _ kont => XS.ifnonnullNo X342.here hx rfl (hb hby at_152) rfl kont) ?_
    show own_Go p.tables e below _ (T342.setTop (mkF m 155 #[.val (.int p1), .val (.long q2), .second, .val (.long q3), .second, .val (.int k), .val (.ref a1), .val (.ref x1), .val (.ref x2), .val (.int (own_b (k + 1 = (1024 : Int32)))), .unset, .unset] []))
    refine own_go (fun _ kont => XS.iconst X342.here hx rfl (hb hby at_155) kont) ?_
    show own_Go p.tables e below _ (T342.setTop (mkF m 156 #[.val (.int p1), .val (.long q2), .second, .val (.long q3), .second, .val (.int k), .val (.ref a1), .val (.ref x1), .val (.ref x2), .val (.int (own_b (k + 1 = (1024 : Int32)))), .unset, .unset] [(.int (1 : Int32))]))
    refine own_go (fun _ kont => XS.goto X342.here hx rfl (pc0 := 156) (pc' := 160) rfl (hb hby at_156) (by decide) (by decide) kont) ?_
    show own_Go p.tables e below _ (T342.setTop (mkF m 160 #[.val (.int p1), .val (.long q2), .second, .val (.long q3), .second, .val (.int k), .val (.ref a1), .val (.ref x1), .val (.ref x2), .val (.int (own_b (k + 1 = (1024 : Int32)))), .unset, .unset] [(.int (1 : Int32))]))
    refine own_go (fun _ kont => XS.istore X342.here hx rfl (hb hby at_160) rfl (l' := #[.val (.int p1), .val (.long q2), .second, .val (.long q3), .second, .val (.int k), .val (.ref a1), .val (.ref x1), .val (.ref x2), .val (.int (own_b (k + 1 = (1024 : Int32)))), .val (.int (1 : Int32)), .unset]) rfl kont) ?_
    show own_Go p.tables e below _ (T342.setTop (mkF m 162 #[.val (.int p1), .val (.long q2), .second, .val (.long q3), .second, .val (.int k), .val (.ref a1), .val (.ref x1), .val (.ref x2), .val (.int (own_b (k + 1 = (1024 : Int32)))), .val (.int (1 : Int32)), .unset] []))
    refine own_go (fun _ kont => XS.iload X342.here hx rfl (hb hby at_162) rfl kont) ?_
    show own_Go p.tables e below _ (T342.setTop (mkF m 164 #[.val (.int p1), .val (.long q2), .second, .val (.long q3), .second, .val (.int k), .val (.ref a1), .val (.ref x1), .val (.ref x2), .val (.int (own_b (k + 1 = (1024 : Int32)))), .val (.int (1 : Int32)), .unset] [(.int k)]))
    by_cases b2 : 0 < k
    · skip
      refine own_go (fun _ kont => XS.ifNo X342.here hx rfl (hb hby at_164) rfl (XT.i0_le_f (b2)) kont) ?_
      show own_Go p.tables e below _ (T342.setTop (mkF m 167 #[.val (.int p1), .val (.long q2), .second, .val (.long q3), .second, .val (.int k), .val (.ref a1), .val (.ref x1), .val (.ref x2), .val (.int (own_b (k + 1 = (1024 : Int32)))), .val (.int (1 : Int32)), .unset] []))
      have i2 : 0 < i := by rw [Int32.lt_iff_toInt_lt] at b2; have l : (0 : Int32).toInt = 0 := (by decide); omega
      refine own_go (fun _ kont => XS.iload X342.here hx rfl (hb hby at_167) rfl kont) ?_
      show own_Go p.tables e below _ (T342.setTop (mkF m 169 #[.val (.int p1), .val (.long q2), .second, .val (.long q3), .second, .val (.int k), .val (.ref a1), .val (.ref x1), .val (.ref x2), .val (.int (own_b (k + 1 = (1024 : Int32)))), .val (.int (1 : Int32)), .unset] [(.int (1 : Int32))]))
      refine own_go (fun _ kont => XS.ifNo X342.here hx rfl (hb hby at_169) rfl (XT.i0_eq_f (by decide)) kont) ?_
      show own_Go p.tables e below _ (T342.setTop (mkF m 172 #[.val (.int p1), .val (.long q2), .second, .val (.long q3), .second, .val (.int k), .val (.ref a1), .val (.ref x1), .val (.ref x2), .val (.int (own_b (k + 1 = (1024 : Int32)))), .val (.int (1 : Int32)), .unset] []))
      refine own_go (fun _ kont => XS.aload X342.here hx rfl (hb hby at_172) rfl rfl kont) ?_
      show own_Go p.tables e below _ (T342.setTop (mkF m 174 #[.val (.int p1), .val (.long q2), .second, .val (.long q3), .second, .val (.int k), .val (.ref a1), .val (.ref x1), .val (.ref x2), .val (.int (own_b (k + 1 = (1024 : Int32)))), .val (.int (1 : Int32)), .unset] [(.ref a1)]))
      obtain ⟨T343, X343, e343, st343⟩ := getF X342 hx hZ hown (host := "") (Or.inl (hw _ (List.mem_of_getElem? (i := 29) rfl))) Via.refl e342 F0_298 (g := (mkF m 174 #[.val (.int p1), .val (.long q2), .second, .val (.long q3), .second, .val (.int k), .val (.ref a1), .val (.ref x1), .val (.ref x2), .val (.int (own_b (k + 1 = (1024 : Int32)))), .val (.int (1 : Int32)), .unset] [(.ref a1)])) rfl rfl (hb hby at_174)
      refine own_go st343 ?_
      show own_Go p.tables e below _ (T343.setTop (mkF m 177 #[.val (.int p1), .val (.long q2), .second, .val (.long q3), .second, .val (.int k), .val (.ref a1), .val (.ref x1), .val (.ref x2), .val (.int (own_b (k + 1 = (1024 : Int32)))), .val (.int (1 : Int32)), .unset] [(.ref ev)]))
      refine own_go (fun _ kont => XS.iload X343.here hx rfl (hb hby at_177) rfl kont) ?_
      show own_Go p.tables e below _ (T343.setTop (mkF m 179 #[.val (.int p1), .val (.long q2), .second, .val (.long q3), .second, .val (.int k), .val (.ref a1), .val (.ref x1), .val (.ref x2), .val (.int (own_b (k + 1 = (1024 : Int32)))), .val (.int (1 : Int32)), .unset] [(.int k), (.ref ev)]))
      refine own_go (fun _ kont => XS.iconst X343.here hx rfl (hb hby at_179) kont) ?_
      show own_Go p.tables e below _ (T343.setTop (mkF m 180 #[.val (.int p1), .val (.long q2), .second, .val (.long q3), .second, .val (.int k), .val (.ref a1), .val (.ref x1), .val (.ref x2), .val (.int (own_b (k + 1 = (1024 : Int32)))), .val (.int (1 : Int32)), .unset] [(.int (1 : Int32)), (.int k), (.ref ev)]))
      refine own_go (fun _ kont => XS.isub X343.here hx rfl (hb hby at_180) rfl kont) ?_
      show own_Go p.tables e below _ (T343.setTop (mkF m 181 #[.val (.int p1), .val (.long q2), .second, .val (.long q3), .second, .val (.int k), .val (.ref a1), .val (.ref x1), .val (.ref x2), .val (.int (own_b (k + 1 = (1024 : Int32)))), .val (.int (1 : Int32)), .unset] [(.int (k - (1 : Int32))), (.ref ev)]))
      refine own_aald X343 hx hZ e343 V1290 rfl (i - 1) (own_ix (k - 1) (i - 1) (own_dn k i ki i2 (by omega))).1 (own_ix (k - 1) (i - 1) (own_dn k i ki i2 (by omega))).2 (by omega) (w := .null) (if_neg (by omega)) (hb hby at_181) ?_
      show own_Go p.tables e below _ (T343.setTop (mkF m 182 #[.val (.int p1), .val (.long q2), .second, .val (.long q3), .second, .val (.int k), .val (.ref a1), .val (.ref x1), .val (.ref x2), .val (.int (own_b (k + 1 = (1024 : Int32)))), .val (.int (1 : Int32)), .unset] [(.null)]))
      refine own_go (fun _ kont => XS.ifnonnullNo X343.here hx rfl (hb hby at_182) rfl kont) ?_
      show own_Go p.tables e below _ (T343.setTop (mkF m 185 #[.val (.int p1), .val (.long q2), .second, .val (.long q3), .second, .val (.int k), .val (.ref a1), .val (.ref x1), .val (.ref x2), .val (.int (own_b (k + 1 = (1024 : Int32)))), .val (.int (1 : Int32)), .unset] []))
      refine own_go (fun _ kont => XS.aload X343.here hx rfl (hb hby at_185) rfl rfl kont) ?_
      show own_Go p.tables e below _ (T343.setTop (mkF m 187 #[.val (.int p1), .val (.long q2), .second, .val (.long q3), .second, .val (.int k), .val (.ref a1), .val (.ref x1), .val (.ref x2), .val (.int (own_b (k + 1 = (1024 : Int32)))), .val (.int (1 : Int32)), .unset] [(.ref a1)]))
      obtain ⟨T344, X344, e344, st344⟩ := getF X343 hx hZ hown (host := "") (Or.inl (hw _ (List.mem_of_getElem? (i := 30) rfl))) Via.refl e343 F1_299 (g := (mkF m 187 #[.val (.int p1), .val (.long q2), .second, .val (.long q3), .second, .val (.int k), .val (.ref a1), .val (.ref x1), .val (.ref x2), .val (.int (own_b (k + 1 = (1024 : Int32)))), .val (.int (1 : Int32)), .unset] [(.ref a1)])) rfl rfl (hb hby at_187)
      refine own_go st344 ?_
      show own_Go p.tables e below _ (T344.setTop (mkF m 190 #[.val (.int p1), .val (.long q2), .second, .val (.long q3), .second, .val (.int k), .val (.ref a1), .val (.ref x1), .val (.ref x2), .val (.int (own_b (k + 1 = (1024 : Int32)))), .val (.int (1 : Int32)), .unset] [(.ref po)]))
      refine own_go (fun _ kont => XS.iload X344.here hx rfl (hb hby at_190) rfl kont) ?_
      show own_Go p.tables e below _ (T344.setTop (mkF m 192 #[.val (.int p1), .val (.long q2), .second, .val (.long q3), .second, .val (.int k), .val (.ref a1), .val (.ref x1), .val (.ref x2), .val (.int (own_b (k + 1 = (1024 : Int32)))), .val (.int (1 : Int32)), .unset] [(.int k), (.ref po)]))
      refine own_go (fun _ kont => XS.iconst X344.here hx rfl (hb hby at_192) kont) ?_
      show own_Go p.tables e below _ (T344.setTop (mkF m 193 #[.val (.int p1), .val (.long q2), .second, .val (.long q3), .second, .val (.int k), .val (.ref a1), .val (.ref x1), .val (.ref x2), .val (.int (own_b (k + 1 = (1024 : Int32)))), .val (.int (1 : Int32)), .unset] [(.int (1 : Int32)), (.int k), (.ref po)]))
      refine own_go (fun _ kont => XS.isub X344.here hx rfl (hb hby at_193) rfl kont) ?_
      show own_Go p.tables e below _ (T344.setTop (mkF m 194 #[.val (.int p1), .val (.long q2), .second, .val (.long q3), .second, .val (.int k), .val (.ref a1), .val (.ref x1), .val (.ref x2), .val (.int (own_b (k + 1 = (1024 : Int32)))), .val (.int (1 : Int32)), .unset] [(.int (k - (1 : Int32))), (.ref po)]))
      refine own_lald X344 hx hZ e344 V2290 (i - 1) (own_ix (k - 1) (i - 1) (own_dn k i ki i2 (by omega))).1 (own_ix (k - 1) (i - 1) (own_dn k i ki i2 (by omega))).2 (by omega) (w := .long (0 : Int64)) (if_neg (by omega)) (hb hby at_194) ?_
      show own_Go p.tables e below _ (T344.setTop (mkF m 195 #[.val (.int p1), .val (.long q2), .second, .val (.long q3), .second, .val (.int k), .val (.ref a1), .val (.ref x1), .val (.ref x2), .val (.int (own_b (k + 1 = (1024 : Int32)))), .val (.int (1 : Int32)), .unset] [(.long (0 : Int64))]))
      refine own_go (fun _ kont => XS.lconst X344.here hx rfl (hb hby at_195) kont) ?_
      show own_Go p.tables e below _ (T344.setTop (mkF m 196 #[.val (.int p1), .val (.long q2), .second, .val (.long q3), .second, .val (.int k), .val (.ref a1), .val (.ref x1), .val (.ref x2), .val (.int (own_b (k + 1 = (1024 : Int32)))), .val (.int (1 : Int32)), .unset] [(.long (0 : Int64)), (.long (0 : Int64))]))
      refine own_go (fun _ kont => XS.lcmp X344.here hx rfl (hb hby at_196) rfl kont) ?_
      show own_Go p.tables e below _ (T344.setTop (mkF m 197 #[.val (.int p1), .val (.long q2), .second, .val (.long q3), .second, .val (.int k), .val (.ref a1), .val (.ref x1), .val (.ref x2), .val (.int (own_b (k + 1 = (1024 : Int32)))), .val (.int (1 : Int32)), .unset] [(.int (lcmpW (0 : Int64) (0 : Int64)))]))
      refine own_go (fun _ kont => XS.ifNo X344.here hx rfl (hb hby at_197) rfl (XT.i0_ne_f ((lw_eq _ _).mpr rfl)) kont) ?_
      show own_Go p.tables e below _ (T344.setTop (mkF m 200 #[.val (.int p1), .val (.long q2), .second, .val (.long q3), .second, .val (.int k), .val (.ref a1), .val (.ref x1), .val (.ref x2), .val (.int (own_b (k + 1 = (1024 : Int32)))), .val (.int (1 : Int32)), .unset] []))
      refine own_go (fun _ kont => XS.iconst X344.here hx rfl (hb hby at_200) kont) ?_
      show own_Go p.tables e below _ (T344.setTop (mkF m 201 #[.val (.int p1), .val (.long q2), .second, .val (.long q3), .second, .val (.int k), .val (.ref a1), .val (.ref x1), .val (.ref x2), .val (.int (own_b (k + 1 = (1024 : Int32)))), .val (.int (1 : Int32)), .unset] [(.int (1 : Int32))]))
      refine own_go (fun _ kont => XS.goto X344.here hx rfl (pc0 := 201) (pc' := 205) rfl (hb hby at_201) (by decide) (by decide) kont) ?_
      show own_Go p.tables e below _ (T344.setTop (mkF m 205 #[.val (.int p1), .val (.long q2), .second, .val (.long q3), .second, .val (.int k), .val (.ref a1), .val (.ref x1), .val (.ref x2), .val (.int (own_b (k + 1 = (1024 : Int32)))), .val (.int (1 : Int32)), .unset] [(.int (1 : Int32))]))
      refine own_go (fun _ kont => XS.istore X344.here hx rfl (hb hby at_205) rfl (l' := #[.val (.int p1), .val (.long q2), .second, .val (.long q3), .second, .val (.int k), .val (.ref a1), .val (.ref x1), .val (.ref x2), .val (.int (own_b (k + 1 = (1024 : Int32)))), .val (.int (1 : Int32)), .unset]) rfl kont) ?_
      show own_Go p.tables e below _ (T344.setTop (mkF m 207 #[.val (.int p1), .val (.long q2), .second, .val (.long q3), .second, .val (.int k), .val (.ref a1), .val (.ref x1), .val (.ref x2), .val (.int (own_b (k + 1 = (1024 : Int32)))), .val (.int (1 : Int32)), .unset] []))
      exact c207  _ _  X344 N333 e344
    · skip
      refine own_go (fun _ kont => XS.ifYes X342.here hx rfl (pc0 := 164) (pc' := 207) rfl (hb hby at_164) rfl (XT.i0_le_t (b2)) (by decide) (by decide) kont) ?_
      show own_Go p.tables e below _ (T342.setTop (mkF m 207 #[.val (.int p1), .val (.long q2), .second, .val (.long q3), .second, .val (.int k), .val (.ref a1), .val (.ref x1), .val (.ref x2), .val (.int (own_b (k + 1 = (1024 : Int32)))), .val (.int (1 : Int32)), .unset] []))
      exact c207  _ _  X342 N333 e342
  refine own_go (fun _ kont => XS.iload X290.here hx rfl (hb hby at_43) rfl kont) ?_
  show own_Go p.tables e below _ (T290.setTop (mkF m 45 #[.val (.int p1), .val (.long q2), .second, .val (.long q3), .second, .val (.int k), .val (.ref a1), .val (.ref x1), .val (.ref x2), .val (.int (own_b (k + 1 = (1024 : Int32)))), .unset, .unset] [(.int (own_b (k + 1 = (1024 : Int32))))]))
  refine own_go (fun _ kont => XS.iload X290.here hx rfl (hb hby at_45) rfl kont) ?_
  show own_Go p.tables e below _ (T290.setTop (mkF m 47 #[.val (.int p1), .val (.long q2), .second, .val (.long q3), .second, .val (.int k), .val (.ref a1), .val (.ref x1), .val (.ref x2), .val (.int (own_b (k + 1 = (1024 : Int32)))), .unset, .unset] [(.int k), (.int (own_b (k + 1 = (1024 : Int32))))]))
  refine own_go (fun _ kont => XS.sipush X290.here hx rfl (hb hby at_47) kont) ?_
  show own_Go p.tables e below _ (T290.setTop (mkF m 50 #[.val (.int p1), .val (.long q2), .second, .val (.long q3), .second, .val (.int k), .val (.ref a1), .val (.ref x1), .val (.ref x2), .val (.int (own_b (k + 1 = (1024 : Int32)))), .unset, .unset] [(.int (1023 : Int32)), (.int k), (.int (own_b (k + 1 = (1024 : Int32))))]))
  by_cases b1 : k = (1023 : Int32)
  · skip
    refine own_go (fun _ kont => XS.icmpNo X290.here hx rfl (hb hby at_50) rfl (XT.ii_ne_f (b1)) kont) ?_
    show own_Go p.tables e below _ (T290.setTop (mkF m 53 #[.val (.int p1), .val (.long q2), .second, .val (.long q3), .second, .val (.int k), .val (.ref a1), .val (.ref x1), .val (.ref x2), .val (.int (own_b (k + 1 = (1024 : Int32)))), .unset, .unset] [(.int (own_b (k + 1 = (1024 : Int32))))]))
    refine own_go (fun _ kont => XS.iconst X290.here hx rfl (hb hby at_53) kont) ?_
    show own_Go p.tables e below _ (T290.setTop (mkF m 54 #[.val (.int p1), .val (.long q2), .second, .val (.long q3), .second, .val (.int k), .val (.ref a1), .val (.ref x1), .val (.ref x2), .val (.int (own_b (k + 1 = (1024 : Int32)))), .unset, .unset] [(.int (1 : Int32)), (.int (own_b (k + 1 = (1024 : Int32))))]))
    refine own_go (fun _ kont => XS.goto X290.here hx rfl (pc0 := 54) (pc' := 58) rfl (hb hby at_54) (by decide) (by decide) kont) ?_
    show own_Go p.tables e below _ (T290.setTop (mkF m 58 #[.val (.int p1), .val (.long q2), .second, .val (.long q3), .second, .val (.int k), .val (.ref a1), .val (.ref x1), .val (.ref x2), .val (.int (own_b (k + 1 = (1024 : Int32)))), .unset, .unset] [(.int (1 : Int32)), (.int (own_b (k + 1 = (1024 : Int32))))]))
    exact c58 _ _ _ (own_b1 ((own_kk k i ki i0).mpr b1)) X290 NA290 rfl
  · skip
    refine own_go (fun _ kont => XS.icmpYes X290.here hx rfl (pc0 := 50) (pc' := 57) rfl (hb hby at_50) rfl (XT.ii_ne_t (b1)) (by decide) (by decide) kont) ?_
    show own_Go p.tables e below _ (T290.setTop (mkF m 57 #[.val (.int p1), .val (.long q2), .second, .val (.long q3), .second, .val (.int k), .val (.ref a1), .val (.ref x1), .val (.ref x2), .val (.int (own_b (k + 1 = (1024 : Int32)))), .unset, .unset] [(.int (own_b (k + 1 = (1024 : Int32))))]))
    refine own_go (fun _ kont => XS.iconst X290.here hx rfl (hb hby at_57) kont) ?_
    show own_Go p.tables e below _ (T290.setTop (mkF m 58 #[.val (.int p1), .val (.long q2), .second, .val (.long q3), .second, .val (.int k), .val (.ref a1), .val (.ref x1), .val (.ref x2), .val (.int (own_b (k + 1 = (1024 : Int32)))), .unset, .unset] [(.int (0 : Int32)), (.int (own_b (k + 1 = (1024 : Int32))))]))
    exact c58 _ _ _ (own_b0 (fun q => b1 ((own_kk k i ki i0).mp q))) X290 NA290 rfl
set_option maxRecDepth 65536 in
set_option maxHeartbeats 40000000 in
theorem own_comes {Post : Tables → Env → Array Value → State → Outcome → State → Prop} (hpost : ∀ tb e args s v u, (limb_1_1.after args s (.returned v) u = true ∧ limb_1_2.after args s (.returned v) u = true) → FrameEnd s (.returned v) u (Jvm.fieldLocs frame_1_writes args s ++ Jvm.arrayLocs frame_1_arrays args s ++ Jvm.staticLocs frame_1_statics s) 24 4224 → Post tb e args s (.returned v) u) :
    ArmFor flags0 classFile x code maxLocals ret World_1 tables_1 room_1 Calls_1 rest_1 Pre_1 Post := by
  intro l hfl _ _ p e ha hc hk s m args below hf hA hF happ hP
  obtain ⟨hcalls, hrest, hpre⟩ := hP
  obtain ⟨-, -, -, hnamed, -, -, -, hat⟩ := (Spec.applies_iff hf).mp happ
  obtain ⟨hg, hn⟩ := and_e (Cond.before_iff.mp (show (Jvm.Cond.and given_1 narrow_1).before args s = true from hpre))
  obtain ⟨g0, g1⟩ := and_e hg
  obtain ⟨i0, g2⟩ := and_e g1
  obtain ⟨i1, g3⟩ := and_e g2
  have i2 := g3
  obtain ⟨w0, w1, w2, rfl⟩ : ∃ w0 w1 w2 : Value, args = #[w0, w1, w2] := by
    have hs : args.size = 3 := by simpa [Cond.value, given_1] using g0
    obtain ⟨L⟩ := args
    match L, hs with
    | [w0, w1, w2], _ => exact ⟨w0, w1, w2, rfl⟩
  have hw := fun d (hd : d ∈ tables_1) => atoms_spec (ws := Jvm.Cond.code x code maxLocals ret :: tables_1) hat d (List.mem_cons_of_mem _ hd)
  have hfit : Fit s := fun {y c} hc i hi => by
    obtain ⟨ha, rfl⟩ := Array.getElem?_eq_some_iff.mp hc
    have q := List.all_eq_true.mp ((Array.all_eq_true_iff_forall_mem.mp hF) _ (Array.getElem_mem ha)) i (List.mem_range.mpr hi)
    simpa [Array.getElem?_eq_getElem hi] using q
  obtain ⟨z0, ez0⟩ := is_v i0
  obtain rfl : w0 = (.int z0) := Option.some.inj ez0
  obtain ⟨z1, ez1⟩ := isL_v i1
  obtain rfl : w1 = (.long z1) := Option.some.inj ez1
  obtain ⟨z2, ez2⟩ := isL_v i2
  obtain rfl : w2 = (.long z2) := Option.some.inj ez2
  obtain ⟨n, o, h1, h2, h3, _, L, rfl, ⟨rfl, N⟩, hq⟩ := own_rm0 l s _ hw tables_1 z0 z1 z2 s.heap s.heap.size (Nat.le_refl _) p e ha hc hk s m _ below hf ((Spec.applies_iff_loose hf).mp happ).1 ⟨rfl, State.Warmed39.refl s, rfl⟩ trivial
  refine ⟨n, _, h1, h2, h3, hpost _ _ _ _ _ _ ⟨Cond.after_iff.mpr rfl, Cond.after_iff.mpr (eq_i res_at (Term.int_eval (1)) rfl)⟩ ⟨hq.1, hq.2.1, (hq.2.2.sift fun y hy => Or.inr (N y hy)).mono (by decide) (by decide)⟩⟩
theorem main_1_1 : Claimed_1_1 := own_comes fun _ _ _ _ _ _ h hF => ⟨h.1, hF⟩
theorem main_1_2 : Claimed_1_2 := own_comes fun _ _ _ _ _ _ h hF => ⟨h.2, hF⟩
end Jvm.Pilot.@@N@@
namespace Jvm.Pilot.@@N@@
open Jvm Jvm.ClassFile Sem Op Lib Jvm.Free Jvm.Stand Jvm.Pilot.@@N@@.Jvm.D
/-! MADE BY PROGRAM (witnessworld.py) out of the Statement's table words and the real class files: 12 classes; the members and pool entries that the words name. The judged class is class 1, her method 1. -/
namespace start1
open Jvm.ClassFile
def u (s : String) : CpInfo := .utf8 (stringToUtf16 s)
/-- a pool by its gaps: so many unusable entries, then the entry; so many at the end -/
def gap : Nat → List CpInfo → List CpInfo
  | 0, r => r
  | n + 1, r => .unusable :: gap n r
def poolList (es : List (Nat × CpInfo)) (last : Nat) : List CpInfo := es.foldr (fun e r => gap e.1 (e.2 :: r)) (gap last [])
def pool (es : List (Nat × CpInfo)) (last : Nat) : Array CpInfo := ⟨poolList es last⟩
def fileOf (pool : Array CpInfo) (this : Nat) (attrs : Array Attribute := #[]) (ms : Array MethodInfo := #[]) (fl : Nat := 33) (sup : Nat := 0) (ifs : Array Nat := #[]) (fds : Array FieldInfo := #[]) : ClassFile where
  minorVersion := 0
  majorVersion := 65
  constantPool := pool
  accessFlags := fl
  thisClass := this
  superClass := sup
  interfaces := ifs
  fields := fds
  methods := ms
  attributes := attrs
def plain (name : String) (sup : Option ClassId) : Class where
  name := name
  kind := .ordinary
  loader := none
  accessFlags := 33
  super := sup
  interfaces := #[]
  cf := none
  fields := #[]
  methods := #[]
  instanceTypes := #[]
  staticTypes := #[]
  resolved := #[]
  callSites := []
  init := .initialized
  statics := none
  mirror := none

def pool0 : Array CpInfo := pool [(5, u "<init>"), (0, u "()V"), (1, .class_ 10), (1, u "java/lang/Object")] 113

def k0c0 : Code := { maxStack := 0, maxLocals := 1, code := object_method_1_code, exceptionTable := #[], attributes := #[] }
def k0m0 : Method := { name := "<init>", desc := "()V", sig := { parameters := [], returnType := none }, accessFlags := 1, code := some k0c0 }
/-- java/lang/Object -/
def k0 : Class := { plain "java/lang/Object" none with
  accessFlags := 33
  interfaces := #[]
  cf := some (fileOf pool0 8 #[] #[{ accessFlags := 1, nameIndex := 5, descriptorIndex := 6, attributes := #[] }] 33 0 #[] #[])
  fields := #[]
  methods := #[k0m0]
  instanceTypes := #[]
  staticTypes := #[]
  resolved := Array.replicate 124 none
  statics := none }

def pool1 : Array CpInfo := pool [(2, .class_ 4), (0, .nameAndType 5 6), (0, u "java/lang/Object"), (0, u "<init>"), (0, u "()V"), (0, .class_ 8), (0, u "dev/millrace/Batch"), (0, .methodref 7 3), (0, .fieldref 7 11), (0, .nameAndType 12 13), (0, u "size"), (0, u "I"), (0, .methodref 7 15), (0, .nameAndType 16 17), (0, u "add"), (0, u "(Ljava/lang/Object;J)Z"), (0, .fieldref 7 19), (0, .nameAndType 20 21), (0, u "events"), (0, u "[Ljava/lang/Object;"), (0, .fieldref 7 23), (0, .nameAndType 24 25), (0, u "positions"), (0, u "[J"), (0, .fieldref 7 27), (0, .nameAndType 28 21), (0, u "keys"), (0, .fieldref 7 30), (0, .nameAndType 31 32), (0, u "lanes"), (0, u "[I"), (0, .fieldref 7 34), (0, .nameAndType 35 36), (0, u "inputs"), (0, u "[Ldev/millrace/Source$Input;"), (0, .fieldref 7 38), (0, .nameAndType 39 25), (0, u "numbers"), (0, .class_ 41), (0, u "dev/millrace/BatchAddPinLaw"), (2, u "law"), (0, u "(IJJ)Z")] 10

def k1m0 : Method := { name := "<init>", desc := "()V", sig := { parameters := [], returnType := none }, accessFlags := 1, code := none }
def k1c1 : Code := { maxStack := 4, maxLocals := 12, code := code, exceptionTable := #[], attributes := #[] }
def k1m1 : Method := { name := "law", desc := "(IJJ)Z", sig := { parameters := [.int, .long, .long], returnType := some .boolean }, accessFlags := 9, code := some k1c1 }
/-- dev/millrace/BatchAddPinLaw -/
def k1 : Class := { plain "dev/millrace/BatchAddPinLaw" (some 0) with
  accessFlags := 49
  interfaces := #[]
  cf := some (fileOf pool1 40 #[] #[{ accessFlags := 1, nameIndex := 5, descriptorIndex := 6, attributes := #[] }, { accessFlags := 9, nameIndex := 44, descriptorIndex := 45, attributes := #[] }] 49 2 #[] #[])
  fields := #[]
  methods := #[k1m0, k1m1]
  instanceTypes := #[]
  staticTypes := #[]
  resolved := Array.replicate 56 none
  statics := none }

def pool2 : Array CpInfo := pool [(1, .class_ 2), (0, u "dev/millrace/Batch"), (0, .methodref 1 4), (0, .nameAndType 5 6), (0, u "<init>"), (0, u "(I)V"), (0, .methodref 8 9), (0, .class_ 10), (0, .nameAndType 5 11), (0, u "java/lang/Object"), (0, u "()V"), (0, .fieldref 1 13), (0, .nameAndType 14 15), (0, u "events"), (0, u "[Ljava/lang/Object;"), (0, .fieldref 1 17), (0, .nameAndType 18 19), (0, u "positions"), (0, u "[J"), (0, .fieldref 1 21), (0, .nameAndType 22 23), (0, u "size"), (0, u "I"), (5, u "inputs"), (0, u "[Ldev/millrace/Source$Input;"), (2, u "numbers"), (2, u "add"), (0, u "(Ljava/lang/Object;J)Z"), (2, u "keys"), (8, u "lanes"), (0, u "[I"), (9, u "EMPTY"), (0, u "Ldev/millrace/Batch;"), (12, u "END"), (0, u "SIZE")] 33

def k2c0 : Code := { maxStack := 2, maxLocals := 1, code := prog_1_method_1_code, exceptionTable := #[], attributes := #[] }
def k2m0 : Method := { name := "<init>", desc := "()V", sig := { parameters := [], returnType := none }, accessFlags := 0, code := some k2c0 }
def k2c1 : Code := { maxStack := 2, maxLocals := 2, code := prog_1_method_2_code, exceptionTable := #[], attributes := #[] }
def k2m1 : Method := { name := "<init>", desc := "(I)V", sig := { parameters := [.int], returnType := none }, accessFlags := 2, code := some k2c1 }
def k2c2 : Code := { maxStack := 4, maxLocals := 4, code := prog_1_method_3_code, exceptionTable := #[], attributes := #[] }
def k2m2 : Method := { name := "add", desc := "(Ljava/lang/Object;J)Z", sig := { parameters := [(.object "java/lang/Object"), .long], returnType := some .boolean }, accessFlags := 0, code := some k2c2 }
/-- dev/millrace/Batch -/
def k2 : Class := { plain "dev/millrace/Batch" (some 0) with
  accessFlags := 48
  interfaces := #[]
  cf := some (fileOf pool2 1 #[] #[{ accessFlags := 0, nameIndex := 5, descriptorIndex := 11, attributes := #[] }, { accessFlags := 2, nameIndex := 5, descriptorIndex := 6, attributes := #[] }, { accessFlags := 0, nameIndex := 36, descriptorIndex := 37, attributes := #[] }] 48 8 #[] #[{ accessFlags := 24, nameIndex := 75, descriptorIndex := 23, attributes := #[] }, { accessFlags := 24, nameIndex := 74, descriptorIndex := 61, attributes := #[] }, { accessFlags := 24, nameIndex := 60, descriptorIndex := 61, attributes := #[] }, { accessFlags := 16, nameIndex := 14, descriptorIndex := 15, attributes := #[] }, { accessFlags := 16, nameIndex := 18, descriptorIndex := 19, attributes := #[] }, { accessFlags := 0, nameIndex := 40, descriptorIndex := 15, attributes := #[] }, { accessFlags := 0, nameIndex := 49, descriptorIndex := 50, attributes := #[] }, { accessFlags := 0, nameIndex := 29, descriptorIndex := 30, attributes := #[] }, { accessFlags := 0, nameIndex := 33, descriptorIndex := 19, attributes := #[] }, { accessFlags := 0, nameIndex := 22, descriptorIndex := 23, attributes := #[] }])
  fields := #[{ name := "SIZE", type := .int, accessFlags := 24, slot := 0, constantValue := 0 }, { name := "END", type := (.object "dev/millrace/Batch"), accessFlags := 24, slot := 1, constantValue := 0 }, { name := "EMPTY", type := (.object "dev/millrace/Batch"), accessFlags := 24, slot := 2, constantValue := 0 }, { name := "events", type := (.array (.object "java/lang/Object")), accessFlags := 16, slot := 0, constantValue := 0 }, { name := "positions", type := (.array .long), accessFlags := 16, slot := 1, constantValue := 0 }, { name := "keys", type := (.array (.object "java/lang/Object")), accessFlags := 0, slot := 2, constantValue := 0 }, { name := "lanes", type := (.array .int), accessFlags := 0, slot := 3, constantValue := 0 }, { name := "inputs", type := (.array (.object "dev/millrace/Source$Input")), accessFlags := 0, slot := 4, constantValue := 0 }, { name := "numbers", type := (.array .long), accessFlags := 0, slot := 5, constantValue := 0 }, { name := "size", type := .int, accessFlags := 0, slot := 6, constantValue := 0 }]
  methods := #[k2m0, k2m1, k2m2]
  instanceTypes := #[(.array (.object "java/lang/Object")), (.array .long), (.array (.object "java/lang/Object")), (.array .int), (.array (.object "dev/millrace/Source$Input")), (.array .long), .int]
  staticTypes := #[.int, (.object "dev/millrace/Batch"), (.object "dev/millrace/Batch")]
  resolved := Array.replicate 109 none
  statics := none }

def pool3 : Array CpInfo := pool [(1, u "java/lang/Cloneable"), (0, .class_ 1), (0, u "java/lang/Object"), (0, .class_ 3)] 3

/-- java/lang/Cloneable -/
def k3 : Class := { plain "java/lang/Cloneable" (some 0) with
  accessFlags := 1537
  interfaces := #[]
  cf := some (fileOf pool3 2 #[] #[] 1537 4 #[] #[])
  fields := #[]
  methods := #[]
  instanceTypes := #[]
  staticTypes := #[]
  resolved := Array.replicate 8 none
  statics := none }

def pool4 : Array CpInfo := pool [(1, u "java/io/Serializable"), (0, .class_ 1), (0, u "java/lang/Object"), (0, .class_ 3)] 3

/-- java/io/Serializable -/
def k4 : Class := { plain "java/io/Serializable" (some 0) with
  accessFlags := 1537
  interfaces := #[]
  cf := some (fileOf pool4 2 #[] #[] 1537 4 #[] #[])
  fields := #[]
  methods := #[]
  instanceTypes := #[]
  staticTypes := #[]
  resolved := Array.replicate 8 none
  statics := none }

/-- the primitive byte -/
def k5 : Class := { plain "byte" none with kind := .primitive 'B', accessFlags := 0x411 }
/-- [B -/
def k6 : Class := { plain "[B" (some 0) with kind := .array 5 .byte, interfaces := #[3, 4], accessFlags := 1041 }

/-- the primitive int -/
def k7 : Class := { plain "int" none with kind := .primitive 'I', accessFlags := 0x411 }
/-- [I -/
def k8 : Class := { plain "[I" (some 0) with kind := .array 7 .int, interfaces := #[3, 4], accessFlags := 1041 }

/-- the primitive long -/
def k9 : Class := { plain "long" none with kind := .primitive 'J', accessFlags := 0x411 }
/-- [J -/
def k10 : Class := { plain "[J" (some 0) with kind := .array 9 .long, interfaces := #[3, 4], accessFlags := 1041 }

/-- [Ljava/lang/Object; -/
def k11 : Class := { plain "[Ljava/lang/Object;" (some 0) with kind := .array 0 (.object "java/lang/Object"), interfaces := #[3, 4], accessFlags := 1041 }

def heap : Heap := #[]
def classes : Array Class := #[k0, k1, k2, k3, k4, k5, k6, k7, k8, k9, k10, k11]
def interned : List (Array UInt16 × Addr) := []
def slotsUsed : Nat := 0
def theMethod : MethodId := ⟨1, 1⟩
def args0 : Array Value := #[.int 5, .long 300, .long 7]
def aboutOver (below : List Frame) : State where
  vm := { classes := classes, interned := interned.toArray }
  heap := heap
  slotsUsed := slotsUsed
  threads := #[{ frames := .invoking theMethod args0 :: below }]
def below0 : List Frame := [.native { method := ⟨0, 0⟩, args := #[] }]
def about1 : State := aboutOver below0
def p0 : Program := .bare "" "" ""
def e0 : Env := launch0.env 0 0 0
theorem w_frames : about1.frames = Frame.invoking theMethod args0 :: below0 := rfl
set_option maxRecDepth 65536 in
theorem w_args : argsFit about1.vm theMethod args0 = true := by decide +kernel
set_option maxRecDepth 65536 in
theorem w_heap : heapFits about1 = true := by decide +kernel
set_option maxRecDepth 65536 in
theorem w_runnable : about1.curStatus? = some .runnable := by decide +kernel
set_option maxRecDepth 65536 in
theorem w_alone : about1.alone = true := by decide +kernel
set_option maxRecDepth 65536 in
theorem w_named : about1.methodNamed? x = some theMethod := by decide +kernel
set_option maxRecDepth 65536 in
theorem w_hears : about1.hears theMethod below0 = true := by decide +kernel
set_option maxRecDepth 65536 in
theorem w_ripe : about1.ripe theMethod args0 below0 = true := by decide +kernel
theorem w_running : about1.status = .running := rfl
set_option maxRecDepth 65536 in
theorem w_room : about1.hasRoom e0.platform room_1 = true :=
  launch0.hasRoom_least _ room_1 (by decide +kernel) (by decide +kernel) (by decide +kernel) (by decide +kernel) (by decide +kernel) (by decide +kernel)
theorem allAtoms_all (ts : List Jvm.Cond) (a : Array Jvm.Value) (st : Jvm.State) : (allAtoms ts).before a st = ts.all (fun c => c.before a st) := by
  induction ts with
  | nil => rfl
  | cons c t ih =>
    show (Jvm.Cond.and c (allAtoms t)).before a st = _
    rw [Jvm.Cond.before_and, ih, List.all_cons]
def words1 : List Jvm.Cond := Jvm.Cond.code x code maxLocals ret :: tables_1
/-- a 'code' word, met by the world's own term for the bytes: nothing is compared byte by byte -/
theorem code_word {y : MethodName} {bytes : ByteArray} {mx : Nat} {rt : Option FieldType} {a : Array Value} {s : State} {m : MethodId} {meth : Method} {c : Code} (h1 : s.methodNamed? y = some m) (h2 : s.vm.method? m = some meth) (h3 : meth.code = some c) (h4 : c.code = bytes)
    (h5 : (c.maxLocals == mx && c.exceptionTable.isEmpty && decide (c.maxStack ≤ mostOperands) && decide (meth.sig.returnType = rt) && !meth.locks && decide (parseMethodDescriptor y.desc = some meth.sig)) = true) : (Jvm.Cond.code y bytes mx rt).before a s = true := by
  simp only [Bool.and_eq_true, beq_iff_eq, Bool.not_eq_true', decide_eq_true_eq] at h5
  obtain ⟨⟨⟨⟨⟨g1, g2⟩, g3⟩, g4⟩, g5⟩, g6⟩ := h5
  simp [Cond.before, Cond.holds, Cond.value, h1, h2, h3, h4, g1, g2, g3, g4, g5, g6]
def isCode : Jvm.Cond → Bool
  | .code _ _ _ _ => true
  | _ => false
theorem all_split {L : List Jvm.Cond} {P : Jvm.Cond → Bool} (h1 : L.all (fun c => isCode c || P c) = true) (h2 : ∀ c ∈ L.filter isCode, P c = true) : L.all P = true := by
  refine List.all_eq_true.mpr fun c hc => ?_
  have h := List.all_eq_true.mp h1 c hc
  rcases Bool.eq_false_or_eq_true (isCode c) with hi | hi
  · exact h2 c (List.mem_filter.mpr ⟨hc, hi⟩)
  · simpa [hi] using h
set_option maxRecDepth 65536 in
theorem w_c0 : (Jvm.Cond.code x code maxLocals ret).before args0 about1 = true := code_word (m := ⟨1, 1⟩) (meth := k1m1) (c := k1c1) (by decide +kernel) rfl rfl rfl (by decide +kernel)
set_option maxRecDepth 65536 in
theorem w_c1 : (Jvm.Cond.code ({ cls := "dev/millrace/Batch", name := "<init>", desc := "()V" } : Jvm.MethodName) prog_1_method_1_code (1 : Nat) (Option.none : Option Jvm.ClassFile.FieldType)).before args0 about1 = true := code_word (m := ⟨2, 0⟩) (meth := k2m0) (c := k2c0) (by decide +kernel) rfl rfl rfl (by decide +kernel)
set_option maxRecDepth 65536 in
theorem w_c2 : (Jvm.Cond.code ({ cls := "dev/millrace/Batch", name := "<init>", desc := "(I)V" } : Jvm.MethodName) prog_1_method_2_code (2 : Nat) (Option.none : Option Jvm.ClassFile.FieldType)).before args0 about1 = true := code_word (m := ⟨2, 1⟩) (meth := k2m1) (c := k2c1) (by decide +kernel) rfl rfl rfl (by decide +kernel)
set_option maxRecDepth 65536 in
theorem w_c3 : (Jvm.Cond.code ({ cls := "java/lang/Object", name := "<init>", desc := "()V" } : Jvm.MethodName) object_method_1_code (1 : Nat) (Option.none : Option Jvm.ClassFile.FieldType)).before args0 about1 = true := code_word (m := ⟨0, 0⟩) (meth := k0m0) (c := k0c0) (by decide +kernel) rfl rfl rfl (by decide +kernel)
set_option maxRecDepth 65536 in
theorem w_c4 : (Jvm.Cond.code ({ cls := "dev/millrace/Batch", name := "add", desc := "(Ljava/lang/Object;J)Z" } : Jvm.MethodName) prog_1_method_3_code (4 : Nat) (Option.some Jvm.ClassFile.FieldType.boolean)).before args0 about1 = true := code_word (m := ⟨2, 2⟩) (meth := k2m2) (c := k2c2) (by decide +kernel) rfl rfl rfl (by decide +kernel)
def codes1 : List Jvm.Cond := [Jvm.Cond.code x code maxLocals ret, Jvm.Cond.code ({ cls := "dev/millrace/Batch", name := "<init>", desc := "()V" } : Jvm.MethodName) prog_1_method_1_code (1 : Nat) (Option.none : Option Jvm.ClassFile.FieldType), Jvm.Cond.code ({ cls := "dev/millrace/Batch", name := "<init>", desc := "(I)V" } : Jvm.MethodName) prog_1_method_2_code (2 : Nat) (Option.none : Option Jvm.ClassFile.FieldType), Jvm.Cond.code ({ cls := "java/lang/Object", name := "<init>", desc := "()V" } : Jvm.MethodName) object_method_1_code (1 : Nat) (Option.none : Option Jvm.ClassFile.FieldType), Jvm.Cond.code ({ cls := "dev/millrace/Batch", name := "add", desc := "(Ljava/lang/Object;J)Z" } : Jvm.MethodName) prog_1_method_3_code (4 : Nat) (Option.some Jvm.ClassFile.FieldType.boolean)]
set_option maxRecDepth 65536 in
theorem codes_eq : words1.filter isCode = codes1 := rfl
theorem w_codes : ∀ c ∈ words1.filter isCode, c.before args0 about1 = true := by
  rw [codes_eq]
  intro c hc
  simp only [codes1, List.mem_cons, List.not_mem_nil, or_false] at hc
  rcases hc with rfl | rfl | rfl | rfl | rfl
  · exact w_c0
  · exact w_c1
  · exact w_c2
  · exact w_c3
  · exact w_c4
set_option maxRecDepth 65536 in
theorem w_t1 : (words1.take 24).all (fun c => isCode c || c.before args0 about1) = true := by decide +kernel
set_option maxRecDepth 65536 in
theorem w_t2 : (words1.drop 24).all (fun c => isCode c || c.before args0 about1) = true := by decide +kernel
theorem w_tables : (allAtoms (Jvm.Cond.code x code maxLocals ret :: tables_1)).before args0 about1 = true := by
  rw [allAtoms_all]
  show words1.all (fun c => c.before args0 about1) = true
  refine all_split ?_ w_codes
  rw [← List.take_append_drop 24 words1, List.all_append, w_t1, w_t2]
  rfl
set_option maxRecDepth 65536 in
theorem w_case : (Jvm.Cond.and given_1 narrow_1).before args0 about1 = true := by decide +kernel
theorem w_applies : (headSpec (Jvm.Cond.code x code maxLocals ret :: tables_1) room_1).applies x e0.platform about1 = true :=
  (Spec.applies_iff w_frames).mpr ⟨w_running, w_runnable, w_alone, w_named, w_hears, w_ripe, w_room, w_tables⟩
theorem atStart : AtStart classFile x code maxLocals ret World_1 tables_1 room_1 Calls_1 rest_1 Pre_1 launch0 p0 e0 about1 theMethod args0 below0 :=
  ⟨lists_1, trivial, launch0.admits_env _ _ _, launch0.least_env, fairChoices_fair.cas, fairChoices_fair.clock, w_frames, w_args, w_heap, w_applies, trivial, trivial, w_case⟩
end start1
theorem witness_1 : WitnessClaimed_1 := ⟨start1.p0, start1.e0, start1.about1, start1.theMethod, start1.args0, start1.below0, start1.atStart⟩
end Jvm.Pilot.@@N@@
