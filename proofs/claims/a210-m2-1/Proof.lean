import JvmDerived
import JvmDerived.Pilot.@@N@@Statement
import JvmDerived.Pilot.@@N@@Code
set_option linter.unusedVariables false
set_option linter.unusedSimpArgs false
namespace Jvm.Pilot.@@N@@
open Jvm Jvm.ClassFile Sem Op Lib Jvm.Free Jvm.Stand Jvm.LawKit Jvm.RoadKit Bundle Jvm.Pilot.@@N@@.Jvm.D

/-! own kit: the walk goes forward, from state to state, to an end that the contract names -/
section OwnKit
variable {p : Program} {l : Launch} {e : Env} {R : Room} {s : State} {m : MethodId} {args : Array Value} {below : List Frame} {meth : Method} {c : Code} {T : State} {locs : List Loc} {cells slots : Nat} {Z : State} {a0 : Array Value} {h : Heap}
def own_Go (tb : Tables) (e : Env) (below : List Frame) (F : State → Outcome → Prop) (S : State) : Prop := ∃ t o, Steps tb e below S t ∧ F t o
theorem own_go {tb : Tables} {F : State → Outcome → Prop} {S S' : State} (k : ∀ t, Steps tb e below S' t → Steps tb e below S t) (q : own_Go tb e below F S') : own_Go tb e below F S := by
  obtain ⟨t, o, a, b⟩ := q; exact ⟨t, o, k t a, b⟩
theorem own_gt {tb : Tables} {F : State → Outcome → Prop} {S S' : State} (k : Steps tb e below S S') (q : own_Go tb e below F S') : own_Go tb e below F S := own_go (fun _ r => k.trans r) q
def own_Fin (s : State) (below : List Frame) (Q : Option Value → Heap → List Loc → Prop) (nc ns : Nat) (t : State) (o : Outcome) : Prop :=
  t.status = .running ∧ Ended t below o ∧ ∃ v L, o = .returned v ∧ Q v t.heap L ∧ FrameEnd s o t L nc ns
def own_Met (l : Launch) (y : MethodName) (ws : List Jvm.Cond) (rm : Room) (Z : State) (h : Heap) (as : Array Value) (Q : Option Value → Heap → List Loc → Prop) : Prop :=
  MetFree l y (head1 ws rm) (fun a U => a = as ∧ Z.Warmed39 U.vm ∧ U.heap = h) (fun _ _ _ _ _ => True) (fun _ U o U' => ∃ v L, o = .returned v ∧ Q v U'.heap L ∧ FrameEnd U o U' L rm.cells rm.slots)
theorem own_body {y : MethodName} {bytes : ByteArray} {mx : Nat} {rt : Option FieldType} {rm : Room} {ws : List Jvm.Cond} {as : Array Value} {Q : Option Value → Heap → List Loc → Prop} (pn : plainName y.cls = true)
    (H : ∀ (p : Program) (e : Env) (s : State) (m : MethodId) (below : List Frame) (meth : Method) (c : Code) (s₁ : State), p.tables.exec = Jvm.exec → c.code = bytes → c.maxLocals = mx → s.vm.findClass y.cls = some m.cls → meth.name = y.name → meth.sig.returnType = rt → meth.locks = false → Z.Warmed39 s.vm →
      Stand p l e rm s m as below meth c s₁ [] 0 0 → s₁.heap = h → own_Go p.tables e below (own_Fin s below Q rm.cells rm.slots) (s₁.setTop (entryFrame m as mx))) :
    own_Met l y (Jvm.Cond.code y bytes mx rt :: ws) rm Z h as Q := by
  refine MetFree.of_bodySF (plainFor_of_name pn) hisR ?_
  intro p e s m args below meth c s₁ Bd hml hP hK
  obtain ⟨rfl, hZ, hh⟩ := hP
  exact H p e s m below meth c s₁ Bd.exec Bd.bytes hml (findClass_of_methodNamed Bd.named) (name_of_methodNamed Bd.named Bd.method).1 Bd.returns Bd.notSynchronized hZ (Stand.of_body Bd) (by rw [← hh, Bd.state]; rfl)
theorem own_end (X : Stand p l e R s m args below meth c T locs cells slots) {v : Option Value} {g : JFrame} {Q : Option Value → Heap → List Loc → Prop} {nc ns : Nat} (hlk : meth.locks = false) (hv : meth.sig.returnType = none → v = none)
    (st : ∀ fs, (∀ (f : JFrame) (acts : List Action), f.method = m → f.locked = none → f.entered = [] → (doReturn e (T.setTop f) acts v).1 = T.setFrames fs) → Steps p.tables e below (T.setTop g) (T.setFrames fs)) (hQ : Q v T.heap locs) (h1 : cells ≤ nc) (h2 : slots ≤ ns) :
    own_Go p.tables e below (own_Fin s below Q nc ns) (T.setTop g) := by
  obtain ⟨fs, hr, hrun, hended, hW, hsame⟩ := X.leave (v := v) hv hlk
  exact ⟨_, _, st fs hr, hrun, hended, _, _, rfl, hQ, ⟨_, rfl⟩, hW, hsame.mono h1 h2⟩
theorem own_retI (X : Stand p l e R s m args below meth c T locs cells slots) (hx : p.tables.exec = Jvm.exec) {pc : Nat} {Ls : Array Slot} {z : Int32} {t : FieldType} {rest : List Value} {Q : Option Value → Heap → List Loc → Prop} {nc ns : Nat} (hlk : meth.locks = false) (hret : meth.sig.returnType = some t) (ht : t = .int ∨ t = .boolean ∨ t = .byte ∨ t = .char ∨ t = .short) (hn : narrow t (.int z) = .int z)
    (hd : decode c.code pc = .ok (.ireturn, 1)) (hQ : Q (some (.int z)) T.heap locs) (h1 : cells ≤ nc) (h2 : slots ≤ ns) : own_Go p.tables e below (own_Fin s below Q nc ns) (T.setTop (mkF m pc Ls (.int z :: rest))) :=
  own_end X hlk (fun q => by rw [hret] at q; cases q) (fun fs hr => retOut X hx hret hn (Or.inl ⟨rfl, ht, _, rfl⟩) hd hr) hQ h1 h2
theorem own_retJ (X : Stand p l e R s m args below meth c T locs cells slots) (hx : p.tables.exec = Jvm.exec) {pc : Nat} {Ls : Array Slot} {z : Int64} {rest : List Value} {Q : Option Value → Heap → List Loc → Prop} {nc ns : Nat} (hlk : meth.locks = false) (hret : meth.sig.returnType = some .long)
    (hd : decode c.code pc = .ok (.lreturn, 1)) (hQ : Q (some (.long z)) T.heap locs) (h1 : cells ≤ nc) (h2 : slots ≤ ns) : own_Go p.tables e below (own_Fin s below Q nc ns) (T.setTop (mkF m pc Ls (.long z :: rest))) :=
  own_end X hlk (fun q => by rw [hret] at q; cases q) (fun fs hr => retOut X hx hret rfl (Or.inr (Or.inl ⟨rfl, rfl, _, rfl⟩)) hd hr) hQ h1 h2
theorem own_retA (X : Stand p l e R s m args below meth c T locs cells slots) (hx : p.tables.exec = Jvm.exec) {pc : Nat} {Ls : Array Slot} {w : Value} {t : FieldType} {rest : List Value} {Q : Option Value → Heap → List Loc → Prop} {nc ns : Nat} (hlk : meth.locks = false) (hret : meth.sig.returnType = some t) (ht : t.isReference = true) (hw : w.isRef = true)
    (hd : decode c.code pc = .ok (.areturn, 1)) (hQ : Q (some w) T.heap locs) (h1 : cells ≤ nc) (h2 : slots ≤ ns) : own_Go p.tables e below (own_Fin s below Q nc ns) (T.setTop (mkF m pc Ls (w :: rest))) :=
  own_end X hlk (fun q => by rw [hret] at q; cases q) (fun fs hr => retOut X hx hret (by cases t <;> first | (cases ht; done) | (cases w <;> first | rfl | cases hw)) (Or.inr (Or.inr (Or.inr (Or.inr ⟨rfl, ht, hw⟩)))) hd hr) hQ h1 h2
theorem own_retV (X : Stand p l e R s m args below meth c T locs cells slots) (hx : p.tables.exec = Jvm.exec) {pc : Nat} {Ls : Array Slot} {Q : Option Value → Heap → List Loc → Prop} {nc ns : Nat} (hlk : meth.locks = false) (hret : meth.sig.returnType = none)
    (hd : decode c.code pc = .ok (.return_, 1)) (hQ : Q none T.heap locs) (h1 : cells ≤ nc) (h2 : slots ≤ ns) : own_Go p.tables e below (own_Fin s below Q nc ns) (T.setTop (mkF m pc Ls [])) :=
  own_end X hlk (fun _ => rfl) (fun fs hr => X.returnOut hx hret hd hr) hQ h1 h2
theorem own_callS (X : Stand p l e R s m args below meth c T locs cells slots) (hx : p.tables.exec = Jvm.exec) (hZ : Z.Warmed39 s.vm) {own : String} {index : Nat} {y : MethodName} {bytes : ByteArray} {mx : Nat} {rt : Option FieldType} {rm : Room} {W pc : Nat} {Ls : Array Slot} {St argsL rest : List Value} {Q : Option Value → Heap → List Loc → Prop} {F : State → Outcome → Prop}
    (hown : s.vm.findClass own = some m.cls) (w1 : (Jvm.Cond.methodLink own index y).before a0 Z = true) (w2 : (Jvm.Cond.static y).before a0 Z = true) (w3 : (Jvm.Cond.initialized y.cls).before a0 Z = true) (w4 : (Jvm.Cond.code y bytes mx rt).before a0 Z = true)
    (hy : y.cls ≠ "java/lang/invoke/MethodHandle" ∧ y.cls ≠ "java/lang/invoke/VarHandle") (M : own_Met l y [Jvm.Cond.code y bytes mx rt] rm Z h argsL.toArray Q) (eT : T.heap = h) (hf : rm.frames + 1 ≤ R.frames) (hl : W + (mx + 11) + rm.locals ≤ R.locals) (hc : cells + rm.cells ≤ R.cells) (hs : slots + rm.slots ≤ R.slots)
    (hsz : Ls.size = c.maxLocals) (hlen : ∀ sig, parseMethodDescriptor y.desc = some sig → argsL.length = sig.parameters.length) (hst : St = argsL.reverse ++ rest) (hW : (rest.map fun v => v.category).sum ≤ W) (hd : decode c.code pc = .ok (.invokestatic index, 3))
    (K : ∀ v T' L, Stand p l e R s m args below meth c T' (locs ++ L) (cells + rm.cells) (slots + rm.slots) → Q v T'.heap L → own_Go p.tables e below F (T'.setTop (mkF m (pc + 3) Ls (v.toList ++ rest)))) :
    own_Go p.tables e below F (T.setTop (mkF m pc Ls St)) := by
  obtain ⟨v, _, ⟨T', L', k', n'⟩, -, X', ⟨L, hQ, l1, l2, l3⟩, st⟩ := Jvm.LawKit.callS X hx (y := y) hown (mvT hZ w1) (mvT hZ w2) (mvT hZ w3) (mvT hZ w4) hy (backOf (W := W) M hZ w4 w3 hf hl) (g := mkF m pc Ls St) rfl hsz (argsL := argsL) (rest := rest) hlen hst (by show 2 * 0 + _ ≤ _; rw [Nat.mul_zero, Nat.zero_add]; exact hW) hd (fun _ _ => ⟨rfl, eT, hc, hs⟩)
  dsimp only [Pt.U, Pt.locs, Pt.cells, Pt.slots] at X' l1 l2 l3 st hQ
  subst l1 l2 l3
  exact own_go st (K v T' L X' hQ)
theorem own_callV (X : Stand p l e R s m args below meth c T locs cells slots) (hx : p.tables.exec = Jvm.exec) (hZ : Z.Warmed39 s.vm) {own C : String} {index : Nat} {z : MethodName} {bytes : ByteArray} {mx : Nat} {rt : Option FieldType} {rm : Room} {W pc : Nat} {Ls : Array Slot} {a : Addr} {St argsL rest : List Value} {Q : Option Value → Heap → List Loc → Prop} {F : State → Outcome → Prop}
    (hown : s.vm.findClass own = some m.cls) (w1 : (Jvm.Cond.methodLink own index z).before a0 Z = true) (w2 : (Jvm.Cond.declares z).before a0 Z = true) (w3 : (Jvm.Cond.selects C z z).before a0 Z = true) (w4 : (Jvm.Cond.instanceMethod z).before a0 Z = true) (w5 : (Jvm.Cond.code z bytes mx rt).before a0 Z = true) (w6 : (Jvm.Cond.initialized z.cls).before a0 Z = true)
    (hy : z.cls ≠ "java/lang/invoke/MethodHandle" ∧ z.cls ≠ "java/lang/invoke/VarHandle") (E : Exa Z h a C) (M : own_Met l z [Jvm.Cond.code z bytes mx rt] rm Z h (.ref a :: argsL).toArray Q) (eT : T.heap = h) (hf : rm.frames + 1 ≤ R.frames) (hl : W + (mx + 11) + rm.locals ≤ R.locals) (hc : cells + rm.cells ≤ R.cells) (hs : slots + rm.slots ≤ R.slots)
    (hsz : Ls.size = c.maxLocals) (hlen : ∀ sig, parseMethodDescriptor z.desc = some sig → argsL.length = sig.parameters.length) (hst : St = argsL.reverse ++ .ref a :: rest) (hW : (rest.map fun v => v.category).sum ≤ W) (hd : decode c.code pc = .ok (.invokevirtual index, 3))
    (K : ∀ v T' L, Stand p l e R s m args below meth c T' (locs ++ L) (cells + rm.cells) (slots + rm.slots) → Q v T'.heap L → own_Go p.tables e below F (T'.setTop (mkF m (pc + 3) Ls (v.toList ++ rest)))) :
    own_Go p.tables e below F (T.setTop (mkF m pc Ls St)) := by
  obtain ⟨cq, kq, q1, q2, q3⟩ := isOf hZ eT E
  obtain ⟨v, _, ⟨T', L', k', n'⟩, -, X', ⟨L, hQ, l1, l2, l3⟩, st⟩ := X.virtualBack hx (y := z) (z := z) hown (mvT hZ w1) (mvT hZ w2) (notFace_of_selects (args := #[]) (mvT hZ w3)) (mvT hZ w3) (mvT hZ w4) hy (backOf (W := W) M hZ w5 w6 hf hl) q1 q3 (g := mkF m pc Ls St) rfl hsz (Steps.refl _) (argsL := argsL) (rest := rest) hlen hst (by show 2 * 0 + _ ≤ _; rw [Nat.mul_zero, Nat.zero_add]; exact hW) hd (fun _ _ => ⟨rfl, eT, hc, hs⟩)
  dsimp only [Pt.U, Pt.locs, Pt.cells, Pt.slots] at X' l1 l2 l3 st hQ
  subst l1 l2 l3
  exact own_gt st (K v T' L X' hQ)
theorem own_callI (X : Stand p l e R s m args below meth c T locs cells slots) (hx : p.tables.exec = Jvm.exec) (hZ : Z.Warmed39 s.vm) {own : String} {index : Nat} {y : MethodName} {bytes : ByteArray} {mx : Nat} {rm : Room} {W pc : Nat} {Ls : Array Slot} {a : Addr} {St argsL rest : List Value} {Q : Option Value → Heap → List Loc → Prop} {F : State → Outcome → Prop}
    (hown : s.vm.findClass own = some m.cls) (w1 : (Jvm.Cond.methodLink own index y).before a0 Z = true) (w2 : (Jvm.Cond.instanceMethod y).before a0 Z = true) (w3 : (Jvm.Cond.code y bytes mx none).before a0 Z = true) (w4 : (Jvm.Cond.initialized y.cls).before a0 Z = true) (hi : y.name = "<init>")
    (hy : y.cls ≠ "java/lang/invoke/MethodHandle" ∧ y.cls ≠ "java/lang/invoke/VarHandle") (M : own_Met l y [Jvm.Cond.code y bytes mx none] rm Z h (.ref a :: argsL).toArray Q) (eT : T.heap = h) (hf : rm.frames + 1 ≤ R.frames) (hl : W + (mx + 11) + rm.locals ≤ R.locals) (hc : cells + rm.cells ≤ R.cells) (hs : slots + rm.slots ≤ R.slots)
    (hsz : Ls.size = c.maxLocals) (hlen : ∀ sig, parseMethodDescriptor y.desc = some sig → argsL.length = sig.parameters.length) (hst : St = argsL.reverse ++ .ref a :: rest) (hW : (rest.map fun v => v.category).sum ≤ W) (hd : decode c.code pc = .ok (.invokespecial index, 3))
    (K : ∀ v T' L, Stand p l e R s m args below meth c T' (locs ++ L) (cells + rm.cells) (slots + rm.slots) → Q v T'.heap L → own_Go p.tables e below F (T'.setTop (mkF m (pc + 3) Ls (v.toList ++ rest)))) :
    own_Go p.tables e below F (T.setTop (mkF m pc Ls St)) := by
  obtain ⟨v, _, ⟨T', L', k', n'⟩, -, X', ⟨L, hQ, l1, l2, l3⟩, st⟩ := X.specialBack hx (y := y) hi hown (mvT hZ w1) (mvT hZ w2) (mvT hZ w3) hy (backOf (W := W) M hZ w3 w4 hf hl) (g := mkF m pc Ls St) rfl hsz (Steps.refl _) (a := a) (argsL := argsL) (rest := rest) hlen hst (by show 2 * 0 + _ ≤ _; rw [Nat.mul_zero, Nat.zero_add]; exact hW) hd (fun _ _ => ⟨rfl, eT, hc, hs⟩)
  dsimp only [Pt.U, Pt.locs, Pt.cells, Pt.slots] at X' l1 l2 l3 st hQ
  subst l1 l2 l3
  exact own_gt st (K v T' L X' hQ)
end OwnKit

def own_fl (q : Int32) (d : Int64) : Int32 := (((q.toInt64 * (661971961083 : Int64)) + d) >>> ((41 : Int32) &&& 0x3f).toInt64).toInt32
def own_ex (q : Int32) : Int32 := ((q.toInt64 * (323228496 : Int64)) >>> ((30 : Int32) &&& 0x3f).toInt64).toInt32
theorem own_flv (q : Int32) (d : Int64) (h1 : -1074 ≤ q.toInt) (h2 : q.toInt ≤ 971) (h3 : -4503599627370496 ≤ d.toInt) (h4 : d.toInt ≤ 4503599627370496) : (own_fl q d).toInt = (q.toInt * 661971961083 + d.toInt) / 2199023255552 := by
  have a1 := c_i2l q
  have a2 := c_lmul q.toInt64 661971961083
  have l2 : (661971961083 : Int64).toInt = 661971961083 := by decide
  rw [a1, l2] at a2
  have a3 := c_ladd (q.toInt64 * 661971961083) d
  have r2 := rng64 (q.toInt64 * 661971961083)
  have r3 := rng64 (q.toInt64 * 661971961083 + d)
  have e2 : (q.toInt64 * 661971961083).toInt = q.toInt * 661971961083 := by omega
  have e3 : (q.toInt64 * 661971961083 + d).toInt = q.toInt * 661971961083 + d.toInt := by omega
  have a4 := c_lshr (q.toInt64 * 661971961083 + d) 41 41 (by decide)
  have l4 : (((2 ^ 41 : Nat) : Nat) : Int) = 2199023255552 := by decide
  rw [e3, l4] at a4
  unfold own_fl
  generalize (q.toInt64 * (661971961083 : Int64) + d) >>> ((41 : Int32) &&& 0x3f).toInt64 = S at a4 ⊢
  have a5 := c_l2i S
  have r5 := rng32 S.toInt32
  clear a1 a2 a3 r2 r3 e2 e3 l2 l4
  omega
theorem own_exv (q : Int32) (h1 : -1074 ≤ q.toInt) (h2 : q.toInt ≤ 971) : (own_ex q).toInt = (q.toInt * 323228496) / 1073741824 := by
  have a1 := c_i2l q
  have a2 := c_lmul q.toInt64 323228496
  have l2 : (323228496 : Int64).toInt = 323228496 := by decide
  rw [a1, l2] at a2
  have r2 := rng64 (q.toInt64 * 323228496)
  have e2 : (q.toInt64 * 323228496).toInt = q.toInt * 323228496 := by omega
  have a4 := c_lshr (q.toInt64 * 323228496) 30 30 (by decide)
  have l4 : (((2 ^ 30 : Nat) : Nat) : Int) = 1073741824 := by decide
  rw [e2, l4] at a4
  unfold own_ex
  generalize (q.toInt64 * (323228496 : Int64)) >>> ((30 : Int32) &&& 0x3f).toInt64 = S at a4 ⊢
  have a5 := c_l2i S
  have r5 := rng32 S.toInt32
  clear a1 a2 r2 e2 l2 l4
  omega
set_option maxRecDepth 65536 in
theorem own_tab : ∀ i : Fin 2046, (((i.1 : Int) - 1074) * 323228496) / 1073741824 = (((i.1 : Int) - 1074) * 661971961083) / 2199023255552 := by decide +kernel
theorem own_same (n : Int) (h1 : -1074 ≤ n) (h2 : n ≤ 971) : (n * 323228496) / 1073741824 = (n * 661971961083) / 2199023255552 := by
  have q := own_tab ⟨(n + 1074).toNat, by omega⟩
  have e : (((n + 1074).toNat : Int) - 1074) = n := by omega
  simp only [e] at q
  exact q
theorem own_er (n : Int) (h1 : -1074 ≤ n) (h2 : n ≤ 971) : -400 ≤ (n * 661971961083) / 2199023255552 ∧ (n * 661971961083) / 2199023255552 ≤ 400 := by omega
theorem own_d1 (A : Int) : (A + -274743187321) / 2199023255552 = A / 2199023255552 ∨ (A + -274743187321) / 2199023255552 = A / 2199023255552 - 1 := by omega
theorem own_d2 (A m : Int) : (A + m * 2199023255552) / 2199023255552 = A / 2199023255552 + m := by omega
theorem own_d3 (A m r : Int) (h1 : 0 ≤ r) (h2 : r < 2199023255552) : (A + (m * 2199023255552 + r)) / 2199023255552 = A / 2199023255552 + m ∨ (A + (m * 2199023255552 + r)) / 2199023255552 = A / 2199023255552 + m + 1 := by omega
def own_q (a : Int32) : Int32 := ((a &&& (2147483647 : Int32)) % (2046 : Int32)) - (1074 : Int32)
theorem own_qr (a : Int32) : -1074 ≤ (own_q a).toInt ∧ (own_q a).toInt ≤ 971 := by
  have a1 := c_mask a 2147483647 31 (by decide) (by decide)
  have l1 : (((2 ^ 31 : Nat) : Nat) : Int) = 2147483648 := by decide
  rw [l1] at a1
  have a2 := (c_irem (a &&& 2147483647) 2046 2046 (by decide)).1 (by omega)
  have a3 := c_isub ((a &&& 2147483647) % 2046) 1074
  have l3 : (1074 : Int32).toInt = 1074 := by decide
  rw [l3] at a3
  have r := rng32 (own_q a)
  unfold own_q at r ⊢
  omega
theorem own_mr (b : Int32) : -1000 < (b % (1000 : Int32)).toInt ∧ (b % (1000 : Int32)).toInt < 1000 := by
  have a2 := c_irem b 1000 1000 (by decide)
  rcases Int.lt_or_le b.toInt 0 with q | q
  · have := a2.2 q; omega
  · have := a2.1 q; omega
def own_m (b : Int32) : Int64 := (b % (1000 : Int32)).toInt64 * (2199023255552 : Int64)
theorem own_mv (b : Int32) : (own_m b).toInt = (b % (1000 : Int32)).toInt * 2199023255552 := by
  have r := own_mr b
  have a1 := c_i2l (b % 1000)
  have a2 := c_lmul (b % 1000).toInt64 2199023255552
  have l2 : (2199023255552 : Int64).toInt = 2199023255552 := by decide
  rw [a1, l2] at a2
  have r2 := rng64 (own_m b)
  unfold own_m at r2 ⊢
  omega
def own_r (c : Int64) : Int64 := c &&& ((2199023255552 : Int64) - (1 : Int64))
theorem own_rr (c : Int64) : 0 ≤ (own_r c).toInt ∧ (own_r c).toInt < 2199023255552 := by
  have a1 := c_maskL c ((2199023255552 : Int64) - (1 : Int64)) 41 (by decide) (by decide)
  have l1 : (((2 ^ 41 : Nat) : Nat) : Int) = 2199023255552 := by decide
  rw [l1] at a1
  unfold own_r
  omega
theorem own_1 (a : Int32) : own_fl (own_q a) 0 = own_ex (own_q a) := by
  have r := own_qr a
  apply Int32.toInt_inj.mp
  rw [own_flv _ _ r.1 r.2 (by decide) (by decide), own_exv _ r.1 r.2, own_same _ r.1 r.2]
  have l : (0 : Int64).toInt = 0 := by decide
  rw [l, Int.add_zero]
theorem own_sum (x y : Int32) (h1 : -2000000 ≤ x.toInt + y.toInt) (h2 : x.toInt + y.toInt ≤ 2000000) : (x + y).toInt = x.toInt + y.toInt := by
  have e := c_iadd x y
  have r := rng32 (x + y)
  omega
theorem own_dif (x y : Int32) (h1 : -2000000 ≤ x.toInt - y.toInt) (h2 : x.toInt - y.toInt ≤ 2000000) : (x - y).toInt = x.toInt - y.toInt := by
  have e := c_isub x y
  have r := rng32 (x - y)
  omega
theorem own_j3 (G E M : Int32) (h : G.toInt = E.toInt + M.toInt ∨ G.toInt = E.toInt + M.toInt + 1) (h1 : -100000 ≤ E.toInt + M.toInt) (h2 : E.toInt + M.toInt ≤ 100000) : G.toInt = (E + M).toInt ∨ G.toInt = (E + M + 1).toInt := by
  have l4 : (1 : Int32).toInt = 1 := by decide
  rw [own_sum (E + M) 1 (by rw [own_sum E M (by omega) (by omega), l4]; omega) (by rw [own_sum E M (by omega) (by omega), l4]; omega), own_sum E M (by omega) (by omega), l4]
  exact h
theorem own_j4 (G E : Int32) (h : G.toInt = E.toInt ∨ G.toInt = E.toInt - 1) (h1 : -100000 ≤ E.toInt) (h2 : E.toInt ≤ 100000) : G.toInt = E.toInt ∨ G.toInt = (E - 1).toInt := by
  have l4 : (1 : Int32).toInt = 1 := by decide
  rw [own_dif E 1 (by rw [l4]; omega) (by rw [l4]; omega), l4]
  exact h
theorem own_exr (a : Int32) : (own_ex (own_q a)).toInt = ((own_q a).toInt * 661971961083) / 2199023255552 ∧ -400 ≤ (own_ex (own_q a)).toInt ∧ (own_ex (own_q a)).toInt ≤ 400 := by
  have r := own_qr a
  have e2 := own_exv (own_q a) r.1 r.2
  rw [own_same _ r.1 r.2] at e2
  have er := own_er _ r.1 r.2
  rw [← e2] at er
  exact ⟨e2, er⟩
theorem own_2 (a b : Int32) : own_fl (own_q a) (own_m b) = own_ex (own_q a) + b % (1000 : Int32) := by
  have r := own_qr a
  have rm := own_mr b
  have mv := own_mv b
  have ex := own_exr a
  apply Int32.toInt_inj.mp
  rw [own_flv (own_q a) (own_m b) r.1 r.2 (by omega) (by omega), mv, own_d2, ← ex.1]
  exact (own_sum _ _ (by omega) (by omega)).symm
theorem own_3 (a b : Int32) (c : Int64) : own_fl (own_q a) (own_m b + own_r c) = own_ex (own_q a) + b % (1000 : Int32) ∨ own_fl (own_q a) (own_m b + own_r c) = own_ex (own_q a) + b % (1000 : Int32) + (1 : Int32) := by
  have r := own_qr a
  have rm := own_mr b
  have mv := own_mv b
  have rr := own_rr c
  have ex := own_exr a
  have s1 := c_ladd (own_m b) (own_r c)
  have s2 := rng64 (own_m b + own_r c)
  have s3 : (own_m b + own_r c).toInt = (b % (1000 : Int32)).toInt * 2199023255552 + (own_r c).toInt := by omega
  have e1 := own_flv (own_q a) (own_m b + own_r c) r.1 r.2 (by omega) (by omega)
  rw [s3] at e1
  have d3 := own_d3 ((own_q a).toInt * 661971961083) (b % (1000 : Int32)).toInt (own_r c).toInt rr.1 rr.2
  rw [← e1, ← ex.1] at d3
  rw [← Int32.toInt_inj, ← Int32.toInt_inj]
  have ex2 := ex.2
  clear ex e1 s1 s2 s3 mv r rr
  generalize own_ex (own_q a) = E at *
  generalize own_fl (own_q a) (own_m b + own_r c) = G at *
  generalize b % (1000 : Int32) = M at *
  exact own_j3 G E M d3 (by omega) (by omega)
theorem own_4 (a : Int32) : own_fl (own_q a) (-274743187321) = own_ex (own_q a) ∨ own_fl (own_q a) (-274743187321) = own_ex (own_q a) - (1 : Int32) := by
  have r := own_qr a
  have ex := own_exr a
  have l : (-274743187321 : Int64).toInt = -274743187321 := by decide
  have e1 := own_flv (own_q a) (-274743187321) r.1 r.2 (by rw [l]; decide) (by rw [l]; decide)
  rw [l] at e1
  have d1 := own_d1 ((own_q a).toInt * 661971961083)
  rw [← e1, ← ex.1] at d1
  rw [← Int32.toInt_inj, ← Int32.toInt_inj]
  have ex2 := ex.2
  exact own_j4 _ _ d1 (Int.le_trans (by decide) ex2.1) (Int.le_trans ex2.2 (by decide))
theorem own_d1_0 : decode prog_19_method_8_code 0 = .ok (.iload_n 0, 1) := by decide +kernel
theorem own_d1_1 : decode prog_19_method_8_code 1 = .ok (.i2l, 1) := by decide +kernel
theorem own_d1_2 : decode prog_19_method_8_code 2 = .ok (.ldc2_w 75, 3) := by decide +kernel
theorem own_d1_5 : decode prog_19_method_8_code 5 = .ok (.lmul, 1) := by decide +kernel
theorem own_d1_6 : decode prog_19_method_8_code 6 = .ok (.lload_n 1, 1) := by decide +kernel
theorem own_d1_7 : decode prog_19_method_8_code 7 = .ok (.ladd, 1) := by decide +kernel
theorem own_d1_8 : decode prog_19_method_8_code 8 = .ok (.bipush 41, 2) := by decide +kernel
theorem own_d1_10 : decode prog_19_method_8_code 10 = .ok (.lshr, 1) := by decide +kernel
theorem own_d1_11 : decode prog_19_method_8_code 11 = .ok (.l2i, 1) := by decide +kernel
theorem own_d1_12 : decode prog_19_method_8_code 12 = .ok (.ireturn, 1) := by decide +kernel
theorem own_pn_1 : plainName "com/example/cast4/cast4/print/ShortestDecimal" = true := by first | (simp [plainName, overriddenIn]; done) | decide +kernel
theorem own_pn_0 : plainName "com/example/cast4/cast4/print/ShortestDecimalFloorLog10PinLaw" = true := by first | (simp [plainName, overriddenIn]; done) | decide +kernel
theorem own_pd__IJ_I : parseMethodDescriptor "(IJ)I" = some ⟨[.int, .long], (some .int)⟩ := by decide +kernel
theorem own_rm1_ef (m : MethodId) (p1 : Int32) (q2 : Int64)  : entryFrame m #[(.int p1), (.long q2)] 3 = mkF m 0 #[.val (.int p1), .val (.long q2), .second] [] := by first | (simp [entryFrame, mkF, argsToLocals, Value.category, maxLocals]; done) | rfl
set_option maxRecDepth 65536 in
set_option maxHeartbeats 40000000 in
theorem own_rm1 (l : Launch) (Z : State) (a0 : Array Value) (hw : ∀ d ∈ tables_1, d.before a0 Z = true) (p1 : Int32) (q2 : Int64) (h0 : Heap) (n0 : Nat) (Z0 : n0 ≤ h0.size)  :
    own_Met l (⟨"com/example/cast4/cast4/print/ShortestDecimal", "floorLog10", "(IJ)I"⟩ : MethodName) (Jvm.Cond.code (⟨"com/example/cast4/cast4/print/ShortestDecimal", "floorLog10", "(IJ)I"⟩ : MethodName) prog_19_method_8_code 3 (some .int) :: []) ({ frames := 0, cells := 0, slots := 0, locals := 0 } : Room) Z h0 #[(.int p1), (.long q2)] (fun v h L => v = some (.int (own_fl p1 q2)) ∧ Fr n0 L ∧ h = h0) := by
  refine own_body (pn := own_pn_1) ?_
  intro p e s m below meth c s₁ hx hby hml hown hnm hret hlk hZ X0 e0
  have N0 := Fr.nil n0
  refine own_go (fun _ k => castTop (own_rm1_ef m p1 q2 ) k) ?_
  show own_Go p.tables e below _ (s₁.setTop (mkF m 0 #[.val (.int p1), .val (.long q2), .second] []))
  refine own_go (fun _ k => XS.iloadN X0.here hx rfl (hb hby own_d1_0) rfl k) ?_
  show own_Go p.tables e below _ (s₁.setTop (mkF m 1 #[.val (.int p1), .val (.long q2), .second] [(.int p1)]))
  refine own_go (fun _ k => XS.i2l X0.here hx rfl (hb hby own_d1_1) rfl k) ?_
  show own_Go p.tables e below _ (s₁.setTop (mkF m 2 #[.val (.int p1), .val (.long q2), .second] [(.long (p1.toInt64))]))
  refine own_go (fun _ k => X0.ldc2J hx hown (mvT hZ (hw _ (List.mem_of_getElem? (i := 7) rfl))) rfl (hb hby own_d1_2) k) ?_
  show own_Go p.tables e below _ (s₁.setTop (mkF m 5 #[.val (.int p1), .val (.long q2), .second] [(.long (661971961083 : Int64)), (.long (p1.toInt64))]))
  refine own_go (fun _ k => XS.lmul X0.here hx rfl (hb hby own_d1_5) rfl k) ?_
  show own_Go p.tables e below _ (s₁.setTop (mkF m 6 #[.val (.int p1), .val (.long q2), .second] [(.long ((p1.toInt64) * (661971961083 : Int64)))]))
  refine own_go (fun _ k => XS.lloadN X0.here hx rfl (hb hby own_d1_6) rfl k) ?_
  show own_Go p.tables e below _ (s₁.setTop (mkF m 7 #[.val (.int p1), .val (.long q2), .second] [(.long q2), (.long ((p1.toInt64) * (661971961083 : Int64)))]))
  refine own_go (fun _ k => XS.ladd X0.here hx rfl (hb hby own_d1_7) rfl k) ?_
  show own_Go p.tables e below _ (s₁.setTop (mkF m 8 #[.val (.int p1), .val (.long q2), .second] [(.long (((p1.toInt64) * (661971961083 : Int64)) + q2))]))
  refine own_go (fun _ k => XS.bipush X0.here hx rfl (hb hby own_d1_8) k) ?_
  show own_Go p.tables e below _ (s₁.setTop (mkF m 10 #[.val (.int p1), .val (.long q2), .second] [(.int (41 : Int32)), (.long (((p1.toInt64) * (661971961083 : Int64)) + q2))]))
  refine own_go (fun _ k => XS.lshr X0.here hx rfl (hb hby own_d1_10) rfl k) ?_
  show own_Go p.tables e below _ (s₁.setTop (mkF m 11 #[.val (.int p1), .val (.long q2), .second] [(.long ((((p1.toInt64) * (661971961083 : Int64)) + q2) >>> ((41 : Int32) &&& 0x3f).toInt64))]))
  refine own_go (fun _ k => XS.l2i X0.here hx rfl (hb hby own_d1_11) rfl k) ?_
  show own_Go p.tables e below _ (s₁.setTop (mkF m 12 #[.val (.int p1), .val (.long q2), .second] [(.int (((((p1.toInt64) * (661971961083 : Int64)) + q2) >>> ((41 : Int32) &&& 0x3f).toInt64).toInt32))]))
  exact own_retI X0 hx hlk hret (by simp) rfl (hb hby own_d1_12) (⟨rfl, N0, e0⟩) (by decide) (by decide)
theorem own_rm0_ef (m : MethodId) (p1 : Int32) (p2 : Int32) (q3 : Int64)  : entryFrame m #[(.int p1), (.int p2), (.long q3)] maxLocals = mkF m 0 #[.val (.int p1), .val (.int p2), .val (.long q3), .second, .unset, .unset, .unset, .unset, .unset, .unset, .unset, .unset, .unset, .unset, .unset] [] := by first | (simp [entryFrame, mkF, argsToLocals, Value.category, maxLocals]; done) | rfl
set_option maxRecDepth 65536 in
set_option maxHeartbeats 40000000 in
theorem own_rm0 (l : Launch) (Z : State) (a0 : Array Value) (hw : ∀ d ∈ tables_1, d.before a0 Z = true) (ws : List Jvm.Cond) (p1 : Int32) (p2 : Int32) (q3 : Int64) (h0 : Heap) (n0 : Nat) (Z0 : n0 ≤ h0.size)  :
    own_Met l x (Jvm.Cond.code x code maxLocals ret :: ws) room_1 Z h0 #[(.int p1), (.int p2), (.long q3)] (fun v h L => v = some (.int 1) ∧ Fr n0 L) := by
  refine own_body (pn := own_pn_0) ?_
  intro p e s m below meth c s₁ hx hby hml hown hnm hret hlk hZ X0 e0
  have N0 := Fr.nil n0
  refine own_go (fun _ k => castTop (own_rm0_ef m p1 p2 q3 ) k) ?_
  show own_Go p.tables e below _ (s₁.setTop (mkF m 0 #[.val (.int p1), .val (.int p2), .val (.long q3), .second, .unset, .unset, .unset, .unset, .unset, .unset, .unset, .unset, .unset, .unset, .unset] []))
  refine own_go (fun _ k => XS.iloadN X0.here hx rfl (hb hby at_0) rfl k) ?_
  show own_Go p.tables e below _ (s₁.setTop (mkF m 1 #[.val (.int p1), .val (.int p2), .val (.long q3), .second, .unset, .unset, .unset, .unset, .unset, .unset, .unset, .unset, .unset, .unset, .unset] [(.int p1)]))
  refine own_go (fun _ k => X0.ldcI hx hown (mvT hZ (hw _ (List.mem_of_getElem? (i := 0) rfl))) rfl (hb hby at_1) k) ?_
  show own_Go p.tables e below _ (s₁.setTop (mkF m 3 #[.val (.int p1), .val (.int p2), .val (.long q3), .second, .unset, .unset, .unset, .unset, .unset, .unset, .unset, .unset, .unset, .unset, .unset] [(.int (2147483647 : Int32)), (.int p1)]))
  refine own_go (fun _ k => XS.iand X0.here hx rfl (hb hby at_3) rfl k) ?_
  show own_Go p.tables e below _ (s₁.setTop (mkF m 4 #[.val (.int p1), .val (.int p2), .val (.long q3), .second, .unset, .unset, .unset, .unset, .unset, .unset, .unset, .unset, .unset, .unset, .unset] [(.int (p1 &&& (2147483647 : Int32)))]))
  refine own_go (fun _ k => XS.sipush X0.here hx rfl (hb hby at_4) k) ?_
  show own_Go p.tables e below _ (s₁.setTop (mkF m 7 #[.val (.int p1), .val (.int p2), .val (.long q3), .second, .unset, .unset, .unset, .unset, .unset, .unset, .unset, .unset, .unset, .unset, .unset] [(.int (2046 : Int32)), (.int (p1 &&& (2147483647 : Int32)))]))
  refine own_go (fun _ k => iremM X0 hx rfl (hb hby at_7) rfl (by decide) k) ?_
  show own_Go p.tables e below _ (s₁.setTop (mkF m 8 #[.val (.int p1), .val (.int p2), .val (.long q3), .second, .unset, .unset, .unset, .unset, .unset, .unset, .unset, .unset, .unset, .unset, .unset] [(.int ((p1 &&& (2147483647 : Int32)) % (2046 : Int32)))]))
  refine own_go (fun _ k => XS.sipush X0.here hx rfl (hb hby at_8) k) ?_
  show own_Go p.tables e below _ (s₁.setTop (mkF m 11 #[.val (.int p1), .val (.int p2), .val (.long q3), .second, .unset, .unset, .unset, .unset, .unset, .unset, .unset, .unset, .unset, .unset, .unset] [(.int (1074 : Int32)), (.int ((p1 &&& (2147483647 : Int32)) % (2046 : Int32)))]))
  refine own_go (fun _ k => XS.isub X0.here hx rfl (hb hby at_11) rfl k) ?_
  show own_Go p.tables e below _ (s₁.setTop (mkF m 12 #[.val (.int p1), .val (.int p2), .val (.long q3), .second, .unset, .unset, .unset, .unset, .unset, .unset, .unset, .unset, .unset, .unset, .unset] [(.int (((p1 &&& (2147483647 : Int32)) % (2046 : Int32)) - (1074 : Int32)))]))
  show own_Go p.tables e below _ (s₁.setTop (mkF m 12 #[.val (.int p1), .val (.int p2), .val (.long q3), .second, .unset, .unset, .unset, .unset, .unset, .unset, .unset, .unset, .unset, .unset, .unset] [(.int (own_q p1))]))
  refine own_go (fun _ k => XS.istore X0.here hx rfl (hb hby at_12) rfl (l' := #[.val (.int p1), .val (.int p2), .val (.long q3), .second, .val (.int (own_q p1)), .unset, .unset, .unset, .unset, .unset, .unset, .unset, .unset, .unset, .unset]) rfl k) ?_
  show own_Go p.tables e below _ (s₁.setTop (mkF m 14 #[.val (.int p1), .val (.int p2), .val (.long q3), .second, .val (.int (own_q p1)), .unset, .unset, .unset, .unset, .unset, .unset, .unset, .unset, .unset, .unset] []))
  refine own_go (fun _ k => XS.iloadN X0.here hx rfl (hb hby at_14) rfl k) ?_
  show own_Go p.tables e below _ (s₁.setTop (mkF m 15 #[.val (.int p1), .val (.int p2), .val (.long q3), .second, .val (.int (own_q p1)), .unset, .unset, .unset, .unset, .unset, .unset, .unset, .unset, .unset, .unset] [(.int p2)]))
  refine own_go (fun _ k => XS.sipush X0.here hx rfl (hb hby at_15) k) ?_
  show own_Go p.tables e below _ (s₁.setTop (mkF m 18 #[.val (.int p1), .val (.int p2), .val (.long q3), .second, .val (.int (own_q p1)), .unset, .unset, .unset, .unset, .unset, .unset, .unset, .unset, .unset, .unset] [(.int (1000 : Int32)), (.int p2)]))
  refine own_go (fun _ k => iremM X0 hx rfl (hb hby at_18) rfl (by decide) k) ?_
  show own_Go p.tables e below _ (s₁.setTop (mkF m 19 #[.val (.int p1), .val (.int p2), .val (.long q3), .second, .val (.int (own_q p1)), .unset, .unset, .unset, .unset, .unset, .unset, .unset, .unset, .unset, .unset] [(.int (p2 % (1000 : Int32)))]))
  refine own_go (fun _ k => XS.istore X0.here hx rfl (hb hby at_19) rfl (l' := #[.val (.int p1), .val (.int p2), .val (.long q3), .second, .val (.int (own_q p1)), .val (.int (p2 % (1000 : Int32))), .unset, .unset, .unset, .unset, .unset, .unset, .unset, .unset, .unset]) rfl k) ?_
  show own_Go p.tables e below _ (s₁.setTop (mkF m 21 #[.val (.int p1), .val (.int p2), .val (.long q3), .second, .val (.int (own_q p1)), .val (.int (p2 % (1000 : Int32))), .unset, .unset, .unset, .unset, .unset, .unset, .unset, .unset, .unset] []))
  refine own_go (fun _ k => X0.ldc2J hx hown (mvT hZ (hw _ (List.mem_of_getElem? (i := 1) rfl))) rfl (hb hby at_21) k) ?_
  show own_Go p.tables e below _ (s₁.setTop (mkF m 24 #[.val (.int p1), .val (.int p2), .val (.long q3), .second, .val (.int (own_q p1)), .val (.int (p2 % (1000 : Int32))), .unset, .unset, .unset, .unset, .unset, .unset, .unset, .unset, .unset] [(.long (2199023255552 : Int64))]))
  refine own_go (fun _ k => XS.lstore X0.here hx rfl (hb hby at_24) rfl (l' := #[.val (.int p1), .val (.int p2), .val (.long q3), .second, .val (.int (own_q p1)), .val (.int (p2 % (1000 : Int32))), .val (.long (2199023255552 : Int64)), .second, .unset, .unset, .unset, .unset, .unset, .unset, .unset]) rfl k) ?_
  show own_Go p.tables e below _ (s₁.setTop (mkF m 26 #[.val (.int p1), .val (.int p2), .val (.long q3), .second, .val (.int (own_q p1)), .val (.int (p2 % (1000 : Int32))), .val (.long (2199023255552 : Int64)), .second, .unset, .unset, .unset, .unset, .unset, .unset, .unset] []))
  refine own_go (fun _ k => XS.lloadN X0.here hx rfl (hb hby at_26) rfl k) ?_
  show own_Go p.tables e below _ (s₁.setTop (mkF m 27 #[.val (.int p1), .val (.int p2), .val (.long q3), .second, .val (.int (own_q p1)), .val (.int (p2 % (1000 : Int32))), .val (.long (2199023255552 : Int64)), .second, .unset, .unset, .unset, .unset, .unset, .unset, .unset] [(.long q3)]))
  refine own_go (fun _ k => XS.lload X0.here hx rfl (hb hby at_27) rfl k) ?_
  show own_Go p.tables e below _ (s₁.setTop (mkF m 29 #[.val (.int p1), .val (.int p2), .val (.long q3), .second, .val (.int (own_q p1)), .val (.int (p2 % (1000 : Int32))), .val (.long (2199023255552 : Int64)), .second, .unset, .unset, .unset, .unset, .unset, .unset, .unset] [(.long (2199023255552 : Int64)), (.long q3)]))
  refine own_go (fun _ k => XS.lconst X0.here hx rfl (hb hby at_29) k) ?_
  show own_Go p.tables e below _ (s₁.setTop (mkF m 30 #[.val (.int p1), .val (.int p2), .val (.long q3), .second, .val (.int (own_q p1)), .val (.int (p2 % (1000 : Int32))), .val (.long (2199023255552 : Int64)), .second, .unset, .unset, .unset, .unset, .unset, .unset, .unset] [(.long (1 : Int64)), (.long (2199023255552 : Int64)), (.long q3)]))
  refine own_go (fun _ k => XS.lsub X0.here hx rfl (hb hby at_30) rfl k) ?_
  show own_Go p.tables e below _ (s₁.setTop (mkF m 31 #[.val (.int p1), .val (.int p2), .val (.long q3), .second, .val (.int (own_q p1)), .val (.int (p2 % (1000 : Int32))), .val (.long (2199023255552 : Int64)), .second, .unset, .unset, .unset, .unset, .unset, .unset, .unset] [(.long ((2199023255552 : Int64) - (1 : Int64))), (.long q3)]))
  refine own_go (fun _ k => XS.land X0.here hx rfl (hb hby at_31) rfl k) ?_
  show own_Go p.tables e below _ (s₁.setTop (mkF m 32 #[.val (.int p1), .val (.int p2), .val (.long q3), .second, .val (.int (own_q p1)), .val (.int (p2 % (1000 : Int32))), .val (.long (2199023255552 : Int64)), .second, .unset, .unset, .unset, .unset, .unset, .unset, .unset] [(.long (q3 &&& ((2199023255552 : Int64) - (1 : Int64))))]))
  show own_Go p.tables e below _ (s₁.setTop (mkF m 32 #[.val (.int p1), .val (.int p2), .val (.long q3), .second, .val (.int (own_q p1)), .val (.int (p2 % (1000 : Int32))), .val (.long (2199023255552 : Int64)), .second, .unset, .unset, .unset, .unset, .unset, .unset, .unset] [(.long (own_r q3))]))
  refine own_go (fun _ k => XS.lstore X0.here hx rfl (hb hby at_32) rfl (l' := #[.val (.int p1), .val (.int p2), .val (.long q3), .second, .val (.int (own_q p1)), .val (.int (p2 % (1000 : Int32))), .val (.long (2199023255552 : Int64)), .second, .val (.long (own_r q3)), .second, .unset, .unset, .unset, .unset, .unset]) rfl k) ?_
  show own_Go p.tables e below _ (s₁.setTop (mkF m 34 #[.val (.int p1), .val (.int p2), .val (.long q3), .second, .val (.int (own_q p1)), .val (.int (p2 % (1000 : Int32))), .val (.long (2199023255552 : Int64)), .second, .val (.long (own_r q3)), .second, .unset, .unset, .unset, .unset, .unset] []))
  refine own_go (fun _ k => XS.iload X0.here hx rfl (hb hby at_34) rfl k) ?_
  show own_Go p.tables e below _ (s₁.setTop (mkF m 36 #[.val (.int p1), .val (.int p2), .val (.long q3), .second, .val (.int (own_q p1)), .val (.int (p2 % (1000 : Int32))), .val (.long (2199023255552 : Int64)), .second, .val (.long (own_r q3)), .second, .unset, .unset, .unset, .unset, .unset] [(.int (own_q p1))]))
  refine own_go (fun _ k => XS.i2l X0.here hx rfl (hb hby at_36) rfl k) ?_
  show own_Go p.tables e below _ (s₁.setTop (mkF m 37 #[.val (.int p1), .val (.int p2), .val (.long q3), .second, .val (.int (own_q p1)), .val (.int (p2 % (1000 : Int32))), .val (.long (2199023255552 : Int64)), .second, .val (.long (own_r q3)), .second, .unset, .unset, .unset, .unset, .unset] [(.long ((own_q p1).toInt64))]))
  refine own_go (fun _ k => X0.ldc2J hx hown (mvT hZ (hw _ (List.mem_of_getElem? (i := 2) rfl))) rfl (hb hby at_37) k) ?_
  show own_Go p.tables e below _ (s₁.setTop (mkF m 40 #[.val (.int p1), .val (.int p2), .val (.long q3), .second, .val (.int (own_q p1)), .val (.int (p2 % (1000 : Int32))), .val (.long (2199023255552 : Int64)), .second, .val (.long (own_r q3)), .second, .unset, .unset, .unset, .unset, .unset] [(.long (323228496 : Int64)), (.long ((own_q p1).toInt64))]))
  refine own_go (fun _ k => XS.lmul X0.here hx rfl (hb hby at_40) rfl k) ?_
  show own_Go p.tables e below _ (s₁.setTop (mkF m 41 #[.val (.int p1), .val (.int p2), .val (.long q3), .second, .val (.int (own_q p1)), .val (.int (p2 % (1000 : Int32))), .val (.long (2199023255552 : Int64)), .second, .val (.long (own_r q3)), .second, .unset, .unset, .unset, .unset, .unset] [(.long (((own_q p1).toInt64) * (323228496 : Int64)))]))
  refine own_go (fun _ k => XS.bipush X0.here hx rfl (hb hby at_41) k) ?_
  show own_Go p.tables e below _ (s₁.setTop (mkF m 43 #[.val (.int p1), .val (.int p2), .val (.long q3), .second, .val (.int (own_q p1)), .val (.int (p2 % (1000 : Int32))), .val (.long (2199023255552 : Int64)), .second, .val (.long (own_r q3)), .second, .unset, .unset, .unset, .unset, .unset] [(.int (30 : Int32)), (.long (((own_q p1).toInt64) * (323228496 : Int64)))]))
  refine own_go (fun _ k => XS.lshr X0.here hx rfl (hb hby at_43) rfl k) ?_
  show own_Go p.tables e below _ (s₁.setTop (mkF m 44 #[.val (.int p1), .val (.int p2), .val (.long q3), .second, .val (.int (own_q p1)), .val (.int (p2 % (1000 : Int32))), .val (.long (2199023255552 : Int64)), .second, .val (.long (own_r q3)), .second, .unset, .unset, .unset, .unset, .unset] [(.long ((((own_q p1).toInt64) * (323228496 : Int64)) >>> ((30 : Int32) &&& 0x3f).toInt64))]))
  refine own_go (fun _ k => XS.l2i X0.here hx rfl (hb hby at_44) rfl k) ?_
  show own_Go p.tables e below _ (s₁.setTop (mkF m 45 #[.val (.int p1), .val (.int p2), .val (.long q3), .second, .val (.int (own_q p1)), .val (.int (p2 % (1000 : Int32))), .val (.long (2199023255552 : Int64)), .second, .val (.long (own_r q3)), .second, .unset, .unset, .unset, .unset, .unset] [(.int (((((own_q p1).toInt64) * (323228496 : Int64)) >>> ((30 : Int32) &&& 0x3f).toInt64).toInt32))]))
  show own_Go p.tables e below _ (s₁.setTop (mkF m 45 #[.val (.int p1), .val (.int p2), .val (.long q3), .second, .val (.int (own_q p1)), .val (.int (p2 % (1000 : Int32))), .val (.long (2199023255552 : Int64)), .second, .val (.long (own_r q3)), .second, .unset, .unset, .unset, .unset, .unset] [(.int (own_ex (own_q p1)))]))
  refine own_go (fun _ k => XS.istore X0.here hx rfl (hb hby at_45) rfl (l' := #[.val (.int p1), .val (.int p2), .val (.long q3), .second, .val (.int (own_q p1)), .val (.int (p2 % (1000 : Int32))), .val (.long (2199023255552 : Int64)), .second, .val (.long (own_r q3)), .second, .val (.int (own_ex (own_q p1))), .unset, .unset, .unset, .unset]) rfl k) ?_
  show own_Go p.tables e below _ (s₁.setTop (mkF m 47 #[.val (.int p1), .val (.int p2), .val (.long q3), .second, .val (.int (own_q p1)), .val (.int (p2 % (1000 : Int32))), .val (.long (2199023255552 : Int64)), .second, .val (.long (own_r q3)), .second, .val (.int (own_ex (own_q p1))), .unset, .unset, .unset, .unset] []))
  refine own_go (fun _ k => XS.iload X0.here hx rfl (hb hby at_47) rfl k) ?_
  show own_Go p.tables e below _ (s₁.setTop (mkF m 49 #[.val (.int p1), .val (.int p2), .val (.long q3), .second, .val (.int (own_q p1)), .val (.int (p2 % (1000 : Int32))), .val (.long (2199023255552 : Int64)), .second, .val (.long (own_r q3)), .second, .val (.int (own_ex (own_q p1))), .unset, .unset, .unset, .unset] [(.int (own_q p1))]))
  refine own_go (fun _ k => XS.lconst X0.here hx rfl (hb hby at_49) k) ?_
  show own_Go p.tables e below _ (s₁.setTop (mkF m 50 #[.val (.int p1), .val (.int p2), .val (.long q3), .second, .val (.int (own_q p1)), .val (.int (p2 % (1000 : Int32))), .val (.long (2199023255552 : Int64)), .second, .val (.long (own_r q3)), .second, .val (.int (own_ex (own_q p1))), .unset, .unset, .unset, .unset] [(.long (0 : Int64)), (.int (own_q p1))]))
  refine own_callS X0 hx hZ (y := (⟨"com/example/cast4/cast4/print/ShortestDecimal", "floorLog10", "(IJ)I"⟩ : MethodName)) (argsL := [(.int (own_q p1)), (.long (0 : Int64))]) (rest := []) (W := 0) hown (hw _ (List.mem_of_getElem? (i := 3) rfl)) (hw _ (List.mem_of_getElem? (i := 4) rfl)) (hw _ (List.mem_of_getElem? (i := 5) rfl)) (hw _ (List.mem_of_getElem? (i := 6) rfl)) (by decide) (own_rm1 l Z a0 hw (own_q p1) (0 : Int64) h0 n0 Z0) e0 (by decide) (by decide) (by decide) (by decide) (by rw [hml]; rfl) (lenOf own_pd__IJ_I rfl) rfl (Nat.le_of_eq rfl) (hb hby at_50) ?_
  rintro _ T101 L101 X101 ⟨rfl, N101, e101⟩
  show own_Go p.tables e below _ (T101.setTop (mkF m 53 #[.val (.int p1), .val (.int p2), .val (.long q3), .second, .val (.int (own_q p1)), .val (.int (p2 % (1000 : Int32))), .val (.long (2199023255552 : Int64)), .second, .val (.long (own_r q3)), .second, .val (.int (own_ex (own_q p1))), .unset, .unset, .unset, .unset] [(.int (own_fl (own_q p1) (0 : Int64)))]))
  refine own_go (fun _ k => XS.istore X101.here hx rfl (hb hby at_53) rfl (l' := #[.val (.int p1), .val (.int p2), .val (.long q3), .second, .val (.int (own_q p1)), .val (.int (p2 % (1000 : Int32))), .val (.long (2199023255552 : Int64)), .second, .val (.long (own_r q3)), .second, .val (.int (own_ex (own_q p1))), .val (.int (own_fl (own_q p1) (0 : Int64))), .unset, .unset, .unset]) rfl k) ?_
  show own_Go p.tables e below _ (T101.setTop (mkF m 55 #[.val (.int p1), .val (.int p2), .val (.long q3), .second, .val (.int (own_q p1)), .val (.int (p2 % (1000 : Int32))), .val (.long (2199023255552 : Int64)), .second, .val (.long (own_r q3)), .second, .val (.int (own_ex (own_q p1))), .val (.int (own_fl (own_q p1) (0 : Int64))), .unset, .unset, .unset] []))
  refine own_go (fun _ k => XS.iload X101.here hx rfl (hb hby at_55) rfl k) ?_
  show own_Go p.tables e below _ (T101.setTop (mkF m 57 #[.val (.int p1), .val (.int p2), .val (.long q3), .second, .val (.int (own_q p1)), .val (.int (p2 % (1000 : Int32))), .val (.long (2199023255552 : Int64)), .second, .val (.long (own_r q3)), .second, .val (.int (own_ex (own_q p1))), .val (.int (own_fl (own_q p1) (0 : Int64))), .unset, .unset, .unset] [(.int (own_fl (own_q p1) (0 : Int64)))]))
  refine own_go (fun _ k => XS.iload X101.here hx rfl (hb hby at_57) rfl k) ?_
  show own_Go p.tables e below _ (T101.setTop (mkF m 59 #[.val (.int p1), .val (.int p2), .val (.long q3), .second, .val (.int (own_q p1)), .val (.int (p2 % (1000 : Int32))), .val (.long (2199023255552 : Int64)), .second, .val (.long (own_r q3)), .second, .val (.int (own_ex (own_q p1))), .val (.int (own_fl (own_q p1) (0 : Int64))), .unset, .unset, .unset] [(.int (own_ex (own_q p1))), (.int (own_fl (own_q p1) (0 : Int64)))]))
  refine own_go (fun _ k => XS.icmpYes X101.here hx rfl (pc0 := 59) (pc' := 64) rfl (hb hby at_59) rfl (XT.ii_eq_t (own_1 p1)) (by decide) (by decide) k) ?_
  show own_Go p.tables e below _ (T101.setTop (mkF m 64 #[.val (.int p1), .val (.int p2), .val (.long q3), .second, .val (.int (own_q p1)), .val (.int (p2 % (1000 : Int32))), .val (.long (2199023255552 : Int64)), .second, .val (.long (own_r q3)), .second, .val (.int (own_ex (own_q p1))), .val (.int (own_fl (own_q p1) (0 : Int64))), .unset, .unset, .unset] []))
  refine own_go (fun _ k => XS.iload X101.here hx rfl (hb hby at_64) rfl k) ?_
  show own_Go p.tables e below _ (T101.setTop (mkF m 66 #[.val (.int p1), .val (.int p2), .val (.long q3), .second, .val (.int (own_q p1)), .val (.int (p2 % (1000 : Int32))), .val (.long (2199023255552 : Int64)), .second, .val (.long (own_r q3)), .second, .val (.int (own_ex (own_q p1))), .val (.int (own_fl (own_q p1) (0 : Int64))), .unset, .unset, .unset] [(.int (own_q p1))]))
  refine own_go (fun _ k => XS.iload X101.here hx rfl (hb hby at_66) rfl k) ?_
  show own_Go p.tables e below _ (T101.setTop (mkF m 68 #[.val (.int p1), .val (.int p2), .val (.long q3), .second, .val (.int (own_q p1)), .val (.int (p2 % (1000 : Int32))), .val (.long (2199023255552 : Int64)), .second, .val (.long (own_r q3)), .second, .val (.int (own_ex (own_q p1))), .val (.int (own_fl (own_q p1) (0 : Int64))), .unset, .unset, .unset] [(.int (p2 % (1000 : Int32))), (.int (own_q p1))]))
  refine own_go (fun _ k => XS.i2l X101.here hx rfl (hb hby at_68) rfl k) ?_
  show own_Go p.tables e below _ (T101.setTop (mkF m 69 #[.val (.int p1), .val (.int p2), .val (.long q3), .second, .val (.int (own_q p1)), .val (.int (p2 % (1000 : Int32))), .val (.long (2199023255552 : Int64)), .second, .val (.long (own_r q3)), .second, .val (.int (own_ex (own_q p1))), .val (.int (own_fl (own_q p1) (0 : Int64))), .unset, .unset, .unset] [(.long ((p2 % (1000 : Int32)).toInt64)), (.int (own_q p1))]))
  refine own_go (fun _ k => XS.lload X101.here hx rfl (hb hby at_69) rfl k) ?_
  show own_Go p.tables e below _ (T101.setTop (mkF m 71 #[.val (.int p1), .val (.int p2), .val (.long q3), .second, .val (.int (own_q p1)), .val (.int (p2 % (1000 : Int32))), .val (.long (2199023255552 : Int64)), .second, .val (.long (own_r q3)), .second, .val (.int (own_ex (own_q p1))), .val (.int (own_fl (own_q p1) (0 : Int64))), .unset, .unset, .unset] [(.long (2199023255552 : Int64)), (.long ((p2 % (1000 : Int32)).toInt64)), (.int (own_q p1))]))
  refine own_go (fun _ k => XS.lmul X101.here hx rfl (hb hby at_71) rfl k) ?_
  show own_Go p.tables e below _ (T101.setTop (mkF m 72 #[.val (.int p1), .val (.int p2), .val (.long q3), .second, .val (.int (own_q p1)), .val (.int (p2 % (1000 : Int32))), .val (.long (2199023255552 : Int64)), .second, .val (.long (own_r q3)), .second, .val (.int (own_ex (own_q p1))), .val (.int (own_fl (own_q p1) (0 : Int64))), .unset, .unset, .unset] [(.long (((p2 % (1000 : Int32)).toInt64) * (2199023255552 : Int64))), (.int (own_q p1))]))
  show own_Go p.tables e below _ (T101.setTop (mkF m 72 #[.val (.int p1), .val (.int p2), .val (.long q3), .second, .val (.int (own_q p1)), .val (.int (p2 % (1000 : Int32))), .val (.long (2199023255552 : Int64)), .second, .val (.long (own_r q3)), .second, .val (.int (own_ex (own_q p1))), .val (.int (own_fl (own_q p1) (0 : Int64))), .unset, .unset, .unset] [(.long (own_m p2)), (.int (own_q p1))]))
  refine own_callS X101 hx hZ (y := (⟨"com/example/cast4/cast4/print/ShortestDecimal", "floorLog10", "(IJ)I"⟩ : MethodName)) (argsL := [(.int (own_q p1)), (.long (own_m p2))]) (rest := []) (W := 0) hown (hw _ (List.mem_of_getElem? (i := 3) rfl)) (hw _ (List.mem_of_getElem? (i := 4) rfl)) (hw _ (List.mem_of_getElem? (i := 5) rfl)) (hw _ (List.mem_of_getElem? (i := 6) rfl)) (by decide) (own_rm1 l Z a0 hw (own_q p1) (own_m p2) h0 n0 Z0) e101 (by decide) (by decide) (by decide) (by decide) (by rw [hml]; rfl) (lenOf own_pd__IJ_I rfl) rfl (Nat.le_of_eq rfl) (hb hby at_72) ?_
  rintro _ T102 L102 X102 ⟨rfl, N102, e102⟩
  show own_Go p.tables e below _ (T102.setTop (mkF m 75 #[.val (.int p1), .val (.int p2), .val (.long q3), .second, .val (.int (own_q p1)), .val (.int (p2 % (1000 : Int32))), .val (.long (2199023255552 : Int64)), .second, .val (.long (own_r q3)), .second, .val (.int (own_ex (own_q p1))), .val (.int (own_fl (own_q p1) (0 : Int64))), .unset, .unset, .unset] [(.int (own_fl (own_q p1) (own_m p2)))]))
  refine own_go (fun _ k => XS.istore X102.here hx rfl (hb hby at_75) rfl (l' := #[.val (.int p1), .val (.int p2), .val (.long q3), .second, .val (.int (own_q p1)), .val (.int (p2 % (1000 : Int32))), .val (.long (2199023255552 : Int64)), .second, .val (.long (own_r q3)), .second, .val (.int (own_ex (own_q p1))), .val (.int (own_fl (own_q p1) (0 : Int64))), .val (.int (own_fl (own_q p1) (own_m p2))), .unset, .unset]) rfl k) ?_
  show own_Go p.tables e below _ (T102.setTop (mkF m 77 #[.val (.int p1), .val (.int p2), .val (.long q3), .second, .val (.int (own_q p1)), .val (.int (p2 % (1000 : Int32))), .val (.long (2199023255552 : Int64)), .second, .val (.long (own_r q3)), .second, .val (.int (own_ex (own_q p1))), .val (.int (own_fl (own_q p1) (0 : Int64))), .val (.int (own_fl (own_q p1) (own_m p2))), .unset, .unset] []))
  refine own_go (fun _ k => XS.iload X102.here hx rfl (hb hby at_77) rfl k) ?_
  show own_Go p.tables e below _ (T102.setTop (mkF m 79 #[.val (.int p1), .val (.int p2), .val (.long q3), .second, .val (.int (own_q p1)), .val (.int (p2 % (1000 : Int32))), .val (.long (2199023255552 : Int64)), .second, .val (.long (own_r q3)), .second, .val (.int (own_ex (own_q p1))), .val (.int (own_fl (own_q p1) (0 : Int64))), .val (.int (own_fl (own_q p1) (own_m p2))), .unset, .unset] [(.int (own_fl (own_q p1) (own_m p2)))]))
  refine own_go (fun _ k => XS.iload X102.here hx rfl (hb hby at_79) rfl k) ?_
  show own_Go p.tables e below _ (T102.setTop (mkF m 81 #[.val (.int p1), .val (.int p2), .val (.long q3), .second, .val (.int (own_q p1)), .val (.int (p2 % (1000 : Int32))), .val (.long (2199023255552 : Int64)), .second, .val (.long (own_r q3)), .second, .val (.int (own_ex (own_q p1))), .val (.int (own_fl (own_q p1) (0 : Int64))), .val (.int (own_fl (own_q p1) (own_m p2))), .unset, .unset] [(.int (own_ex (own_q p1))), (.int (own_fl (own_q p1) (own_m p2)))]))
  refine own_go (fun _ k => XS.iload X102.here hx rfl (hb hby at_81) rfl k) ?_
  show own_Go p.tables e below _ (T102.setTop (mkF m 83 #[.val (.int p1), .val (.int p2), .val (.long q3), .second, .val (.int (own_q p1)), .val (.int (p2 % (1000 : Int32))), .val (.long (2199023255552 : Int64)), .second, .val (.long (own_r q3)), .second, .val (.int (own_ex (own_q p1))), .val (.int (own_fl (own_q p1) (0 : Int64))), .val (.int (own_fl (own_q p1) (own_m p2))), .unset, .unset] [(.int (p2 % (1000 : Int32))), (.int (own_ex (own_q p1))), (.int (own_fl (own_q p1) (own_m p2)))]))
  refine own_go (fun _ k => XS.iadd X102.here hx rfl (hb hby at_83) rfl k) ?_
  show own_Go p.tables e below _ (T102.setTop (mkF m 84 #[.val (.int p1), .val (.int p2), .val (.long q3), .second, .val (.int (own_q p1)), .val (.int (p2 % (1000 : Int32))), .val (.long (2199023255552 : Int64)), .second, .val (.long (own_r q3)), .second, .val (.int (own_ex (own_q p1))), .val (.int (own_fl (own_q p1) (0 : Int64))), .val (.int (own_fl (own_q p1) (own_m p2))), .unset, .unset] [(.int ((own_ex (own_q p1)) + (p2 % (1000 : Int32)))), (.int (own_fl (own_q p1) (own_m p2)))]))
  refine own_go (fun _ k => XS.icmpYes X102.here hx rfl (pc0 := 84) (pc' := 89) rfl (hb hby at_84) rfl (XT.ii_eq_t (own_2 p1 p2)) (by decide) (by decide) k) ?_
  show own_Go p.tables e below _ (T102.setTop (mkF m 89 #[.val (.int p1), .val (.int p2), .val (.long q3), .second, .val (.int (own_q p1)), .val (.int (p2 % (1000 : Int32))), .val (.long (2199023255552 : Int64)), .second, .val (.long (own_r q3)), .second, .val (.int (own_ex (own_q p1))), .val (.int (own_fl (own_q p1) (0 : Int64))), .val (.int (own_fl (own_q p1) (own_m p2))), .unset, .unset] []))
  refine own_go (fun _ k => XS.iload X102.here hx rfl (hb hby at_89) rfl k) ?_
  show own_Go p.tables e below _ (T102.setTop (mkF m 91 #[.val (.int p1), .val (.int p2), .val (.long q3), .second, .val (.int (own_q p1)), .val (.int (p2 % (1000 : Int32))), .val (.long (2199023255552 : Int64)), .second, .val (.long (own_r q3)), .second, .val (.int (own_ex (own_q p1))), .val (.int (own_fl (own_q p1) (0 : Int64))), .val (.int (own_fl (own_q p1) (own_m p2))), .unset, .unset] [(.int (own_q p1))]))
  refine own_go (fun _ k => XS.iload X102.here hx rfl (hb hby at_91) rfl k) ?_
  show own_Go p.tables e below _ (T102.setTop (mkF m 93 #[.val (.int p1), .val (.int p2), .val (.long q3), .second, .val (.int (own_q p1)), .val (.int (p2 % (1000 : Int32))), .val (.long (2199023255552 : Int64)), .second, .val (.long (own_r q3)), .second, .val (.int (own_ex (own_q p1))), .val (.int (own_fl (own_q p1) (0 : Int64))), .val (.int (own_fl (own_q p1) (own_m p2))), .unset, .unset] [(.int (p2 % (1000 : Int32))), (.int (own_q p1))]))
  refine own_go (fun _ k => XS.i2l X102.here hx rfl (hb hby at_93) rfl k) ?_
  show own_Go p.tables e below _ (T102.setTop (mkF m 94 #[.val (.int p1), .val (.int p2), .val (.long q3), .second, .val (.int (own_q p1)), .val (.int (p2 % (1000 : Int32))), .val (.long (2199023255552 : Int64)), .second, .val (.long (own_r q3)), .second, .val (.int (own_ex (own_q p1))), .val (.int (own_fl (own_q p1) (0 : Int64))), .val (.int (own_fl (own_q p1) (own_m p2))), .unset, .unset] [(.long ((p2 % (1000 : Int32)).toInt64)), (.int (own_q p1))]))
  refine own_go (fun _ k => XS.lload X102.here hx rfl (hb hby at_94) rfl k) ?_
  show own_Go p.tables e below _ (T102.setTop (mkF m 96 #[.val (.int p1), .val (.int p2), .val (.long q3), .second, .val (.int (own_q p1)), .val (.int (p2 % (1000 : Int32))), .val (.long (2199023255552 : Int64)), .second, .val (.long (own_r q3)), .second, .val (.int (own_ex (own_q p1))), .val (.int (own_fl (own_q p1) (0 : Int64))), .val (.int (own_fl (own_q p1) (own_m p2))), .unset, .unset] [(.long (2199023255552 : Int64)), (.long ((p2 % (1000 : Int32)).toInt64)), (.int (own_q p1))]))
  refine own_go (fun _ k => XS.lmul X102.here hx rfl (hb hby at_96) rfl k) ?_
  show own_Go p.tables e below _ (T102.setTop (mkF m 97 #[.val (.int p1), .val (.int p2), .val (.long q3), .second, .val (.int (own_q p1)), .val (.int (p2 % (1000 : Int32))), .val (.long (2199023255552 : Int64)), .second, .val (.long (own_r q3)), .second, .val (.int (own_ex (own_q p1))), .val (.int (own_fl (own_q p1) (0 : Int64))), .val (.int (own_fl (own_q p1) (own_m p2))), .unset, .unset] [(.long (((p2 % (1000 : Int32)).toInt64) * (2199023255552 : Int64))), (.int (own_q p1))]))
  show own_Go p.tables e below _ (T102.setTop (mkF m 97 #[.val (.int p1), .val (.int p2), .val (.long q3), .second, .val (.int (own_q p1)), .val (.int (p2 % (1000 : Int32))), .val (.long (2199023255552 : Int64)), .second, .val (.long (own_r q3)), .second, .val (.int (own_ex (own_q p1))), .val (.int (own_fl (own_q p1) (0 : Int64))), .val (.int (own_fl (own_q p1) (own_m p2))), .unset, .unset] [(.long (own_m p2)), (.int (own_q p1))]))
  refine own_go (fun _ k => XS.lload X102.here hx rfl (hb hby at_97) rfl k) ?_
  show own_Go p.tables e below _ (T102.setTop (mkF m 99 #[.val (.int p1), .val (.int p2), .val (.long q3), .second, .val (.int (own_q p1)), .val (.int (p2 % (1000 : Int32))), .val (.long (2199023255552 : Int64)), .second, .val (.long (own_r q3)), .second, .val (.int (own_ex (own_q p1))), .val (.int (own_fl (own_q p1) (0 : Int64))), .val (.int (own_fl (own_q p1) (own_m p2))), .unset, .unset] [(.long (own_r q3)), (.long (own_m p2)), (.int (own_q p1))]))
  refine own_go (fun _ k => XS.ladd X102.here hx rfl (hb hby at_99) rfl k) ?_
  show own_Go p.tables e below _ (T102.setTop (mkF m 100 #[.val (.int p1), .val (.int p2), .val (.long q3), .second, .val (.int (own_q p1)), .val (.int (p2 % (1000 : Int32))), .val (.long (2199023255552 : Int64)), .second, .val (.long (own_r q3)), .second, .val (.int (own_ex (own_q p1))), .val (.int (own_fl (own_q p1) (0 : Int64))), .val (.int (own_fl (own_q p1) (own_m p2))), .unset, .unset] [(.long ((own_m p2) + (own_r q3))), (.int (own_q p1))]))
  refine own_callS X102 hx hZ (y := (⟨"com/example/cast4/cast4/print/ShortestDecimal", "floorLog10", "(IJ)I"⟩ : MethodName)) (argsL := [(.int (own_q p1)), (.long ((own_m p2) + (own_r q3)))]) (rest := []) (W := 0) hown (hw _ (List.mem_of_getElem? (i := 3) rfl)) (hw _ (List.mem_of_getElem? (i := 4) rfl)) (hw _ (List.mem_of_getElem? (i := 5) rfl)) (hw _ (List.mem_of_getElem? (i := 6) rfl)) (by decide) (own_rm1 l Z a0 hw (own_q p1) (own_m p2 + own_r q3) h0 n0 Z0) e102 (by decide) (by decide) (by decide) (by decide) (by rw [hml]; rfl) (lenOf own_pd__IJ_I rfl) rfl (Nat.le_of_eq rfl) (hb hby at_100) ?_
  rintro _ T103 L103 X103 ⟨rfl, N103, e103⟩
  show own_Go p.tables e below _ (T103.setTop (mkF m 103 #[.val (.int p1), .val (.int p2), .val (.long q3), .second, .val (.int (own_q p1)), .val (.int (p2 % (1000 : Int32))), .val (.long (2199023255552 : Int64)), .second, .val (.long (own_r q3)), .second, .val (.int (own_ex (own_q p1))), .val (.int (own_fl (own_q p1) (0 : Int64))), .val (.int (own_fl (own_q p1) (own_m p2))), .unset, .unset] [(.int (own_fl (own_q p1) (own_m p2 + own_r q3)))]))
  have c4 : own_Go p.tables e below (own_Fin s below (fun v h L => v = some (.int 1) ∧ Fr n0 L) room_1.cells room_1.slots) (T103.setTop (mkF m 129 #[.val (.int p1), .val (.int p2), .val (.long q3), .second, .val (.int (own_q p1)), .val (.int (p2 % (1000 : Int32))), .val (.long (2199023255552 : Int64)), .second, .val (.long (own_r q3)), .second, .val (.int (own_ex (own_q p1))), .val (.int (own_fl (own_q p1) (0 : Int64))), .val (.int (own_fl (own_q p1) (own_m p2))), .val (.int (own_fl (own_q p1) (own_m p2 + own_r q3))), .unset] [])) := by
    refine own_go (fun _ k => XS.iload X103.here hx rfl (hb hby at_129) rfl k) ?_
    show own_Go p.tables e below _ (T103.setTop (mkF m 131 #[.val (.int p1), .val (.int p2), .val (.long q3), .second, .val (.int (own_q p1)), .val (.int (p2 % (1000 : Int32))), .val (.long (2199023255552 : Int64)), .second, .val (.long (own_r q3)), .second, .val (.int (own_ex (own_q p1))), .val (.int (own_fl (own_q p1) (0 : Int64))), .val (.int (own_fl (own_q p1) (own_m p2))), .val (.int (own_fl (own_q p1) (own_m p2 + own_r q3))), .unset] [(.int (own_q p1))]))
    refine own_go (fun _ k => X103.ldc2J hx hown (mvT hZ (hw _ (List.mem_of_getElem? (i := 8) rfl))) rfl (hb hby at_131) k) ?_
    show own_Go p.tables e below _ (T103.setTop (mkF m 134 #[.val (.int p1), .val (.int p2), .val (.long q3), .second, .val (.int (own_q p1)), .val (.int (p2 % (1000 : Int32))), .val (.long (2199023255552 : Int64)), .second, .val (.long (own_r q3)), .second, .val (.int (own_ex (own_q p1))), .val (.int (own_fl (own_q p1) (0 : Int64))), .val (.int (own_fl (own_q p1) (own_m p2))), .val (.int (own_fl (own_q p1) (own_m p2 + own_r q3))), .unset] [(.long (-274743187321 : Int64)), (.int (own_q p1))]))
    refine own_callS X103 hx hZ (y := (⟨"com/example/cast4/cast4/print/ShortestDecimal", "floorLog10", "(IJ)I"⟩ : MethodName)) (argsL := [(.int (own_q p1)), (.long (-274743187321 : Int64))]) (rest := []) (W := 0) hown (hw _ (List.mem_of_getElem? (i := 3) rfl)) (hw _ (List.mem_of_getElem? (i := 4) rfl)) (hw _ (List.mem_of_getElem? (i := 5) rfl)) (hw _ (List.mem_of_getElem? (i := 6) rfl)) (by decide) (own_rm1 l Z a0 hw (own_q p1) (-274743187321 : Int64) h0 n0 Z0) e103 (by decide) (by decide) (by decide) (by decide) (by rw [hml]; rfl) (lenOf own_pd__IJ_I rfl) rfl (Nat.le_of_eq rfl) (hb hby at_134) ?_
    rintro _ T104 L104 X104 ⟨rfl, N104, e104⟩
    show own_Go p.tables e below _ (T104.setTop (mkF m 137 #[.val (.int p1), .val (.int p2), .val (.long q3), .second, .val (.int (own_q p1)), .val (.int (p2 % (1000 : Int32))), .val (.long (2199023255552 : Int64)), .second, .val (.long (own_r q3)), .second, .val (.int (own_ex (own_q p1))), .val (.int (own_fl (own_q p1) (0 : Int64))), .val (.int (own_fl (own_q p1) (own_m p2))), .val (.int (own_fl (own_q p1) (own_m p2 + own_r q3))), .unset] [(.int (own_fl (own_q p1) (-274743187321 : Int64)))]))
    refine own_go (fun _ k => XS.istore X104.here hx rfl (hb hby at_137) rfl (l' := #[.val (.int p1), .val (.int p2), .val (.long q3), .second, .val (.int (own_q p1)), .val (.int (p2 % (1000 : Int32))), .val (.long (2199023255552 : Int64)), .second, .val (.long (own_r q3)), .second, .val (.int (own_ex (own_q p1))), .val (.int (own_fl (own_q p1) (0 : Int64))), .val (.int (own_fl (own_q p1) (own_m p2))), .val (.int (own_fl (own_q p1) (own_m p2 + own_r q3))), .val (.int (own_fl (own_q p1) (-274743187321 : Int64)))]) rfl k) ?_
    show own_Go p.tables e below _ (T104.setTop (mkF m 139 #[.val (.int p1), .val (.int p2), .val (.long q3), .second, .val (.int (own_q p1)), .val (.int (p2 % (1000 : Int32))), .val (.long (2199023255552 : Int64)), .second, .val (.long (own_r q3)), .second, .val (.int (own_ex (own_q p1))), .val (.int (own_fl (own_q p1) (0 : Int64))), .val (.int (own_fl (own_q p1) (own_m p2))), .val (.int (own_fl (own_q p1) (own_m p2 + own_r q3))), .val (.int (own_fl (own_q p1) (-274743187321 : Int64)))] []))
    refine own_go (fun _ k => XS.iload X104.here hx rfl (hb hby at_139) rfl k) ?_
    show own_Go p.tables e below _ (T104.setTop (mkF m 141 #[.val (.int p1), .val (.int p2), .val (.long q3), .second, .val (.int (own_q p1)), .val (.int (p2 % (1000 : Int32))), .val (.long (2199023255552 : Int64)), .second, .val (.long (own_r q3)), .second, .val (.int (own_ex (own_q p1))), .val (.int (own_fl (own_q p1) (0 : Int64))), .val (.int (own_fl (own_q p1) (own_m p2))), .val (.int (own_fl (own_q p1) (own_m p2 + own_r q3))), .val (.int (own_fl (own_q p1) (-274743187321 : Int64)))] [(.int (own_fl (own_q p1) (-274743187321 : Int64)))]))
    refine own_go (fun _ k => XS.iload X104.here hx rfl (hb hby at_141) rfl k) ?_
    show own_Go p.tables e below _ (T104.setTop (mkF m 143 #[.val (.int p1), .val (.int p2), .val (.long q3), .second, .val (.int (own_q p1)), .val (.int (p2 % (1000 : Int32))), .val (.long (2199023255552 : Int64)), .second, .val (.long (own_r q3)), .second, .val (.int (own_ex (own_q p1))), .val (.int (own_fl (own_q p1) (0 : Int64))), .val (.int (own_fl (own_q p1) (own_m p2))), .val (.int (own_fl (own_q p1) (own_m p2 + own_r q3))), .val (.int (own_fl (own_q p1) (-274743187321 : Int64)))] [(.int (own_ex (own_q p1))), (.int (own_fl (own_q p1) (-274743187321 : Int64)))]))
    rcases own_4 p1 with b | b
    · skip
      refine own_go (fun _ k => XS.icmpYes X104.here hx rfl (pc0 := 143) (pc' := 155) rfl (hb hby at_143) rfl (XT.ii_eq_t (b)) (by decide) (by decide) k) ?_
      show own_Go p.tables e below _ (T104.setTop (mkF m 155 #[.val (.int p1), .val (.int p2), .val (.long q3), .second, .val (.int (own_q p1)), .val (.int (p2 % (1000 : Int32))), .val (.long (2199023255552 : Int64)), .second, .val (.long (own_r q3)), .second, .val (.int (own_ex (own_q p1))), .val (.int (own_fl (own_q p1) (0 : Int64))), .val (.int (own_fl (own_q p1) (own_m p2))), .val (.int (own_fl (own_q p1) (own_m p2 + own_r q3))), .val (.int (own_fl (own_q p1) (-274743187321 : Int64)))] []))
      refine own_go (fun _ k => XS.iconst X104.here hx rfl (hb hby at_155) k) ?_
      show own_Go p.tables e below _ (T104.setTop (mkF m 156 #[.val (.int p1), .val (.int p2), .val (.long q3), .second, .val (.int (own_q p1)), .val (.int (p2 % (1000 : Int32))), .val (.long (2199023255552 : Int64)), .second, .val (.long (own_r q3)), .second, .val (.int (own_ex (own_q p1))), .val (.int (own_fl (own_q p1) (0 : Int64))), .val (.int (own_fl (own_q p1) (own_m p2))), .val (.int (own_fl (own_q p1) (own_m p2 + own_r q3))), .val (.int (own_fl (own_q p1) (-274743187321 : Int64)))] [(.int (1 : Int32))]))
      refine own_go (fun _ k => XS.goto X104.here hx rfl (pc0 := 156) (pc' := 160) rfl (hb hby at_156) (by decide) (by decide) k) ?_
      show own_Go p.tables e below _ (T104.setTop (mkF m 160 #[.val (.int p1), .val (.int p2), .val (.long q3), .second, .val (.int (own_q p1)), .val (.int (p2 % (1000 : Int32))), .val (.long (2199023255552 : Int64)), .second, .val (.long (own_r q3)), .second, .val (.int (own_ex (own_q p1))), .val (.int (own_fl (own_q p1) (0 : Int64))), .val (.int (own_fl (own_q p1) (own_m p2))), .val (.int (own_fl (own_q p1) (own_m p2 + own_r q3))), .val (.int (own_fl (own_q p1) (-274743187321 : Int64)))] [(.int (1 : Int32))]))
      exact own_retI X104 hx hlk hret (by simp) rfl (hb hby at_160) (⟨rfl, (Fr.app (Fr.app (Fr.app (Fr.app N0 N101) N102) N103) N104)⟩) (by decide) (by decide)
    · skip
      by_cases b2 : own_fl (own_q p1) (-274743187321 : Int64) = own_ex (own_q p1)
      · skip
        refine own_go (fun _ k => XS.icmpYes X104.here hx rfl (pc0 := 143) (pc' := 155) rfl (hb hby at_143) rfl (XT.ii_eq_t (b2)) (by decide) (by decide) k) ?_
        show own_Go p.tables e below _ (T104.setTop (mkF m 155 #[.val (.int p1), .val (.int p2), .val (.long q3), .second, .val (.int (own_q p1)), .val (.int (p2 % (1000 : Int32))), .val (.long (2199023255552 : Int64)), .second, .val (.long (own_r q3)), .second, .val (.int (own_ex (own_q p1))), .val (.int (own_fl (own_q p1) (0 : Int64))), .val (.int (own_fl (own_q p1) (own_m p2))), .val (.int (own_fl (own_q p1) (own_m p2 + own_r q3))), .val (.int (own_fl (own_q p1) (-274743187321 : Int64)))] []))
        refine own_go (fun _ k => XS.iconst X104.here hx rfl (hb hby at_155) k) ?_
        show own_Go p.tables e below _ (T104.setTop (mkF m 156 #[.val (.int p1), .val (.int p2), .val (.long q3), .second, .val (.int (own_q p1)), .val (.int (p2 % (1000 : Int32))), .val (.long (2199023255552 : Int64)), .second, .val (.long (own_r q3)), .second, .val (.int (own_ex (own_q p1))), .val (.int (own_fl (own_q p1) (0 : Int64))), .val (.int (own_fl (own_q p1) (own_m p2))), .val (.int (own_fl (own_q p1) (own_m p2 + own_r q3))), .val (.int (own_fl (own_q p1) (-274743187321 : Int64)))] [(.int (1 : Int32))]))
        refine own_go (fun _ k => XS.goto X104.here hx rfl (pc0 := 156) (pc' := 160) rfl (hb hby at_156) (by decide) (by decide) k) ?_
        show own_Go p.tables e below _ (T104.setTop (mkF m 160 #[.val (.int p1), .val (.int p2), .val (.long q3), .second, .val (.int (own_q p1)), .val (.int (p2 % (1000 : Int32))), .val (.long (2199023255552 : Int64)), .second, .val (.long (own_r q3)), .second, .val (.int (own_ex (own_q p1))), .val (.int (own_fl (own_q p1) (0 : Int64))), .val (.int (own_fl (own_q p1) (own_m p2))), .val (.int (own_fl (own_q p1) (own_m p2 + own_r q3))), .val (.int (own_fl (own_q p1) (-274743187321 : Int64)))] [(.int (1 : Int32))]))
        exact own_retI X104 hx hlk hret (by simp) rfl (hb hby at_160) (⟨rfl, (Fr.app (Fr.app (Fr.app (Fr.app N0 N101) N102) N103) N104)⟩) (by decide) (by decide)
      · skip
        refine own_go (fun _ k => XS.icmpNo X104.here hx rfl (hb hby at_143) rfl (XT.ii_eq_f (b2)) k) ?_
        show own_Go p.tables e below _ (T104.setTop (mkF m 146 #[.val (.int p1), .val (.int p2), .val (.long q3), .second, .val (.int (own_q p1)), .val (.int (p2 % (1000 : Int32))), .val (.long (2199023255552 : Int64)), .second, .val (.long (own_r q3)), .second, .val (.int (own_ex (own_q p1))), .val (.int (own_fl (own_q p1) (0 : Int64))), .val (.int (own_fl (own_q p1) (own_m p2))), .val (.int (own_fl (own_q p1) (own_m p2 + own_r q3))), .val (.int (own_fl (own_q p1) (-274743187321 : Int64)))] []))
        refine own_go (fun _ k => XS.iload X104.here hx rfl (hb hby at_146) rfl k) ?_
        show own_Go p.tables e below _ (T104.setTop (mkF m 148 #[.val (.int p1), .val (.int p2), .val (.long q3), .second, .val (.int (own_q p1)), .val (.int (p2 % (1000 : Int32))), .val (.long (2199023255552 : Int64)), .second, .val (.long (own_r q3)), .second, .val (.int (own_ex (own_q p1))), .val (.int (own_fl (own_q p1) (0 : Int64))), .val (.int (own_fl (own_q p1) (own_m p2))), .val (.int (own_fl (own_q p1) (own_m p2 + own_r q3))), .val (.int (own_fl (own_q p1) (-274743187321 : Int64)))] [(.int (own_fl (own_q p1) (-274743187321 : Int64)))]))
        refine own_go (fun _ k => XS.iload X104.here hx rfl (hb hby at_148) rfl k) ?_
        show own_Go p.tables e below _ (T104.setTop (mkF m 150 #[.val (.int p1), .val (.int p2), .val (.long q3), .second, .val (.int (own_q p1)), .val (.int (p2 % (1000 : Int32))), .val (.long (2199023255552 : Int64)), .second, .val (.long (own_r q3)), .second, .val (.int (own_ex (own_q p1))), .val (.int (own_fl (own_q p1) (0 : Int64))), .val (.int (own_fl (own_q p1) (own_m p2))), .val (.int (own_fl (own_q p1) (own_m p2 + own_r q3))), .val (.int (own_fl (own_q p1) (-274743187321 : Int64)))] [(.int (own_ex (own_q p1))), (.int (own_fl (own_q p1) (-274743187321 : Int64)))]))
        refine own_go (fun _ k => XS.iconst X104.here hx rfl (hb hby at_150) k) ?_
        show own_Go p.tables e below _ (T104.setTop (mkF m 151 #[.val (.int p1), .val (.int p2), .val (.long q3), .second, .val (.int (own_q p1)), .val (.int (p2 % (1000 : Int32))), .val (.long (2199023255552 : Int64)), .second, .val (.long (own_r q3)), .second, .val (.int (own_ex (own_q p1))), .val (.int (own_fl (own_q p1) (0 : Int64))), .val (.int (own_fl (own_q p1) (own_m p2))), .val (.int (own_fl (own_q p1) (own_m p2 + own_r q3))), .val (.int (own_fl (own_q p1) (-274743187321 : Int64)))] [(.int (1 : Int32)), (.int (own_ex (own_q p1))), (.int (own_fl (own_q p1) (-274743187321 : Int64)))]))
        refine own_go (fun _ k => XS.isub X104.here hx rfl (hb hby at_151) rfl k) ?_
        show own_Go p.tables e below _ (T104.setTop (mkF m 152 #[.val (.int p1), .val (.int p2), .val (.long q3), .second, .val (.int (own_q p1)), .val (.int (p2 % (1000 : Int32))), .val (.long (2199023255552 : Int64)), .second, .val (.long (own_r q3)), .second, .val (.int (own_ex (own_q p1))), .val (.int (own_fl (own_q p1) (0 : Int64))), .val (.int (own_fl (own_q p1) (own_m p2))), .val (.int (own_fl (own_q p1) (own_m p2 + own_r q3))), .val (.int (own_fl (own_q p1) (-274743187321 : Int64)))] [(.int ((own_ex (own_q p1)) - (1 : Int32))), (.int (own_fl (own_q p1) (-274743187321 : Int64)))]))
        refine own_go (fun _ k => XS.icmpNo X104.here hx rfl (hb hby at_152) rfl (XT.ii_ne_f (b)) k) ?_
        show own_Go p.tables e below _ (T104.setTop (mkF m 155 #[.val (.int p1), .val (.int p2), .val (.long q3), .second, .val (.int (own_q p1)), .val (.int (p2 % (1000 : Int32))), .val (.long (2199023255552 : Int64)), .second, .val (.long (own_r q3)), .second, .val (.int (own_ex (own_q p1))), .val (.int (own_fl (own_q p1) (0 : Int64))), .val (.int (own_fl (own_q p1) (own_m p2))), .val (.int (own_fl (own_q p1) (own_m p2 + own_r q3))), .val (.int (own_fl (own_q p1) (-274743187321 : Int64)))] []))
        refine own_go (fun _ k => XS.iconst X104.here hx rfl (hb hby at_155) k) ?_
        show own_Go p.tables e below _ (T104.setTop (mkF m 156 #[.val (.int p1), .val (.int p2), .val (.long q3), .second, .val (.int (own_q p1)), .val (.int (p2 % (1000 : Int32))), .val (.long (2199023255552 : Int64)), .second, .val (.long (own_r q3)), .second, .val (.int (own_ex (own_q p1))), .val (.int (own_fl (own_q p1) (0 : Int64))), .val (.int (own_fl (own_q p1) (own_m p2))), .val (.int (own_fl (own_q p1) (own_m p2 + own_r q3))), .val (.int (own_fl (own_q p1) (-274743187321 : Int64)))] [(.int (1 : Int32))]))
        refine own_go (fun _ k => XS.goto X104.here hx rfl (pc0 := 156) (pc' := 160) rfl (hb hby at_156) (by decide) (by decide) k) ?_
        show own_Go p.tables e below _ (T104.setTop (mkF m 160 #[.val (.int p1), .val (.int p2), .val (.long q3), .second, .val (.int (own_q p1)), .val (.int (p2 % (1000 : Int32))), .val (.long (2199023255552 : Int64)), .second, .val (.long (own_r q3)), .second, .val (.int (own_ex (own_q p1))), .val (.int (own_fl (own_q p1) (0 : Int64))), .val (.int (own_fl (own_q p1) (own_m p2))), .val (.int (own_fl (own_q p1) (own_m p2 + own_r q3))), .val (.int (own_fl (own_q p1) (-274743187321 : Int64)))] [(.int (1 : Int32))]))
        exact own_retI X104 hx hlk hret (by simp) rfl (hb hby at_160) (⟨rfl, (Fr.app (Fr.app (Fr.app (Fr.app N0 N101) N102) N103) N104)⟩) (by decide) (by decide)
  refine own_go (fun _ k => XS.istore X103.here hx rfl (hb hby at_103) rfl (l' := #[.val (.int p1), .val (.int p2), .val (.long q3), .second, .val (.int (own_q p1)), .val (.int (p2 % (1000 : Int32))), .val (.long (2199023255552 : Int64)), .second, .val (.long (own_r q3)), .second, .val (.int (own_ex (own_q p1))), .val (.int (own_fl (own_q p1) (0 : Int64))), .val (.int (own_fl (own_q p1) (own_m p2))), .val (.int (own_fl (own_q p1) (own_m p2 + own_r q3))), .unset]) rfl k) ?_
  show own_Go p.tables e below _ (T103.setTop (mkF m 105 #[.val (.int p1), .val (.int p2), .val (.long q3), .second, .val (.int (own_q p1)), .val (.int (p2 % (1000 : Int32))), .val (.long (2199023255552 : Int64)), .second, .val (.long (own_r q3)), .second, .val (.int (own_ex (own_q p1))), .val (.int (own_fl (own_q p1) (0 : Int64))), .val (.int (own_fl (own_q p1) (own_m p2))), .val (.int (own_fl (own_q p1) (own_m p2 + own_r q3))), .unset] []))
  refine own_go (fun _ k => XS.iload X103.here hx rfl (hb hby at_105) rfl k) ?_
  show own_Go p.tables e below _ (T103.setTop (mkF m 107 #[.val (.int p1), .val (.int p2), .val (.long q3), .second, .val (.int (own_q p1)), .val (.int (p2 % (1000 : Int32))), .val (.long (2199023255552 : Int64)), .second, .val (.long (own_r q3)), .second, .val (.int (own_ex (own_q p1))), .val (.int (own_fl (own_q p1) (0 : Int64))), .val (.int (own_fl (own_q p1) (own_m p2))), .val (.int (own_fl (own_q p1) (own_m p2 + own_r q3))), .unset] [(.int (own_fl (own_q p1) (own_m p2 + own_r q3)))]))
  refine own_go (fun _ k => XS.iload X103.here hx rfl (hb hby at_107) rfl k) ?_
  show own_Go p.tables e below _ (T103.setTop (mkF m 109 #[.val (.int p1), .val (.int p2), .val (.long q3), .second, .val (.int (own_q p1)), .val (.int (p2 % (1000 : Int32))), .val (.long (2199023255552 : Int64)), .second, .val (.long (own_r q3)), .second, .val (.int (own_ex (own_q p1))), .val (.int (own_fl (own_q p1) (0 : Int64))), .val (.int (own_fl (own_q p1) (own_m p2))), .val (.int (own_fl (own_q p1) (own_m p2 + own_r q3))), .unset] [(.int (own_ex (own_q p1))), (.int (own_fl (own_q p1) (own_m p2 + own_r q3)))]))
  refine own_go (fun _ k => XS.iload X103.here hx rfl (hb hby at_109) rfl k) ?_
  show own_Go p.tables e below _ (T103.setTop (mkF m 111 #[.val (.int p1), .val (.int p2), .val (.long q3), .second, .val (.int (own_q p1)), .val (.int (p2 % (1000 : Int32))), .val (.long (2199023255552 : Int64)), .second, .val (.long (own_r q3)), .second, .val (.int (own_ex (own_q p1))), .val (.int (own_fl (own_q p1) (0 : Int64))), .val (.int (own_fl (own_q p1) (own_m p2))), .val (.int (own_fl (own_q p1) (own_m p2 + own_r q3))), .unset] [(.int (p2 % (1000 : Int32))), (.int (own_ex (own_q p1))), (.int (own_fl (own_q p1) (own_m p2 + own_r q3)))]))
  refine own_go (fun _ k => XS.iadd X103.here hx rfl (hb hby at_111) rfl k) ?_
  show own_Go p.tables e below _ (T103.setTop (mkF m 112 #[.val (.int p1), .val (.int p2), .val (.long q3), .second, .val (.int (own_q p1)), .val (.int (p2 % (1000 : Int32))), .val (.long (2199023255552 : Int64)), .second, .val (.long (own_r q3)), .second, .val (.int (own_ex (own_q p1))), .val (.int (own_fl (own_q p1) (0 : Int64))), .val (.int (own_fl (own_q p1) (own_m p2))), .val (.int (own_fl (own_q p1) (own_m p2 + own_r q3))), .unset] [(.int ((own_ex (own_q p1)) + (p2 % (1000 : Int32)))), (.int (own_fl (own_q p1) (own_m p2 + own_r q3)))]))
  by_cases b1 : own_fl (own_q p1) (own_m p2 + own_r q3) = own_ex (own_q p1) + p2 % (1000 : Int32)
  · skip
    refine own_go (fun _ k => XS.icmpYes X103.here hx rfl (pc0 := 112) (pc' := 129) rfl (hb hby at_112) rfl (XT.ii_eq_t (b1)) (by decide) (by decide) k) ?_
    show own_Go p.tables e below _ (T103.setTop (mkF m 129 #[.val (.int p1), .val (.int p2), .val (.long q3), .second, .val (.int (own_q p1)), .val (.int (p2 % (1000 : Int32))), .val (.long (2199023255552 : Int64)), .second, .val (.long (own_r q3)), .second, .val (.int (own_ex (own_q p1))), .val (.int (own_fl (own_q p1) (0 : Int64))), .val (.int (own_fl (own_q p1) (own_m p2))), .val (.int (own_fl (own_q p1) (own_m p2 + own_r q3))), .unset] []))
    exact c4
  · skip
    refine own_go (fun _ k => XS.icmpNo X103.here hx rfl (hb hby at_112) rfl (XT.ii_eq_f (b1)) k) ?_
    show own_Go p.tables e below _ (T103.setTop (mkF m 115 #[.val (.int p1), .val (.int p2), .val (.long q3), .second, .val (.int (own_q p1)), .val (.int (p2 % (1000 : Int32))), .val (.long (2199023255552 : Int64)), .second, .val (.long (own_r q3)), .second, .val (.int (own_ex (own_q p1))), .val (.int (own_fl (own_q p1) (0 : Int64))), .val (.int (own_fl (own_q p1) (own_m p2))), .val (.int (own_fl (own_q p1) (own_m p2 + own_r q3))), .unset] []))
    refine own_go (fun _ k => XS.iload X103.here hx rfl (hb hby at_115) rfl k) ?_
    show own_Go p.tables e below _ (T103.setTop (mkF m 117 #[.val (.int p1), .val (.int p2), .val (.long q3), .second, .val (.int (own_q p1)), .val (.int (p2 % (1000 : Int32))), .val (.long (2199023255552 : Int64)), .second, .val (.long (own_r q3)), .second, .val (.int (own_ex (own_q p1))), .val (.int (own_fl (own_q p1) (0 : Int64))), .val (.int (own_fl (own_q p1) (own_m p2))), .val (.int (own_fl (own_q p1) (own_m p2 + own_r q3))), .unset] [(.int (own_fl (own_q p1) (own_m p2 + own_r q3)))]))
    refine own_go (fun _ k => XS.iload X103.here hx rfl (hb hby at_117) rfl k) ?_
    show own_Go p.tables e below _ (T103.setTop (mkF m 119 #[.val (.int p1), .val (.int p2), .val (.long q3), .second, .val (.int (own_q p1)), .val (.int (p2 % (1000 : Int32))), .val (.long (2199023255552 : Int64)), .second, .val (.long (own_r q3)), .second, .val (.int (own_ex (own_q p1))), .val (.int (own_fl (own_q p1) (0 : Int64))), .val (.int (own_fl (own_q p1) (own_m p2))), .val (.int (own_fl (own_q p1) (own_m p2 + own_r q3))), .unset] [(.int (own_ex (own_q p1))), (.int (own_fl (own_q p1) (own_m p2 + own_r q3)))]))
    refine own_go (fun _ k => XS.iload X103.here hx rfl (hb hby at_119) rfl k) ?_
    show own_Go p.tables e below _ (T103.setTop (mkF m 121 #[.val (.int p1), .val (.int p2), .val (.long q3), .second, .val (.int (own_q p1)), .val (.int (p2 % (1000 : Int32))), .val (.long (2199023255552 : Int64)), .second, .val (.long (own_r q3)), .second, .val (.int (own_ex (own_q p1))), .val (.int (own_fl (own_q p1) (0 : Int64))), .val (.int (own_fl (own_q p1) (own_m p2))), .val (.int (own_fl (own_q p1) (own_m p2 + own_r q3))), .unset] [(.int (p2 % (1000 : Int32))), (.int (own_ex (own_q p1))), (.int (own_fl (own_q p1) (own_m p2 + own_r q3)))]))
    refine own_go (fun _ k => XS.iadd X103.here hx rfl (hb hby at_121) rfl k) ?_
    show own_Go p.tables e below _ (T103.setTop (mkF m 122 #[.val (.int p1), .val (.int p2), .val (.long q3), .second, .val (.int (own_q p1)), .val (.int (p2 % (1000 : Int32))), .val (.long (2199023255552 : Int64)), .second, .val (.long (own_r q3)), .second, .val (.int (own_ex (own_q p1))), .val (.int (own_fl (own_q p1) (0 : Int64))), .val (.int (own_fl (own_q p1) (own_m p2))), .val (.int (own_fl (own_q p1) (own_m p2 + own_r q3))), .unset] [(.int ((own_ex (own_q p1)) + (p2 % (1000 : Int32)))), (.int (own_fl (own_q p1) (own_m p2 + own_r q3)))]))
    refine own_go (fun _ k => XS.iconst X103.here hx rfl (hb hby at_122) k) ?_
    show own_Go p.tables e below _ (T103.setTop (mkF m 123 #[.val (.int p1), .val (.int p2), .val (.long q3), .second, .val (.int (own_q p1)), .val (.int (p2 % (1000 : Int32))), .val (.long (2199023255552 : Int64)), .second, .val (.long (own_r q3)), .second, .val (.int (own_ex (own_q p1))), .val (.int (own_fl (own_q p1) (0 : Int64))), .val (.int (own_fl (own_q p1) (own_m p2))), .val (.int (own_fl (own_q p1) (own_m p2 + own_r q3))), .unset] [(.int (1 : Int32)), (.int ((own_ex (own_q p1)) + (p2 % (1000 : Int32)))), (.int (own_fl (own_q p1) (own_m p2 + own_r q3)))]))
    refine own_go (fun _ k => XS.iadd X103.here hx rfl (hb hby at_123) rfl k) ?_
    show own_Go p.tables e below _ (T103.setTop (mkF m 124 #[.val (.int p1), .val (.int p2), .val (.long q3), .second, .val (.int (own_q p1)), .val (.int (p2 % (1000 : Int32))), .val (.long (2199023255552 : Int64)), .second, .val (.long (own_r q3)), .second, .val (.int (own_ex (own_q p1))), .val (.int (own_fl (own_q p1) (0 : Int64))), .val (.int (own_fl (own_q p1) (own_m p2))), .val (.int (own_fl (own_q p1) (own_m p2 + own_r q3))), .unset] [(.int (((own_ex (own_q p1)) + (p2 % (1000 : Int32))) + (1 : Int32))), (.int (own_fl (own_q p1) (own_m p2 + own_r q3)))]))
    refine own_go (fun _ k => XS.icmpYes X103.here hx rfl (pc0 := 124) (pc' := 129) rfl (hb hby at_124) rfl (XT.ii_eq_t ((own_3 p1 p2 q3).resolve_left b1)) (by decide) (by decide) k) ?_
    show own_Go p.tables e below _ (T103.setTop (mkF m 129 #[.val (.int p1), .val (.int p2), .val (.long q3), .second, .val (.int (own_q p1)), .val (.int (p2 % (1000 : Int32))), .val (.long (2199023255552 : Int64)), .second, .val (.long (own_r q3)), .second, .val (.int (own_ex (own_q p1))), .val (.int (own_fl (own_q p1) (0 : Int64))), .val (.int (own_fl (own_q p1) (own_m p2))), .val (.int (own_fl (own_q p1) (own_m p2 + own_r q3))), .unset] []))
    exact c4
set_option maxRecDepth 65536 in
set_option maxHeartbeats 40000000 in
theorem own_comes {Post : Tables → Env → Array Value → State → Outcome → State → Prop} (hpost : ∀ tb e args s v u, (limb_1_1.after args s (.returned v) u = true ∧ limb_1_2.after args s (.returned v) u = true) → FrameEnd s (.returned v) u (Jvm.fieldLocs frame_1_writes args s ++ Jvm.arrayLocs frame_1_arrays args s ++ Jvm.staticLocs frame_1_statics s) 0 0 → Post tb e args s (.returned v) u) :
    ArmFor flags0 classFile x code maxLocals ret World_1 tables_1 room_1 Calls_1 rest_1 Pre_1 Post := by
  intro l hfl _ _ p e ha hc hk s m args below hf hA hF happ hP
  obtain ⟨hcalls, hrest, hpre⟩ := hP
  obtain ⟨-, -, -, hnamed, -, -, -, hat⟩ := (Spec.applies_iff hf).mp happ
  obtain ⟨hg, hn⟩ := and_e (Cond.before_iff.mp (show (Jvm.Cond.and given_1 narrow_1).before args s = true from hpre))
  obtain ⟨g0, g1⟩ := and_e hg
  obtain ⟨i0, g2⟩ := and_e g1
  obtain ⟨i1, g3⟩ := and_e g2
  have i2 := g3
  obtain ⟨w0, w1, w2, rfl⟩ : ∃ w0 w1 w2 : Value, args = #[w0, w1, w2] := by
    have hs : args.size = 3 := by simpa [Cond.value, given_1] using g0
    obtain ⟨L⟩ := args
    match L, hs with
    | [w0, w1, w2], _ => exact ⟨w0, w1, w2, rfl⟩
  have hw := fun d (hd : d ∈ tables_1) => atoms_spec (ws := Jvm.Cond.code x code maxLocals ret :: tables_1) hat d (List.mem_cons_of_mem _ hd)
  have hfit : Fit s := fun {y c} hc i hi => by
    obtain ⟨ha, rfl⟩ := Array.getElem?_eq_some_iff.mp hc
    have q := List.all_eq_true.mp ((Array.all_eq_true_iff_forall_mem.mp hF) _ (Array.getElem_mem ha)) i (List.mem_range.mpr hi)
    simpa [Array.getElem?_eq_getElem hi] using q
  obtain ⟨z0, ez0⟩ := is_v i0
  obtain rfl : w0 = (.int z0) := Option.some.inj ez0
  obtain ⟨z1, ez1⟩ := is_v i1
  obtain rfl : w1 = (.int z1) := Option.some.inj ez1
  obtain ⟨z2, ez2⟩ := isL_v i2
  obtain rfl : w2 = (.long z2) := Option.some.inj ez2
  obtain ⟨n, o, h1, h2, h3, _, L, rfl, ⟨rfl, N⟩, hq⟩ := own_rm0 l s _ hw tables_1 z0 z1 z2 s.heap s.heap.size (Nat.le_refl _) p e ha hc hk s m _ below hf ((Spec.applies_iff_loose hf).mp happ).1 ⟨rfl, State.Warmed39.refl s, rfl⟩ trivial
  refine ⟨n, _, h1, h2, h3, hpost _ _ _ _ _ _ ⟨Cond.after_iff.mpr rfl, Cond.after_iff.mpr (eq_i res_at (Term.int_eval (1)) rfl)⟩ ⟨hq.1, hq.2.1, (hq.2.2.sift fun y hy => Or.inr (N y hy)).mono (by decide) (by decide)⟩⟩
theorem main_1_1 : Claimed_1_1 := own_comes fun _ _ _ _ _ _ h hF => ⟨h.1, hF⟩
theorem main_1_2 : Claimed_1_2 := own_comes fun _ _ _ _ _ _ h hF => ⟨h.2, hF⟩
end Jvm.Pilot.@@N@@
namespace Jvm.Pilot.@@N@@
open Jvm Jvm.ClassFile Sem Op Lib Jvm.Free Jvm.Stand Jvm.Pilot.@@N@@.Jvm.D
/-! MADE BY PROGRAM (witnessworld.py) out of the Statement's table words and the real class files: 9 classes; the members and pool entries that the words name. The judged class is class 1, her method 1. -/
namespace start1
open Jvm.ClassFile
def u (s : String) : CpInfo := .utf8 (stringToUtf16 s)
/-- a pool by its gaps: so many unusable entries, then the entry; so many at the end -/
def gap : Nat → List CpInfo → List CpInfo
  | 0, r => r
  | n + 1, r => .unusable :: gap n r
def poolList (es : List (Nat × CpInfo)) (last : Nat) : List CpInfo := es.foldr (fun e r => gap e.1 (e.2 :: r)) (gap last [])
def pool (es : List (Nat × CpInfo)) (last : Nat) : Array CpInfo := ⟨poolList es last⟩
def fileOf (pool : Array CpInfo) (this : Nat) (attrs : Array Attribute := #[]) (ms : Array MethodInfo := #[]) (fl : Nat := 33) (sup : Nat := 0) (ifs : Array Nat := #[]) (fds : Array FieldInfo := #[]) : ClassFile where
  minorVersion := 0
  majorVersion := 65
  constantPool := pool
  accessFlags := fl
  thisClass := this
  superClass := sup
  interfaces := ifs
  fields := fds
  methods := ms
  attributes := attrs
def plain (name : String) (sup : Option ClassId) : Class where
  name := name
  kind := .ordinary
  loader := none
  accessFlags := 33
  super := sup
  interfaces := #[]
  cf := none
  fields := #[]
  methods := #[]
  instanceTypes := #[]
  staticTypes := #[]
  resolved := #[]
  callSites := []
  init := .initialized
  statics := none
  mirror := none

def pool0 : Array CpInfo := pool [(5, u "<init>"), (0, u "()V"), (1, .class_ 10), (1, u "java/lang/Object")] 113

def k0m0 : Method := { name := "<init>", desc := "()V", sig := { parameters := [], returnType := none }, accessFlags := 1, code := none }
/-- java/lang/Object -/
def k0 : Class := { plain "java/lang/Object" none with
  accessFlags := 33
  interfaces := #[]
  cf := some (fileOf pool0 8 #[] #[{ accessFlags := 1, nameIndex := 5, descriptorIndex := 6, attributes := #[] }] 33 0 #[] #[])
  fields := #[]
  methods := #[k0m0]
  instanceTypes := #[]
  staticTypes := #[]
  resolved := Array.replicate 124 none
  statics := none }

def pool1 : Array CpInfo := pool [(2, .class_ 4), (1, u "java/lang/Object"), (0, u "<init>"), (0, u "()V"), (0, .integer 2147483647), (0, .long 2199023255552), (1, .long 323228496), (1, .methodref 13 14), (0, .class_ 15), (0, .nameAndType 16 17), (0, u "com/example/cast4/cast4/print/ShortestDecimal"), (0, u "floorLog10"), (0, u "(IJ)I"), (0, .long 18446743798966364295), (1, .class_ 21), (0, u "com/example/cast4/cast4/print/ShortestDecimalFloorLog10PinLaw"), (2, u "law"), (0, u "(IIJ)Z")] 3

def k1m0 : Method := { name := "<init>", desc := "()V", sig := { parameters := [], returnType := none }, accessFlags := 1, code := none }
def k1c1 : Code := { maxStack := 6, maxLocals := 15, code := code, exceptionTable := #[], attributes := #[] }
def k1m1 : Method := { name := "law", desc := "(IIJ)Z", sig := { parameters := [.int, .int, .long], returnType := some .boolean }, accessFlags := 9, code := some k1c1 }
/-- com/example/cast4/cast4/print/ShortestDecimalFloorLog10PinLaw -/
def k1 : Class := { plain "com/example/cast4/cast4/print/ShortestDecimalFloorLog10PinLaw" (some 0) with
  accessFlags := 49
  interfaces := #[]
  cf := some (fileOf pool1 20 #[] #[{ accessFlags := 1, nameIndex := 5, descriptorIndex := 6, attributes := #[] }, { accessFlags := 9, nameIndex := 24, descriptorIndex := 25, attributes := #[] }] 49 2 #[] #[])
  fields := #[]
  methods := #[k1m0, k1m1]
  instanceTypes := #[]
  staticTypes := #[]
  resolved := Array.replicate 29 none
  statics := none }

def pool2 : Array CpInfo := pool [(2, .class_ 4), (1, u "java/lang/Object"), (3, .class_ 10), (1, u "com/example/cast4/cast4/print/ShortestDecimal"), (0, u "digits"), (0, u "J"), (2, u "exponent"), (0, u "I"), (21, u "POWERS_OF_TEN"), (0, u "[J"), (13, u "floorLog10"), (0, u "(IJ)I"), (0, .class_ 56), (0, u "com/example/cast4/cast4/print/ShortestDecimal$QuickInterval"), (18, .long 661971961083), (2, .class_ 80), (1, u "com/example/cast4/cast4/print/ShortestDecimal$Interval"), (25, u "FIVE"), (0, u "Ljava/math/BigInteger;"), (28, u "MAX_FRACTION_BITS_BY_PLACES"), (2, u "LOG10_2"), (0, u "LOG10_THREE_QUARTERS"), (0, u "LOG10_SCALE"), (10, .class_ 153), (0, u "com/example/cast4/cast4/print/ShortestDecimal$ExactInterval")] 4

def k2c0 : Code := { maxStack := 4, maxLocals := 3, code := prog_19_method_8_code, exceptionTable := #[], attributes := #[] }
def k2m0 : Method := { name := "floorLog10", desc := "(IJ)I", sig := { parameters := [.int, .long], returnType := some .int }, accessFlags := 8, code := some k2c0 }
/-- com/example/cast4/cast4/print/ShortestDecimal -/
def k2 : Class := { plain "com/example/cast4/cast4/print/ShortestDecimal" (some 0) with
  accessFlags := 32
  interfaces := #[]
  cf := some (fileOf pool2 8 #[.nestMembers #[152, 55, 78]] #[{ accessFlags := 8, nameIndex := 53, descriptorIndex := 54, attributes := #[] }] 32 2 #[] #[{ accessFlags := 26, nameIndex := 136, descriptorIndex := 16, attributes := #[] }, { accessFlags := 26, nameIndex := 139, descriptorIndex := 12, attributes := #[] }, { accessFlags := 26, nameIndex := 140, descriptorIndex := 12, attributes := #[] }, { accessFlags := 26, nameIndex := 141, descriptorIndex := 16, attributes := #[] }, { accessFlags := 26, nameIndex := 106, descriptorIndex := 107, attributes := #[] }, { accessFlags := 24, nameIndex := 38, descriptorIndex := 39, attributes := #[] }, { accessFlags := 18, nameIndex := 11, descriptorIndex := 12, attributes := #[] }, { accessFlags := 18, nameIndex := 15, descriptorIndex := 16, attributes := #[] }])
  fields := #[{ name := "MAX_FRACTION_BITS_BY_PLACES", type := .int, accessFlags := 26, slot := 0, constantValue := 0 }, { name := "LOG10_2", type := .long, accessFlags := 26, slot := 1, constantValue := 0 }, { name := "LOG10_THREE_QUARTERS", type := .long, accessFlags := 26, slot := 2, constantValue := 0 }, { name := "LOG10_SCALE", type := .int, accessFlags := 26, slot := 3, constantValue := 0 }, { name := "FIVE", type := (.object "java/math/BigInteger"), accessFlags := 26, slot := 4, constantValue := 0 }, { name := "POWERS_OF_TEN", type := (.array .long), accessFlags := 24, slot := 5, constantValue := 0 }, { name := "digits", type := .long, accessFlags := 18, slot := 0, constantValue := 0 }, { name := "exponent", type := .int, accessFlags := 18, slot := 1, constantValue := 0 }]
  methods := #[k2m0]
  instanceTypes := #[.long, .int]
  staticTypes := #[.int, .long, .long, .int, (.object "java/math/BigInteger"), (.array .long)]
  resolved := Array.replicate 158 none
  statics := none }

def pool3 : Array CpInfo := pool [(1, u "java/lang/Cloneable"), (0, .class_ 1), (0, u "java/lang/Object"), (0, .class_ 3)] 3

/-- java/lang/Cloneable -/
def k3 : Class := { plain "java/lang/Cloneable" (some 0) with
  accessFlags := 1537
  interfaces := #[]
  cf := some (fileOf pool3 2 #[] #[] 1537 4 #[] #[])
  fields := #[]
  methods := #[]
  instanceTypes := #[]
  staticTypes := #[]
  resolved := Array.replicate 8 none
  statics := none }

def pool4 : Array CpInfo := pool [(1, u "java/io/Serializable"), (0, .class_ 1), (0, u "java/lang/Object"), (0, .class_ 3)] 3

/-- java/io/Serializable -/
def k4 : Class := { plain "java/io/Serializable" (some 0) with
  accessFlags := 1537
  interfaces := #[]
  cf := some (fileOf pool4 2 #[] #[] 1537 4 #[] #[])
  fields := #[]
  methods := #[]
  instanceTypes := #[]
  staticTypes := #[]
  resolved := Array.replicate 8 none
  statics := none }

/-- the primitive byte -/
def k5 : Class := { plain "byte" none with kind := .primitive 'B', accessFlags := 0x411 }
/-- [B -/
def k6 : Class := { plain "[B" (some 0) with kind := .array 5 .byte, interfaces := #[3, 4], accessFlags := 1041 }

/-- the primitive int -/
def k7 : Class := { plain "int" none with kind := .primitive 'I', accessFlags := 0x411 }
/-- [I -/
def k8 : Class := { plain "[I" (some 0) with kind := .array 7 .int, interfaces := #[3, 4], accessFlags := 1041 }

def heap : Heap := #[]
def classes : Array Class := #[k0, k1, k2, k3, k4, k5, k6, k7, k8]
def interned : List (Array UInt16 × Addr) := []
def slotsUsed : Nat := 0
def theMethod : MethodId := ⟨1, 1⟩
def args0 : Array Value := #[.int 5, .int 300, .long 7]
def aboutOver (below : List Frame) : State where
  vm := { classes := classes, interned := interned.toArray }
  heap := heap
  slotsUsed := slotsUsed
  threads := #[{ frames := .invoking theMethod args0 :: below }]
def below0 : List Frame := [.native { method := ⟨0, 0⟩, args := #[] }]
def about1 : State := aboutOver below0
def p0 : Program := .bare "" "" ""
def e0 : Env := launch0.env 0 0 0
theorem w_frames : about1.frames = Frame.invoking theMethod args0 :: below0 := rfl
set_option maxRecDepth 65536 in
theorem w_args : argsFit about1.vm theMethod args0 = true := by decide +kernel
set_option maxRecDepth 65536 in
theorem w_heap : heapFits about1 = true := by decide +kernel
set_option maxRecDepth 65536 in
theorem w_runnable : about1.curStatus? = some .runnable := by decide +kernel
set_option maxRecDepth 65536 in
theorem w_alone : about1.alone = true := by decide +kernel
set_option maxRecDepth 65536 in
theorem w_named : about1.methodNamed? x = some theMethod := by decide +kernel
set_option maxRecDepth 65536 in
theorem w_hears : about1.hears theMethod below0 = true := by decide +kernel
set_option maxRecDepth 65536 in
theorem w_ripe : about1.ripe theMethod args0 below0 = true := by decide +kernel
theorem w_running : about1.status = .running := rfl
set_option maxRecDepth 65536 in
theorem w_room : about1.hasRoom e0.platform room_1 = true :=
  launch0.hasRoom_least _ room_1 (by decide +kernel) (by decide +kernel) (by decide +kernel) (by decide +kernel) (by decide +kernel) (by decide +kernel)
theorem allAtoms_all (ts : List Jvm.Cond) (a : Array Jvm.Value) (st : Jvm.State) : (allAtoms ts).before a st = ts.all (fun c => c.before a st) := by
  induction ts with
  | nil => rfl
  | cons c t ih =>
    show (Jvm.Cond.and c (allAtoms t)).before a st = _
    rw [Jvm.Cond.before_and, ih, List.all_cons]
def words1 : List Jvm.Cond := Jvm.Cond.code x code maxLocals ret :: tables_1
/-- a 'code' word, met by the world's own term for the bytes: nothing is compared byte by byte -/
theorem code_word {y : MethodName} {bytes : ByteArray} {mx : Nat} {rt : Option FieldType} {a : Array Value} {s : State} {m : MethodId} {meth : Method} {c : Code} (h1 : s.methodNamed? y = some m) (h2 : s.vm.method? m = some meth) (h3 : meth.code = some c) (h4 : c.code = bytes)
    (h5 : (c.maxLocals == mx && c.exceptionTable.isEmpty && decide (c.maxStack ≤ mostOperands) && decide (meth.sig.returnType = rt) && !meth.locks && decide (parseMethodDescriptor y.desc = some meth.sig)) = true) : (Jvm.Cond.code y bytes mx rt).before a s = true := by
  simp only [Bool.and_eq_true, beq_iff_eq, Bool.not_eq_true', decide_eq_true_eq] at h5
  obtain ⟨⟨⟨⟨⟨g1, g2⟩, g3⟩, g4⟩, g5⟩, g6⟩ := h5
  simp [Cond.before, Cond.holds, Cond.value, h1, h2, h3, h4, g1, g2, g3, g4, g5, g6]
def isCode : Jvm.Cond → Bool
  | .code _ _ _ _ => true
  | _ => false
theorem all_split {L : List Jvm.Cond} {P : Jvm.Cond → Bool} (h1 : L.all (fun c => isCode c || P c) = true) (h2 : ∀ c ∈ L.filter isCode, P c = true) : L.all P = true := by
  refine List.all_eq_true.mpr fun c hc => ?_
  have h := List.all_eq_true.mp h1 c hc
  rcases Bool.eq_false_or_eq_true (isCode c) with hi | hi
  · exact h2 c (List.mem_filter.mpr ⟨hc, hi⟩)
  · simpa [hi] using h
set_option maxRecDepth 65536 in
theorem w_c0 : (Jvm.Cond.code x code maxLocals ret).before args0 about1 = true := code_word (m := ⟨1, 1⟩) (meth := k1m1) (c := k1c1) (by decide +kernel) rfl rfl rfl (by decide +kernel)
set_option maxRecDepth 65536 in
theorem w_c1 : (Jvm.Cond.code ({ cls := "com/example/cast4/cast4/print/ShortestDecimal", name := "floorLog10", desc := "(IJ)I" } : Jvm.MethodName) prog_19_method_8_code (3 : Nat) (Option.some Jvm.ClassFile.FieldType.int)).before args0 about1 = true := code_word (m := ⟨2, 0⟩) (meth := k2m0) (c := k2c0) (by decide +kernel) rfl rfl rfl (by decide +kernel)
def codes1 : List Jvm.Cond := [Jvm.Cond.code x code maxLocals ret, Jvm.Cond.code ({ cls := "com/example/cast4/cast4/print/ShortestDecimal", name := "floorLog10", desc := "(IJ)I" } : Jvm.MethodName) prog_19_method_8_code (3 : Nat) (Option.some Jvm.ClassFile.FieldType.int)]
set_option maxRecDepth 65536 in
theorem codes_eq : words1.filter isCode = codes1 := rfl
theorem w_codes : ∀ c ∈ words1.filter isCode, c.before args0 about1 = true := by
  rw [codes_eq]
  intro c hc
  simp only [codes1, List.mem_cons, List.not_mem_nil, or_false] at hc
  rcases hc with rfl | rfl
  · exact w_c0
  · exact w_c1
set_option maxRecDepth 65536 in
theorem w_t1 : words1.all (fun c => isCode c || c.before args0 about1) = true := by decide +kernel
theorem w_tables : (allAtoms (Jvm.Cond.code x code maxLocals ret :: tables_1)).before args0 about1 = true := by
  rw [allAtoms_all]
  show words1.all (fun c => c.before args0 about1) = true
  refine all_split ?_ w_codes
  rw [w_t1]
set_option maxRecDepth 65536 in
theorem w_case : (Jvm.Cond.and given_1 narrow_1).before args0 about1 = true := by decide +kernel
theorem w_applies : (headSpec (Jvm.Cond.code x code maxLocals ret :: tables_1) room_1).applies x e0.platform about1 = true :=
  (Spec.applies_iff w_frames).mpr ⟨w_running, w_runnable, w_alone, w_named, w_hears, w_ripe, w_room, w_tables⟩
theorem atStart : AtStart classFile x code maxLocals ret World_1 tables_1 room_1 Calls_1 rest_1 Pre_1 launch0 p0 e0 about1 theMethod args0 below0 :=
  ⟨lists_1, trivial, launch0.admits_env _ _ _, launch0.least_env, fairChoices_fair.cas, fairChoices_fair.clock, w_frames, w_args, w_heap, w_applies, trivial, trivial, w_case⟩
end start1
theorem witness_1 : WitnessClaimed_1 := ⟨start1.p0, start1.e0, start1.about1, start1.theMethod, start1.args0, start1.below0, start1.atStart⟩
end Jvm.Pilot.@@N@@
