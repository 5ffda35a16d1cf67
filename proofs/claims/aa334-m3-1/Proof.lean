import JvmDerived
import JvmDerived.Pilot.@@N@@Statement
import JvmDerived.Pilot.@@N@@Code
set_option linter.unusedVariables false
set_option linter.unusedSimpArgs false
namespace Jvm.OwnWalk
open Sem ClassFile Op Lib Jvm.Stand Jvm.Free Jvm.LawKit Jvm.RoadKit
section Own
variable {p : Program} {l : Launch} {e : Env} {R : Room} {s : State} {m : MethodId} {args : Array Value} {below : List Frame} {meth : Method} {c : Code} {T : State} {locs : List Loc} {cells slots : Nat} {Z : State} {a0 : Array Value} {h h' : Heap} {Q : Option Value → Heap → List Loc → Prop} {kc ks : Nat} {G : Outcome → State → Prop} {A B : State}
/-- from A the invocation comes to its end, and Q holds of what it returns, of the heap and of the places written -/
def Goes (p : Program) (e : Env) (below : List Frame) (G : Outcome → State → Prop) (A : State) : Prop :=
  ∃ s₂ o, Steps p.tables e below A s₂ ∧ s₂.status = .running ∧ Ended s₂ below o ∧ G o s₂
def EndN (s : State) (Q : Option Value → Heap → List Loc → Prop) (kc ks : Nat) (o : Outcome) (t : State) : Prop := ∃ v L, o = .returned v ∧ Q v t.heap L ∧ FrameEnd s o t L kc ks
theorem go (k : ∀ t, Steps p.tables e below B t → Steps p.tables e below A t) (g : Goes p e below G B) : Goes p e below G A := by
  obtain ⟨s₂, o, st, r⟩ := g
  exact ⟨s₂, o, k _ st, r⟩
theorem goE {g g' : JFrame} (q : g = g') (k : Goes p e below G (T.setTop g')) : Goes p e below G (T.setTop g) := q ▸ k
theorem goEnd (X : Stand p l e R s m args below meth c T locs cells slots) {v : Option Value} (hv : meth.sig.returnType = none → v = none) (hlocks : meth.locks = false) (hc : cells ≤ kc) (hs : slots ≤ ks) (eT : T.heap = h) (hq : Q v h locs)
    (k : ∀ fs, (∀ (f : JFrame) (acts : List Action), f.method = m → f.locked = none → f.entered = [] → (doReturn e (T.setTop f) acts v).1 = T.setFrames fs) → Steps p.tables e below A (T.setFrames fs)) : Goes p e below (EndN s Q kc ks) A := by
  obtain ⟨fs, hr, hrun, hended, hW, hsame⟩ := X.leave hv hlocks
  exact ⟨_, _, k fs hr, hrun, hended, _, _, rfl, (by show Q v T.heap locs; rw [eT]; exact hq), ⟨_, rfl⟩, hW, hsame.mono hc hs⟩
theorem goRetV (X : Stand p l e R s m args below meth c T locs cells slots) (hx : p.tables.exec = Jvm.exec) {pc : Nat} {Ls : Array Slot} {w : Value} {t : FieldType} {i : Instr} {rest : List Value} (hret : meth.sig.returnType = some t) (hlocks : meth.locks = false) (hd : decode c.code pc = .ok (i, 1)) (hn : narrow t w = w)
    (hi : (i = .ireturn ∧ (t = .int ∨ t = .boolean ∨ t = .byte ∨ t = .char ∨ t = .short) ∧ ∃ z, w = .int z) ∨ (i = .lreturn ∧ t = .long ∧ ∃ z, w = .long z) ∨ (i = .dreturn ∧ t = .double ∧ ∃ z, w = .double z) ∨ (i = .freturn ∧ t = .float ∧ ∃ z, w = .float z) ∨ (i = .areturn ∧ t.isReference = true ∧ w.isRef = true))
    (hc : cells ≤ kc) (hs : slots ≤ ks) (eT : T.heap = h) (hq : Q (some w) h locs) : Goes p e below (EndN s Q kc ks) (T.setTop (mkF m pc Ls (w :: rest))) :=
  goEnd X (v := some w) (fun q => by rw [hret] at q; cases q) hlocks hc hs eT hq fun fs hr => retOut X hx hret hn hi hd hr
theorem goRetI (X : Stand p l e R s m args below meth c T locs cells slots) (hx : p.tables.exec = Jvm.exec) {pc : Nat} {Ls : Array Slot} {z : Int32} {rest : List Value} (hret : meth.sig.returnType = some .int) (hlocks : meth.locks = false) (hd : decode c.code pc = .ok (.ireturn, 1))
    (hc : cells ≤ kc) (hs : slots ≤ ks) (eT : T.heap = h) (hq : Q (some (.int z)) h locs) : Goes p e below (EndN s Q kc ks) (T.setTop (mkF m pc Ls (.int z :: rest))) :=
  goRetV X hx hret hlocks hd rfl (Or.inl ⟨rfl, Or.inl rfl, _, rfl⟩) hc hs eT hq
theorem goRetJ (X : Stand p l e R s m args below meth c T locs cells slots) (hx : p.tables.exec = Jvm.exec) {pc : Nat} {Ls : Array Slot} {z : Int64} {rest : List Value} (hret : meth.sig.returnType = some .long) (hlocks : meth.locks = false) (hd : decode c.code pc = .ok (.lreturn, 1))
    (hc : cells ≤ kc) (hs : slots ≤ ks) (eT : T.heap = h) (hq : Q (some (.long z)) h locs) : Goes p e below (EndN s Q kc ks) (T.setTop (mkF m pc Ls (.long z :: rest))) :=
  goRetV X hx hret hlocks hd rfl (Or.inr (Or.inl ⟨rfl, rfl, _, rfl⟩)) hc hs eT hq
theorem goRetD (X : Stand p l e R s m args below meth c T locs cells slots) (hx : p.tables.exec = Jvm.exec) {pc : Nat} {Ls : Array Slot} {z : UInt64} {rest : List Value} (hret : meth.sig.returnType = some .double) (hlocks : meth.locks = false) (hd : decode c.code pc = .ok (.dreturn, 1))
    (hc : cells ≤ kc) (hs : slots ≤ ks) (eT : T.heap = h) (hq : Q (some (.double z)) h locs) : Goes p e below (EndN s Q kc ks) (T.setTop (mkF m pc Ls (.double z :: rest))) :=
  goRetV X hx hret hlocks hd rfl (Or.inr (Or.inr (Or.inl ⟨rfl, rfl, _, rfl⟩))) hc hs eT hq
theorem goRetA (X : Stand p l e R s m args below meth c T locs cells slots) (hx : p.tables.exec = Jvm.exec) {pc : Nat} {Ls : Array Slot} {w : Value} {t : FieldType} {rest : List Value} (hret : meth.sig.returnType = some t) (hlocks : meth.locks = false) (ht : t.isReference = true) (hw : w.isRef = true) (hd : decode c.code pc = .ok (.areturn, 1))
    (hc : cells ≤ kc) (hs : slots ≤ ks) (eT : T.heap = h) (hq : Q (some w) h locs) : Goes p e below (EndN s Q kc ks) (T.setTop (mkF m pc Ls (w :: rest))) :=
  goRetV X hx hret hlocks hd (by cases t <;> first | (cases ht; done) | rfl) (Or.inr (Or.inr (Or.inr (Or.inr ⟨rfl, ht, hw⟩)))) hc hs eT hq
theorem goRetN (X : Stand p l e R s m args below meth c T locs cells slots) (hx : p.tables.exec = Jvm.exec) {pc : Nat} {Ls : Array Slot} {z z' : Int32} {t : FieldType} {rest : List Value} (hret : meth.sig.returnType = some t) (hlocks : meth.locks = false) (ht : t = .boolean ∨ t = .byte ∨ t = .char ∨ t = .short) (hd : decode c.code pc = .ok (.ireturn, 1)) (hz : nar t z = z')
    (hc : cells ≤ kc) (hs : slots ≤ ks) (eT : T.heap = h) (hq : Q (some (.int z')) h locs) : Goes p e below (EndN s Q kc ks) (T.setTop (mkF m pc Ls (.int z :: rest))) := by
  subst hz
  exact goEnd X (v := some (.int (nar t z))) (fun q => by rw [hret] at q; cases q) hlocks hc hs eT hq fun fs hr => retN X hx hret ht hd hr
theorem goRet0 (X : Stand p l e R s m args below meth c T locs cells slots) (hx : p.tables.exec = Jvm.exec) {pc : Nat} {Ls : Array Slot} (hret : meth.sig.returnType = none) (hlocks : meth.locks = false) (hd : decode c.code pc = .ok (.return_, 1))
    (hc : cells ≤ kc) (hs : slots ≤ ks) (eT : T.heap = h) (hq : Q none h locs) : Goes p e below (EndN s Q kc ks) (T.setTop (mkF m pc Ls [])) :=
  goEnd X (v := none) (fun _ => rfl) hlocks hc hs eT hq fun fs hr => X.returnOut hx hret hd hr
/-- a body's contract: called with these arguments at this heap it returns, and Q holds -/
def Ctr (l : Launch) (Z : State) (y : MethodName) (bytes : ByteArray) (maxL : Nat) (ret : Option FieldType) (ws : List Cond) (rm : Room) (as : Array Value) (h0 : Heap) (Q : Option Value → Heap → List Loc → Prop) : Prop :=
  MetFree l y (head1 (Cond.code y bytes maxL ret :: ws) rm) (fun a U => a = as ∧ Z.Warmed39 U.vm ∧ U.heap = h0) (fun _ _ _ _ _ => True) (fun _ U o U' => ∃ v L, o = .returned v ∧ Q v U'.heap L ∧ FrameEnd U o U' L rm.cells rm.slots)
theorem ctr {y : MethodName} {bytes : ByteArray} {maxL : Nat} {ret : Option FieldType} {ws : List Cond} {rm : Room} {as : Array Value} {h0 : Heap} (hpn : plainFor y = true)
    (body : ∀ (p : Program) (e : Env) (s : State) (m : MethodId) (below : List Frame) (meth : Method) (c : Code) (s₁ : State), p.tables.exec = Jvm.exec → c.code = bytes → c.maxLocals = maxL → s.vm.findClass y.cls = some m.cls → meth.name = y.name → meth.sig.returnType = ret → meth.locks = false → Z.Warmed39 s.vm →
      Stand p l e rm s m as below meth c s₁ [] 0 0 → s₁.heap = h0 → Goes p e below (EndN s Q rm.cells rm.slots) (s₁.setTop (entryFrame m as maxL))) : Ctr l Z y bytes maxL ret ws rm as h0 Q := by
  refine MetFree.of_bodySF hpn hisR ?_
  intro p e s m args below meth c s₁ Bd hml0 hP hK
  obtain ⟨rfl, hZ, hh⟩ := hP
  exact body p e s m below meth c s₁ Bd.exec Bd.bytes hml0 (findClass_of_methodNamed Bd.named) (name_of_methodNamed Bd.named Bd.method).1 Bd.returns Bd.notSynchronized hZ (Stand.of_body Bd) (by rw [← hh, Bd.state]; rfl)
theorem goCallS (X : Stand p l e R s m args below meth c T locs cells slots) (hx : p.tables.exec = Jvm.exec) (hZ : Z.Warmed39 s.vm) {own : String} {index : Nat} {y : MethodName} {bytes : ByteArray} {maxL : Nat} {ret : Option FieldType} (hown : s.vm.findClass own = some m.cls)
    (w1 : (Cond.methodLink own index y).before a0 Z = true) (w2 : (Cond.static y).before a0 Z = true) (w3 : (Cond.initialized y.cls).before a0 Z = true) (w4 : (Cond.code y bytes maxL ret).before a0 Z = true) (hy : y.cls ≠ "java/lang/invoke/MethodHandle" ∧ y.cls ≠ "java/lang/invoke/VarHandle")
    {rm : Room} {as : Array Value} {Q' : Option Value → Heap → List Loc → Prop} (hM : Ctr l Z y bytes maxL ret [] rm as h Q') (W : Nat) (hf : rm.frames + 1 ≤ R.frames) (hl : W + (maxL + 11) + rm.locals ≤ R.locals) (eT : T.heap = h)
    {pc : Nat} {Ls : Array Slot} {st : List Value} (hsize : Ls.size = c.maxLocals) (argsL rest : List Value) {ps : List FieldType} {rt : Option FieldType} (hpd : parseMethodDescriptor y.desc = some ⟨ps, rt⟩) (hlen : argsL.length = ps.length) (hst : st = argsL.reverse ++ rest) (has : argsL.toArray = as) (hW : (rest.map fun v => v.category).sum ≤ W)
    (hd : decode c.code pc = .ok (.invokestatic index, 3)) (hc : cells + rm.cells ≤ R.cells) (hs : slots + rm.slots ≤ R.slots)
    (k : ∀ T' v L, Stand p l e R s m args below meth c T' (locs ++ L) (cells + rm.cells) (slots + rm.slots) → Q' v T'.heap L → Goes p e below G (T'.setTop (mkF m (pc + 3) Ls (v.toList ++ rest)))) : Goes p e below G (T.setTop (mkF m pc Ls st)) := by
  subst hst
  obtain ⟨v, _, ⟨T', L', k', n'⟩, -, X', ⟨L, hQ, l1, y1, z1⟩, st⟩ := Jvm.LawKit.callS X hx (y := y) hown (mvT hZ w1) (mvT hZ w2) (mvT hZ w3) (mvT hZ w4) hy (backOf (W := W) hM hZ w4 w3 hf hl) (g := mkF m pc Ls (argsL.reverse ++ rest)) rfl hsize (argsL := argsL) (rest := rest) (lenOf hpd hlen) rfl (by show 2 * 0 + _ ≤ _; omega) hd (fun _ _ => ⟨has, eT, hc, hs⟩)
  dsimp only [Pt.U, Pt.locs, Pt.cells, Pt.slots] at X' l1 y1 z1 st hQ
  subst l1 y1 z1
  exact go st (k T' v L X' hQ)
theorem goCallI (X : Stand p l e R s m args below meth c T locs cells slots) (hx : p.tables.exec = Jvm.exec) (hZ : Z.Warmed39 s.vm) {own : String} {index : Nat} {y : MethodName} {bytes : ByteArray} {maxL : Nat} (hy1 : y.name = "<init>") (hown : s.vm.findClass own = some m.cls)
    (w1 : (Cond.methodLink own index y).before a0 Z = true) (w2 : (Cond.instanceMethod y).before a0 Z = true) (w3 : (Cond.initialized y.cls).before a0 Z = true) (w4 : (Cond.code y bytes maxL none).before a0 Z = true) (hy : y.cls ≠ "java/lang/invoke/MethodHandle" ∧ y.cls ≠ "java/lang/invoke/VarHandle")
    {rm : Room} {as : Array Value} {Q' : Option Value → Heap → List Loc → Prop} (hM : Ctr l Z y bytes maxL none [] rm as h Q') (W : Nat) (hf : rm.frames + 1 ≤ R.frames) (hl : W + (maxL + 11) + rm.locals ≤ R.locals) (eT : T.heap = h)
    {pc : Nat} {Ls : Array Slot} {st : List Value} (hsize : Ls.size = c.maxLocals) (a : Addr) (argsL rest : List Value) {ps : List FieldType} {rt : Option FieldType} (hpd : parseMethodDescriptor y.desc = some ⟨ps, rt⟩) (hlen : argsL.length = ps.length) (hst : st = argsL.reverse ++ .ref a :: rest) (has : (.ref a :: argsL).toArray = as) (hW : (rest.map fun v => v.category).sum ≤ W)
    (hd : decode c.code pc = .ok (.invokespecial index, 3)) (hc : cells + rm.cells ≤ R.cells) (hs : slots + rm.slots ≤ R.slots)
    (k : ∀ T' v L, Stand p l e R s m args below meth c T' (locs ++ L) (cells + rm.cells) (slots + rm.slots) → Q' v T'.heap L → Goes p e below G (T'.setTop (mkF m (pc + 3) Ls (v.toList ++ rest)))) : Goes p e below G (T.setTop (mkF m pc Ls st)) := by
  subst hst
  obtain ⟨v, _, ⟨T', L', k', n'⟩, -, X', ⟨L, hQ, l1, y1, z1⟩, st⟩ := X.specialBack hx (y := y) hy1 hown (mvT hZ w1) (mvT hZ w2) (mvT hZ w4) hy (backOf (W := W) hM hZ w4 w3 hf hl) (g := mkF m pc Ls (argsL.reverse ++ .ref a :: rest)) rfl hsize (Steps.refl _) (a := a) (argsL := argsL) (rest := rest) (lenOf hpd hlen) rfl (by show 2 * 0 + _ ≤ _; omega) hd (fun _ _ => ⟨has, eT, hc, hs⟩)
  dsimp only [Pt.U, Pt.locs, Pt.cells, Pt.slots] at X' l1 y1 z1 st hQ
  subst l1 y1 z1
  exact go (fun _ => st.trans) (k T' v L X' hQ)
theorem goCallV (X : Stand p l e R s m args below meth c T locs cells slots) (hx : p.tables.exec = Jvm.exec) (hZ : Z.Warmed39 s.vm) {own C : String} {index : Nat} {y : MethodName} {bytes : ByteArray} {maxL : Nat} {ret : Option FieldType} (hown : s.vm.findClass own = some m.cls)
    (w1 : (Cond.methodLink own index y).before a0 Z = true) (w2 : (Cond.declares y).before a0 Z = true) (w5 : (Cond.selects C y y).before a0 Z = true) (w6 : (Cond.instanceMethod y).before a0 Z = true) (w3 : (Cond.initialized y.cls).before a0 Z = true) (w4 : (Cond.code y bytes maxL ret).before a0 Z = true) (hy : y.cls ≠ "java/lang/invoke/MethodHandle" ∧ y.cls ≠ "java/lang/invoke/VarHandle")
    {rm : Room} {as : Array Value} {Q' : Option Value → Heap → List Loc → Prop} (hM : Ctr l Z y bytes maxL ret [] rm as h Q') (W : Nat) (hf : rm.frames + 1 ≤ R.frames) (hl : W + (maxL + 11) + rm.locals ≤ R.locals) (eT : T.heap = h) {a : Addr} (E : Exa Z h a C)
    {pc : Nat} {Ls : Array Slot} {st : List Value} (hsize : Ls.size = c.maxLocals) (argsL rest : List Value) {ps : List FieldType} {rt : Option FieldType} (hpd : parseMethodDescriptor y.desc = some ⟨ps, rt⟩) (hlen : argsL.length = ps.length) (hst : st = argsL.reverse ++ .ref a :: rest) (has : (.ref a :: argsL).toArray = as) (hW : (rest.map fun v => v.category).sum ≤ W)
    (hd : decode c.code pc = .ok (.invokevirtual index, 3)) (hc : cells + rm.cells ≤ R.cells) (hs : slots + rm.slots ≤ R.slots)
    (k : ∀ T' v L, Stand p l e R s m args below meth c T' (locs ++ L) (cells + rm.cells) (slots + rm.slots) → Q' v T'.heap L → Goes p e below G (T'.setTop (mkF m (pc + 3) Ls (v.toList ++ rest)))) : Goes p e below G (T.setTop (mkF m pc Ls st)) := by
  subst hst
  obtain ⟨cq, kq, qa, qb, qc⟩ := isOf hZ eT E
  obtain ⟨v, _, ⟨T', L', k', n'⟩, -, X', ⟨L, hQ, l1, y1, z1⟩, st⟩ := X.virtualBack hx (y := y) (z := y) hown (mvT hZ w1) (mvT hZ w2) (notFace_of_selects (args := #[]) (mvT hZ w5)) (mvT hZ w5) (mvT hZ w6) hy (backOf (W := W) hM hZ w4 w3 hf hl) qa qc (g := mkF m pc Ls (argsL.reverse ++ .ref a :: rest)) rfl hsize (Steps.refl _) (argsL := argsL) (rest := rest) (lenOf hpd hlen) rfl (by show 2 * 0 + _ ≤ _; omega) hd (fun _ _ => ⟨has, eT, hc, hs⟩)
  dsimp only [Pt.U, Pt.locs, Pt.cells, Pt.slots] at X' l1 y1 z1 st hQ
  subst l1 y1 z1
  exact go (fun _ => st.trans) (k T' v L X' hQ)
theorem goCallP (X : Stand p l e R s m args below meth c T locs cells slots) (hx : p.tables.exec = Jvm.exec) (hZ : Z.Warmed39 s.vm) {own C : String} {index : Nat} {y : MethodName} {bytes : ByteArray} {maxL : Nat} {ret : Option FieldType} (hown : s.vm.findClass own = some m.cls)
    (w1 : (Cond.methodLink own index y).before a0 Z = true) (w2 : (Cond.privateMethod y).before a0 Z = true) (w5 : (Cond.selects y.cls y y).before a0 Z = true) (w6 : (Cond.instanceMethod y).before a0 Z = true) (w3 : (Cond.initialized y.cls).before a0 Z = true) (w4 : (Cond.code y bytes maxL ret).before a0 Z = true) (hy : y.cls ≠ "java/lang/invoke/MethodHandle" ∧ y.cls ≠ "java/lang/invoke/VarHandle")
    {rm : Room} {as : Array Value} {Q' : Option Value → Heap → List Loc → Prop} (hM : Ctr l Z y bytes maxL ret [] rm as h Q') (W : Nat) (hf : rm.frames + 1 ≤ R.frames) (hl : W + (maxL + 11) + rm.locals ≤ R.locals) (eT : T.heap = h) {a : Addr} (E : Exa Z h a C)
    {pc : Nat} {Ls : Array Slot} {st : List Value} (hsize : Ls.size = c.maxLocals) (argsL rest : List Value) {ps : List FieldType} {rt : Option FieldType} (hpd : parseMethodDescriptor y.desc = some ⟨ps, rt⟩) (hlen : argsL.length = ps.length) (hst : st = argsL.reverse ++ .ref a :: rest) (has : (.ref a :: argsL).toArray = as) (hW : (rest.map fun v => v.category).sum ≤ W)
    (hd : decode c.code pc = .ok (.invokevirtual index, 3)) (hc : cells + rm.cells ≤ R.cells) (hs : slots + rm.slots ≤ R.slots)
    (k : ∀ T' v L, Stand p l e R s m args below meth c T' (locs ++ L) (cells + rm.cells) (slots + rm.slots) → Q' v T'.heap L → Goes p e below G (T'.setTop (mkF m (pc + 3) Ls (v.toList ++ rest)))) : Goes p e below G (T.setTop (mkF m pc Ls st)) := by
  subst hst
  obtain ⟨cq, qa, qb⟩ := Exa.cell E
  rw [← eT] at qa
  obtain ⟨v, _, ⟨T', L', k', n'⟩, -, X', ⟨L, hQ, l1, y1, z1⟩, st⟩ := X.privateBack hx (y := y) hown (mvT hZ w1) (mvT hZ w6) (mvT hZ w5) (Cond.privateMethod_at (args := #[]) (mvP hZ w2)) (mvT hZ w4) hy (backOf (W := W) hM hZ w4 w3 hf hl) (g := mkF m pc Ls (argsL.reverse ++ .ref a :: rest)) rfl hsize (Steps.refl _) (a := a) qa qb (argsL := argsL) (rest := rest) (lenOf hpd hlen) rfl (by show 2 * 0 + _ ≤ _; omega) hd (fun _ _ => ⟨has, eT, hc, hs⟩)
  dsimp only [Pt.U, Pt.locs, Pt.cells, Pt.slots] at X' l1 y1 z1 st hQ
  subst l1 y1 z1
  exact go (fun _ => st.trans) (k T' v L X' hQ)
theorem extT {h0 : Heap} (O : Ext h0 h) (E : Ext h h') : Ext h0 h' := ⟨Nat.le_trans O.1 E.1, fun x c q => E.2 x c (O.2 x c q)⟩
theorem extK {h0 : Heap} {ws : List Addr} (O : Ext h0 h) (K : Keep h h' ws) (q : ∀ x ∈ ws, h0.size ≤ x) : Ext h0 h' := ⟨Nat.le_trans O.1 K.1, fun x c r => K.2.1 x c (O.2 x c r) fun z => absurd (Array.getElem?_eq_some_iff.mp r).1 (Nat.not_lt.mpr (q x z))⟩
theorem extW {h0 : Heap} {a : Addr} {sl : Nat} {v : Value} (O : Ext h0 h) (W : Wr h h' a sl v) (q : h0.size ≤ a) : Ext h0 h' := extK O (Keep.of_wr W) (allS q all0)
theorem eqI_v {t : Term} {k : Int32} {first s : State} {o : Option Outcome} {idx : List Nat} {args : Array Value} (h : (Cond.eq t (.int k)).value args first o s idx = some true) : t.eval args first o idx s = some (.int k) := by
  simp only [Cond.value, Term.eval] at h
  cases ht : t.eval args first o idx s with
  | none => simp [ht] at h
  | some x => cases x <;> simp [ht] at h ⊢; exact h
/-- an array with these values -/
def Ary (Z : State) (h : Heap) (a : Addr) (ty : FieldType) (vs : List Value) : Prop := ∃ cl : Cell, Arr Z h a cl ty ∧ cl.slots.toList = vs ∧ vs.length < 2 ^ 31
variable {a b : Addr} {ty : FieldType} {vs : List Value}
theorem Ary.lt (F : Ary Z h a ty vs) : a < h.size := by obtain ⟨c, A, -⟩ := F; exact A.lt
theorem Ary.ext (F : Ary Z h a ty vs) (E : Ext h h') : Ary Z h' a ty vs := by obtain ⟨c, A, r⟩ := F; exact ⟨c, A.ext E, r⟩
theorem Ary.other (F : Ary Z h b ty vs) {sl : Nat} {v : Value} (W : Wr h h' a sl v) (q : b ≠ a) : Ary Z h' b ty vs := by obtain ⟨c, A, r⟩ := F; exact ⟨c, A.other W q, r⟩
theorem Ary.keep (F : Ary Z h a ty vs) {ws : List Addr} (K : Keep h h' ws) (q : a ∉ ws) : Ary Z h' a ty vs := by obtain ⟨c, A, r⟩ := F; exact ⟨c, ⟨K.2.1 a c A.1 q, A.2⟩, r⟩
theorem Ary.set (F : Ary Z h a ty vs) {j : Int32} {v : Value} (W : Wr h h' a j.toNatClampNeg v) {ws : List Value} (e : vs.set j.toNatClampNeg v = ws) : Ary Z h' a ty ws := by
  obtain ⟨c, A, r, q⟩ := F
  refine ⟨_, A.same W, ?_, ?_⟩
  · rw [← e, ← r]; simp [Cell.setSlot]
  · rw [← e, List.length_set]; exact q
theorem Ary.new {cA : ClassId} {n : Int32} (A : Arr Z h a (newA cA ty n) ty) (e : List.replicate n.toNatClampNeg (defaultValue ty) = vs) (q : vs.length < 2 ^ 31) : Ary Z h a ty vs := ⟨_, A, by rw [← e]; simp [newA], q⟩
theorem Ary.inb {cl : Cell} (r : cl.slots.toList = vs) {j : Int32} {v : Value} (hj : ¬ j < 0) (hv : vs[j.toNatClampNeg]? = some v) : ¬ (j < 0 ∨ cl.slots.size ≤ j.toNatClampNeg) := fun q => by
  rcases q with q | q
  · exact hj q
  · subst r
    have := (List.getElem?_eq_some_iff.mp hv).1
    rw [Array.length_toList] at this
    omega
theorem Ary.at {cl : Cell} (r : cl.slots.toList = vs) {j : Int32} {v : Value} (hv : vs[j.toNatClampNeg]? = some v) : cl.slots[j.toNatClampNeg]? = some v := by subst r; simpa using hv
theorem goIaload (X : Stand p l e R s m args below meth c T locs cells slots) (hx : p.tables.exec = Jvm.exec) (hZ : Z.Warmed39 s.vm) (eT : T.heap = h) {vs : List Value} (F : Ary Z h a .int vs) {j x : Int32} {pc : Nat} {Ls : Array Slot} {rest : List Value} (hd : decode c.code pc = .ok (.iaload, 1)) (hj : ¬ j < 0) (hv : vs[j.toNatClampNeg]? = some (.int x))
    (k : Goes p e below G (T.setTop (mkF m (pc + 1) Ls (.int x :: rest)))) : Goes p e below G (T.setTop (mkF m pc Ls (.int j :: .ref a :: rest))) := by
  obtain ⟨cl, A, r, q⟩ := F
  exact go (X.iaload hx (j := j) (v := .int x) (by rw [eT]; exact A.1) (State.isArrayOf_alike hZ.alike A.2.1) A.2.2 (Ary.inb r hj hv) (Ary.at r hv) (g := mkF m pc Ls (.int j :: .ref a :: rest)) rfl rfl hd) k
theorem goBaload (X : Stand p l e R s m args below meth c T locs cells slots) (hx : p.tables.exec = Jvm.exec) (hZ : Z.Warmed39 s.vm) (eT : T.heap = h) {vs : List Value} (F : Ary Z h a .byte vs) {j x : Int32} {pc : Nat} {Ls : Array Slot} {rest : List Value} (hd : decode c.code pc = .ok (.baload, 1)) (hj : ¬ j < 0) (hv : vs[j.toNatClampNeg]? = some (.int x))
    (k : Goes p e below G (T.setTop (mkF m (pc + 1) Ls (.int x :: rest)))) : Goes p e below G (T.setTop (mkF m pc Ls (.int j :: .ref a :: rest))) := by
  obtain ⟨cl, A, r, q⟩ := F
  exact go (X.baloadBytes hx (j := j) (v := .int x) (by rw [eT]; exact A.1) (State.isArrayOf_alike hZ.alike A.2.1) A.2.2 (Ary.inb r hj hv) (Ary.at r hv) (g := mkF m pc Ls (.int j :: .ref a :: rest)) rfl rfl hd) k
theorem goZaload (X : Stand p l e R s m args below meth c T locs cells slots) (hx : p.tables.exec = Jvm.exec) (hZ : Z.Warmed39 s.vm) (eT : T.heap = h) {vs : List Value} (F : Ary Z h a .boolean vs) {j x : Int32} {pc : Nat} {Ls : Array Slot} {rest : List Value} (hd : decode c.code pc = .ok (.baload, 1)) (hj : ¬ j < 0) (hv : vs[j.toNatClampNeg]? = some (.int x))
    (k : Goes p e below G (T.setTop (mkF m (pc + 1) Ls (.int x :: rest)))) : Goes p e below G (T.setTop (mkF m pc Ls (.int j :: .ref a :: rest))) := by
  obtain ⟨cl, A, r, q⟩ := F
  exact go (X.baloadBooleans hx (j := j) (v := .int x) (by rw [eT]; exact A.1) (State.isArrayOf_alike hZ.alike A.2.1) A.2.2 (Ary.inb r hj hv) (Ary.at r hv) (g := mkF m pc Ls (.int j :: .ref a :: rest)) rfl rfl hd) k
theorem goCaload (X : Stand p l e R s m args below meth c T locs cells slots) (hx : p.tables.exec = Jvm.exec) (hZ : Z.Warmed39 s.vm) (eT : T.heap = h) {vs : List Value} (F : Ary Z h a .char vs) {j x : Int32} {pc : Nat} {Ls : Array Slot} {rest : List Value} (hd : decode c.code pc = .ok (.caload, 1)) (hj : ¬ j < 0) (hv : vs[j.toNatClampNeg]? = some (.int x))
    (k : Goes p e below G (T.setTop (mkF m (pc + 1) Ls (.int x :: rest)))) : Goes p e below G (T.setTop (mkF m pc Ls (.int j :: .ref a :: rest))) := by
  obtain ⟨cl, A, r, q⟩ := F
  exact go (X.caload hx (j := j) (v := .int x) (by rw [eT]; exact A.1) (State.isArrayOf_alike hZ.alike A.2.1) A.2.2 (Ary.inb r hj hv) (Ary.at r hv) (g := mkF m pc Ls (.int j :: .ref a :: rest)) rfl rfl hd) k
theorem goLaload (X : Stand p l e R s m args below meth c T locs cells slots) (hx : p.tables.exec = Jvm.exec) (hZ : Z.Warmed39 s.vm) (eT : T.heap = h) {vs : List Value} (F : Ary Z h a .long vs) {j : Int32} {x : Int64} {pc : Nat} {Ls : Array Slot} {rest : List Value} (hd : decode c.code pc = .ok (.laload, 1)) (hj : ¬ j < 0) (hv : vs[j.toNatClampNeg]? = some (.long x))
    (k : Goes p e below G (T.setTop (mkF m (pc + 1) Ls (.long x :: rest)))) : Goes p e below G (T.setTop (mkF m pc Ls (.int j :: .ref a :: rest))) := by
  obtain ⟨cl, A, r, q⟩ := F
  exact go (X.laload hx (j := j) (v := .long x) (by rw [eT]; exact A.1) (State.isArrayOf_alike hZ.alike A.2.1) A.2.2 (Ary.inb r hj hv) (Ary.at r hv) (g := mkF m pc Ls (.int j :: .ref a :: rest)) rfl rfl hd) k
theorem goAlen (X : Stand p l e R s m args below meth c T locs cells slots) (hx : p.tables.exec = Jvm.exec) (hZ : Z.Warmed39 s.vm) (eT : T.heap = h) {vs : List Value} (F : Ary Z h a ty vs) {n : Int32} {pc : Nat} {Ls : Array Slot} {rest : List Value} (hd : decode c.code pc = .ok (.arraylength, 1)) (hn : vs.length.toInt32 = n)
    (k : Goes p e below G (T.setTop (mkF m (pc + 1) Ls (.int n :: rest)))) : Goes p e below G (T.setTop (mkF m pc Ls (.ref a :: rest))) := by
  obtain ⟨cl, A, r, q⟩ := F
  have e1 : cl.slots.size.toInt32 = n := by rw [← hn, ← r, Array.length_toList]
  refine go (X.arraylength hx (cell := cl) (by rw [eT]; exact A.1) (State.isArrayOf_alike hZ.alike A.2.1) (g := mkF m pc Ls (.ref a :: rest)) rfl (rest := rest) rfl hd) ?_
  rw [e1]
  exact k
theorem goIastore (X : Stand p l e R s m args below meth c T locs cells slots) (hx : p.tables.exec = Jvm.exec) (hZ : Z.Warmed39 s.vm) (eT : T.heap = h) {vs : List Value} (F : Ary Z h a .int vs) {j x : Int32} {v : Value} {pc : Nat} {Ls : Array Slot} {rest : List Value} (hd : decode c.code pc = .ok (.iastore, 1)) (hj : ¬ j < 0) (hv : vs[j.toNatClampNeg]? = some v)
    (k : ∀ T' h', Stand p l e R s m args below meth c T' (locs ++ [⟨a, j.toNatClampNeg⟩]) cells slots → T'.heap = h' → Wr h h' a j.toNatClampNeg (.int x) → Goes p e below G (T'.setTop (mkF m (pc + 1) Ls rest))) : Goes p e below G (T.setTop (mkF m pc Ls (.int x :: .int j :: .ref a :: rest))) := by
  obtain ⟨cl, A, r, q⟩ := F
  obtain ⟨T', h', X', e', W', st⟩ := stI X hx hZ eT A (j := j) (x := x) (Ary.inb r hj hv) (g := mkF m pc Ls (.int x :: .int j :: .ref a :: rest)) rfl rfl hd
  exact go st (k T' h' X' e' W')
theorem goLastore (X : Stand p l e R s m args below meth c T locs cells slots) (hx : p.tables.exec = Jvm.exec) (hZ : Z.Warmed39 s.vm) (eT : T.heap = h) {vs : List Value} (F : Ary Z h a .long vs) {j : Int32} {x : Int64} {v : Value} {pc : Nat} {Ls : Array Slot} {rest : List Value} (hd : decode c.code pc = .ok (.lastore, 1)) (hj : ¬ j < 0) (hv : vs[j.toNatClampNeg]? = some v)
    (k : ∀ T' h', Stand p l e R s m args below meth c T' (locs ++ [⟨a, j.toNatClampNeg⟩]) cells slots → T'.heap = h' → Wr h h' a j.toNatClampNeg (.long x) → Goes p e below G (T'.setTop (mkF m (pc + 1) Ls rest))) : Goes p e below G (T.setTop (mkF m pc Ls (.long x :: .int j :: .ref a :: rest))) := by
  obtain ⟨cl, A, r, q⟩ := F
  obtain ⟨T', h', X', e', W', st⟩ := stJ X hx hZ eT A (j := j) (x := x) (Ary.inb r hj hv) (g := mkF m pc Ls (.long x :: .int j :: .ref a :: rest)) rfl rfl hd
  exact go st (k T' h' X' e' W')
theorem goBastore (X : Stand p l e R s m args below meth c T locs cells slots) (hx : p.tables.exec = Jvm.exec) (hZ : Z.Warmed39 s.vm) (eT : T.heap = h) {vs : List Value} (F : Ary Z h a .byte vs) {j x : Int32} {v : Value} {pc : Nat} {Ls : Array Slot} {rest : List Value} (hd : decode c.code pc = .ok (.bastore, 1)) (hj : ¬ j < 0) (hv : vs[j.toNatClampNeg]? = some v)
    (k : ∀ T' h', Stand p l e R s m args below meth c T' (locs ++ [⟨a, j.toNatClampNeg⟩]) cells slots → T'.heap = h' → Wr h h' a j.toNatClampNeg (.int (nar .byte x)) → Goes p e below G (T'.setTop (mkF m (pc + 1) Ls rest))) : Goes p e below G (T.setTop (mkF m pc Ls (.int x :: .int j :: .ref a :: rest))) := by
  obtain ⟨cl, A, r, q⟩ := F
  obtain ⟨T', h', X', e', W', st⟩ := stB X hx hZ eT A (j := j) (x := x) (Ary.inb r hj hv) (g := mkF m pc Ls (.int x :: .int j :: .ref a :: rest)) rfl rfl hd
  exact go st (k T' h' X' e' W')
theorem goZastore (X : Stand p l e R s m args below meth c T locs cells slots) (hx : p.tables.exec = Jvm.exec) (hZ : Z.Warmed39 s.vm) (eT : T.heap = h) {vs : List Value} (F : Ary Z h a .boolean vs) {j x : Int32} {v : Value} {pc : Nat} {Ls : Array Slot} {rest : List Value} (hd : decode c.code pc = .ok (.bastore, 1)) (hj : ¬ j < 0) (hv : vs[j.toNatClampNeg]? = some v)
    (k : ∀ T' h', Stand p l e R s m args below meth c T' (locs ++ [⟨a, j.toNatClampNeg⟩]) cells slots → T'.heap = h' → Wr h h' a j.toNatClampNeg (.int (nar .boolean x)) → Goes p e below G (T'.setTop (mkF m (pc + 1) Ls rest))) : Goes p e below G (T.setTop (mkF m pc Ls (.int x :: .int j :: .ref a :: rest))) := by
  obtain ⟨cl, A, r, q⟩ := F
  obtain ⟨T', h', X', e', W', st⟩ := stZ X hx hZ eT A (j := j) (x := x) (Ary.inb r hj hv) (g := mkF m pc Ls (.int x :: .int j :: .ref a :: rest)) rfl rfl hd
  exact go st (k T' h' X' e' W')
theorem goCastore (X : Stand p l e R s m args below meth c T locs cells slots) (hx : p.tables.exec = Jvm.exec) (hZ : Z.Warmed39 s.vm) (eT : T.heap = h) {vs : List Value} (F : Ary Z h a .char vs) {j x : Int32} {v : Value} {pc : Nat} {Ls : Array Slot} {rest : List Value} (hd : decode c.code pc = .ok (.castore, 1)) (hj : ¬ j < 0) (hv : vs[j.toNatClampNeg]? = some v)
    (k : ∀ T' h', Stand p l e R s m args below meth c T' (locs ++ [⟨a, j.toNatClampNeg⟩]) cells slots → T'.heap = h' → Wr h h' a j.toNatClampNeg (.int (nar .char x)) → Goes p e below G (T'.setTop (mkF m (pc + 1) Ls rest))) : Goes p e below G (T.setTop (mkF m pc Ls (.int x :: .int j :: .ref a :: rest))) := by
  obtain ⟨cl, A, r, q⟩ := F
  obtain ⟨T', h', X', e', W', st⟩ := stC X hx hZ eT A (j := j) (x := x) (Ary.inb r hj hv) (g := mkF m pc Ls (.int x :: .int j :: .ref a :: rest)) rfl rfl hd
  exact go st (k T' h' X' e' W')
theorem narb (x : Int32) : nar .byte x.toInt8.toInt32 = x.toInt8.toInt32 := by simp [nar]
theorem narc (x : Int32) : nar .char x.toUInt32.toUInt16.toUInt32.toInt32 = x.toUInt32.toUInt16.toUInt32.toInt32 := by simp only [nar, UInt32.toUInt32_toInt32, UInt16.toUInt16_toUInt32]
theorem gIload (X : Stand p l e R s m args below meth c T locs cells slots) (hx : p.tables.exec = Jvm.exec) {pc : Nat} {Ls : Array Slot} {st : List Value} {k : Nat} {v : Int32} (hd : decode c.code pc = .ok (.iload k, 2)) (hl : Ls[k]? = some (.val (.int v))) (K : Goes p e below G (T.setTop (mkF m (pc + 2) Ls (.int v :: st)))) : Goes p e below G (T.setTop (mkF m pc Ls (st))) :=
  go (fun _ q => XS.iload (g := mkF m pc Ls (st)) X.here hx rfl hd hl q) K
theorem gIloadN (X : Stand p l e R s m args below meth c T locs cells slots) (hx : p.tables.exec = Jvm.exec) {pc : Nat} {Ls : Array Slot} {st : List Value} {k : Fin 4} {v : Int32} (hd : decode c.code pc = .ok (.iload_n k, 1)) (hl : Ls[k.val]? = some (.val (.int v))) (K : Goes p e below G (T.setTop (mkF m (pc + 1) Ls (.int v :: st)))) : Goes p e below G (T.setTop (mkF m pc Ls (st))) :=
  go (fun _ q => XS.iloadN (g := mkF m pc Ls (st)) X.here hx rfl hd hl q) K
theorem gIstore (X : Stand p l e R s m args below meth c T locs cells slots) (hx : p.tables.exec = Jvm.exec) {pc : Nat} {Ls : Array Slot} {st : List Value} {k : Nat} {v : Int32} {l' : Array Slot} (hd : decode c.code pc = .ok (.istore k, 2)) (hl : storeLocals Ls k (.int v) = some l') (K : Goes p e below G (T.setTop (mkF m (pc + 2) l' (st)))) : Goes p e below G (T.setTop (mkF m pc Ls (.int v :: st))) :=
  go (fun _ q => XS.istore (g := mkF m pc Ls (.int v :: st)) X.here hx rfl hd rfl hl q) K
theorem gIstoreN (X : Stand p l e R s m args below meth c T locs cells slots) (hx : p.tables.exec = Jvm.exec) {pc : Nat} {Ls : Array Slot} {st : List Value} {k : Fin 4} {v : Int32} {l' : Array Slot} (hd : decode c.code pc = .ok (.istore_n k, 1)) (hl : storeLocals Ls k.val (.int v) = some l') (K : Goes p e below G (T.setTop (mkF m (pc + 1) l' (st)))) : Goes p e below G (T.setTop (mkF m pc Ls (.int v :: st))) :=
  go (fun _ q => XS.istoreN (g := mkF m pc Ls (.int v :: st)) X.here hx rfl hd rfl hl q) K
theorem gLload (X : Stand p l e R s m args below meth c T locs cells slots) (hx : p.tables.exec = Jvm.exec) {pc : Nat} {Ls : Array Slot} {st : List Value} {k : Nat} {v : Int64} (hd : decode c.code pc = .ok (.lload k, 2)) (hl : Ls[k]? = some (.val (.long v))) (K : Goes p e below G (T.setTop (mkF m (pc + 2) Ls (.long v :: st)))) : Goes p e below G (T.setTop (mkF m pc Ls (st))) :=
  go (fun _ q => XT.lload (g := mkF m pc Ls (st)) X.here hx rfl hd hl q) K
theorem gLloadN (X : Stand p l e R s m args below meth c T locs cells slots) (hx : p.tables.exec = Jvm.exec) {pc : Nat} {Ls : Array Slot} {st : List Value} {k : Fin 4} {v : Int64} (hd : decode c.code pc = .ok (.lload_n k, 1)) (hl : Ls[k.val]? = some (.val (.long v))) (K : Goes p e below G (T.setTop (mkF m (pc + 1) Ls (.long v :: st)))) : Goes p e below G (T.setTop (mkF m pc Ls (st))) :=
  go (fun _ q => XT.lloadN (g := mkF m pc Ls (st)) X.here hx rfl hd hl q) K
theorem gLstore (X : Stand p l e R s m args below meth c T locs cells slots) (hx : p.tables.exec = Jvm.exec) {pc : Nat} {Ls : Array Slot} {st : List Value} {k : Nat} {v : Int64} {l' : Array Slot} (hd : decode c.code pc = .ok (.lstore k, 2)) (hl : storeLocals Ls k (.long v) = some l') (K : Goes p e below G (T.setTop (mkF m (pc + 2) l' (st)))) : Goes p e below G (T.setTop (mkF m pc Ls (.long v :: st))) :=
  go (fun _ q => XT.lstore (g := mkF m pc Ls (.long v :: st)) X.here hx rfl hd rfl hl q) K
theorem gLstoreN (X : Stand p l e R s m args below meth c T locs cells slots) (hx : p.tables.exec = Jvm.exec) {pc : Nat} {Ls : Array Slot} {st : List Value} {k : Fin 4} {v : Int64} {l' : Array Slot} (hd : decode c.code pc = .ok (.lstore_n k, 1)) (hl : storeLocals Ls k.val (.long v) = some l') (K : Goes p e below G (T.setTop (mkF m (pc + 1) l' (st)))) : Goes p e below G (T.setTop (mkF m pc Ls (.long v :: st))) :=
  go (fun _ q => XT.lstoreN (g := mkF m pc Ls (.long v :: st)) X.here hx rfl hd rfl hl q) K
theorem gDload (X : Stand p l e R s m args below meth c T locs cells slots) (hx : p.tables.exec = Jvm.exec) {pc : Nat} {Ls : Array Slot} {st : List Value} {k : Nat} {v : UInt64} (hd : decode c.code pc = .ok (.dload k, 2)) (hl : Ls[k]? = some (.val (.double v))) (K : Goes p e below G (T.setTop (mkF m (pc + 2) Ls (.double v :: st)))) : Goes p e below G (T.setTop (mkF m pc Ls (st))) :=
  go (fun _ q => XS.dload (g := mkF m pc Ls (st)) X.here hx rfl hd hl q) K
theorem gDloadN (X : Stand p l e R s m args below meth c T locs cells slots) (hx : p.tables.exec = Jvm.exec) {pc : Nat} {Ls : Array Slot} {st : List Value} {k : Fin 4} {v : UInt64} (hd : decode c.code pc = .ok (.dload_n k, 1)) (hl : Ls[k.val]? = some (.val (.double v))) (K : Goes p e below G (T.setTop (mkF m (pc + 1) Ls (.double v :: st)))) : Goes p e below G (T.setTop (mkF m pc Ls (st))) :=
  go (fun _ q => XS.dloadN (g := mkF m pc Ls (st)) X.here hx rfl hd hl q) K
theorem gDstore (X : Stand p l e R s m args below meth c T locs cells slots) (hx : p.tables.exec = Jvm.exec) {pc : Nat} {Ls : Array Slot} {st : List Value} {k : Nat} {v : UInt64} {l' : Array Slot} (hd : decode c.code pc = .ok (.dstore k, 2)) (hl : storeLocals Ls k (.double v) = some l') (K : Goes p e below G (T.setTop (mkF m (pc + 2) l' (st)))) : Goes p e below G (T.setTop (mkF m pc Ls (.double v :: st))) :=
  go (fun _ q => XS.dstore (g := mkF m pc Ls (.double v :: st)) X.here hx rfl hd rfl hl q) K
theorem gDstoreN (X : Stand p l e R s m args below meth c T locs cells slots) (hx : p.tables.exec = Jvm.exec) {pc : Nat} {Ls : Array Slot} {st : List Value} {k : Fin 4} {v : UInt64} {l' : Array Slot} (hd : decode c.code pc = .ok (.dstore_n k, 1)) (hl : storeLocals Ls k.val (.double v) = some l') (K : Goes p e below G (T.setTop (mkF m (pc + 1) l' (st)))) : Goes p e below G (T.setTop (mkF m pc Ls (.double v :: st))) :=
  go (fun _ q => XS.dstoreN (g := mkF m pc Ls (.double v :: st)) X.here hx rfl hd rfl hl q) K
theorem gAload (X : Stand p l e R s m args below meth c T locs cells slots) (hx : p.tables.exec = Jvm.exec) {pc : Nat} {Ls : Array Slot} {st : List Value} {k : Nat} {v : Value} (hd : decode c.code pc = .ok (.aload k, 2)) (hl : Ls[k]? = some (.val v)) (hv : v.isRef = true) (K : Goes p e below G (T.setTop (mkF m (pc + 2) Ls (v :: st)))) : Goes p e below G (T.setTop (mkF m pc Ls (st))) :=
  go (fun _ q => XS.aload (g := mkF m pc Ls (st)) X.here hx rfl hd hl hv q) K
theorem gAloadN (X : Stand p l e R s m args below meth c T locs cells slots) (hx : p.tables.exec = Jvm.exec) {pc : Nat} {Ls : Array Slot} {st : List Value} {k : Fin 4} {v : Value} (hd : decode c.code pc = .ok (.aload_n k, 1)) (hl : Ls[k.val]? = some (.val v)) (hv : v.isRef = true) (K : Goes p e below G (T.setTop (mkF m (pc + 1) Ls (v :: st)))) : Goes p e below G (T.setTop (mkF m pc Ls (st))) :=
  go (fun _ q => XS.aloadN (g := mkF m pc Ls (st)) X.here hx rfl hd hl hv q) K
theorem gAstore (X : Stand p l e R s m args below meth c T locs cells slots) (hx : p.tables.exec = Jvm.exec) {pc : Nat} {Ls : Array Slot} {st : List Value} {k : Nat} {v : Value} {l' : Array Slot} (hd : decode c.code pc = .ok (.astore k, 2)) (hv : v.isRef = true) (hl : storeLocals Ls k v = some l') (K : Goes p e below G (T.setTop (mkF m (pc + 2) l' (st)))) : Goes p e below G (T.setTop (mkF m pc Ls (v :: st))) :=
  go (fun _ q => XS.astore (g := mkF m pc Ls (v :: st)) X.here hx rfl hd rfl hv hl q) K
theorem gAstoreN (X : Stand p l e R s m args below meth c T locs cells slots) (hx : p.tables.exec = Jvm.exec) {pc : Nat} {Ls : Array Slot} {st : List Value} {k : Fin 4} {v : Value} {l' : Array Slot} (hd : decode c.code pc = .ok (.astore_n k, 1)) (hv : v.isRef = true) (hl : storeLocals Ls k.val v = some l') (K : Goes p e below G (T.setTop (mkF m (pc + 1) l' (st)))) : Goes p e below G (T.setTop (mkF m pc Ls (v :: st))) :=
  go (fun _ q => XS.astoreN (g := mkF m pc Ls (v :: st)) X.here hx rfl hd rfl hv hl q) K
theorem gIstoreS (X : Stand p l e R s m args below meth c T locs cells slots) (hx : p.tables.exec = Jvm.exec) {pc : Nat} {Ls : Array Slot} {st : List Value} {k : Nat} {v : Int32} {o : Slot} (hd : decode c.code pc = .ok (.istore k, 2)) (hold : Ls[k]? = some o) (ho : o = .unset ∨ ∃ w, o = .val w ∧ w.category = 1) (K : Goes p e below G (T.setTop (mkF m (pc + 2) (Ls.setIfInBounds k (.val (.int v))) (st)))) : Goes p e below G (T.setTop (mkF m pc Ls (.int v :: st))) :=
  go (fun _ q => XS.istoreS (g := mkF m pc Ls (.int v :: st)) X.here hx rfl hd rfl hold ho q) K
theorem gIconst (X : Stand p l e R s m args below meth c T locs cells slots) (hx : p.tables.exec = Jvm.exec) {pc : Nat} {Ls : Array Slot} {st : List Value} {i : Int} {v : Int32} (hd : decode c.code pc = .ok (.iconst i, 1)) (hv : Int32.ofInt i = v) (K : Goes p e below G (T.setTop (mkF m (pc + 1) Ls (.int v :: st)))) : Goes p e below G (T.setTop (mkF m pc Ls st)) := by
  subst hv
  exact go (fun _ q => XS.iconst (g := mkF m pc Ls st) X.here hx rfl hd q) K
theorem gBipush (X : Stand p l e R s m args below meth c T locs cells slots) (hx : p.tables.exec = Jvm.exec) {pc : Nat} {Ls : Array Slot} {st : List Value} {i : Int} {v : Int32} (hd : decode c.code pc = .ok (.bipush i, 2)) (hv : (Int8.ofInt i).toInt32 = v) (K : Goes p e below G (T.setTop (mkF m (pc + 2) Ls (.int v :: st)))) : Goes p e below G (T.setTop (mkF m pc Ls st)) := by
  subst hv
  exact go (fun _ q => XS.bipush (g := mkF m pc Ls st) X.here hx rfl hd q) K
theorem gSipush (X : Stand p l e R s m args below meth c T locs cells slots) (hx : p.tables.exec = Jvm.exec) {pc : Nat} {Ls : Array Slot} {st : List Value} {i : Int} {v : Int32} (hd : decode c.code pc = .ok (.sipush i, 3)) (hv : (Int16.ofInt i).toInt32 = v) (K : Goes p e below G (T.setTop (mkF m (pc + 3) Ls (.int v :: st)))) : Goes p e below G (T.setTop (mkF m pc Ls st)) := by
  subst hv
  exact go (fun _ q => XS.sipush (g := mkF m pc Ls st) X.here hx rfl hd q) K
theorem gLconst (X : Stand p l e R s m args below meth c T locs cells slots) (hx : p.tables.exec = Jvm.exec) {pc : Nat} {Ls : Array Slot} {st : List Value} {i : Fin 2} {v : Int64} (hd : decode c.code pc = .ok (.lconst i, 1)) (hv : Int64.ofNat i = v) (K : Goes p e below G (T.setTop (mkF m (pc + 1) Ls (.long v :: st)))) : Goes p e below G (T.setTop (mkF m pc Ls st)) := by
  subst hv
  exact go (fun _ q => XT.lconst (g := mkF m pc Ls st) X.here hx rfl hd q) K
theorem gAnull (X : Stand p l e R s m args below meth c T locs cells slots) (hx : p.tables.exec = Jvm.exec) {pc : Nat} {Ls : Array Slot} {st : List Value}  (hd : decode c.code pc = .ok (.aconst_null, 1))  (K : Goes p e below G (T.setTop (mkF m (pc + 1) Ls (.null :: st)))) : Goes p e below G (T.setTop (mkF m pc Ls (st))) :=
  go (fun _ q => XS.aconstNull (g := mkF m pc Ls (st)) X.here hx rfl hd  q) K
theorem gDconst0 (X : Stand p l e R s m args below meth c T locs cells slots) (hx : p.tables.exec = Jvm.exec) {pc : Nat} {Ls : Array Slot} {st : List Value}  (hd : decode c.code pc = .ok (.dconst 0, 1))  (K : Goes p e below G (T.setTop (mkF m (pc + 1) Ls (.double FP.dconst0 :: st)))) : Goes p e below G (T.setTop (mkF m pc Ls (st))) :=
  go (fun _ q => XS.dconst0 (g := mkF m pc Ls (st)) X.here hx rfl hd rfl q) K
theorem gDconst1 (X : Stand p l e R s m args below meth c T locs cells slots) (hx : p.tables.exec = Jvm.exec) {pc : Nat} {Ls : Array Slot} {st : List Value}  (hd : decode c.code pc = .ok (.dconst 1, 1))  (K : Goes p e below G (T.setTop (mkF m (pc + 1) Ls (.double FP.dconst1 :: st)))) : Goes p e below G (T.setTop (mkF m pc Ls (st))) :=
  go (fun _ q => XS.dconst1 (g := mkF m pc Ls (st)) X.here hx rfl hd rfl q) K
theorem gIadd (X : Stand p l e R s m args below meth c T locs cells slots) (hx : p.tables.exec = Jvm.exec) {pc : Nat} {Ls : Array Slot} {st : List Value} {x y : Int32} (hd : decode c.code pc = .ok (.iadd, 1))  (K : Goes p e below G (T.setTop (mkF m (pc + 1) Ls (.int (x + y) :: st)))) : Goes p e below G (T.setTop (mkF m pc Ls (.int y :: .int x :: st))) :=
  go (fun _ q => XS.iadd (g := mkF m pc Ls (.int y :: .int x :: st)) X.here hx rfl hd rfl q) K
theorem gIsub (X : Stand p l e R s m args below meth c T locs cells slots) (hx : p.tables.exec = Jvm.exec) {pc : Nat} {Ls : Array Slot} {st : List Value} {x y : Int32} (hd : decode c.code pc = .ok (.isub, 1))  (K : Goes p e below G (T.setTop (mkF m (pc + 1) Ls (.int (x - y) :: st)))) : Goes p e below G (T.setTop (mkF m pc Ls (.int y :: .int x :: st))) :=
  go (fun _ q => XS.isub (g := mkF m pc Ls (.int y :: .int x :: st)) X.here hx rfl hd rfl q) K
theorem gImul (X : Stand p l e R s m args below meth c T locs cells slots) (hx : p.tables.exec = Jvm.exec) {pc : Nat} {Ls : Array Slot} {st : List Value} {x y : Int32} (hd : decode c.code pc = .ok (.imul, 1))  (K : Goes p e below G (T.setTop (mkF m (pc + 1) Ls (.int (x * y) :: st)))) : Goes p e below G (T.setTop (mkF m pc Ls (.int y :: .int x :: st))) :=
  go (fun _ q => XS.imul (g := mkF m pc Ls (.int y :: .int x :: st)) X.here hx rfl hd rfl q) K
theorem gIand (X : Stand p l e R s m args below meth c T locs cells slots) (hx : p.tables.exec = Jvm.exec) {pc : Nat} {Ls : Array Slot} {st : List Value} {x y : Int32} (hd : decode c.code pc = .ok (.iand, 1))  (K : Goes p e below G (T.setTop (mkF m (pc + 1) Ls (.int (x &&& y) :: st)))) : Goes p e below G (T.setTop (mkF m pc Ls (.int y :: .int x :: st))) :=
  go (fun _ q => XS.iand (g := mkF m pc Ls (.int y :: .int x :: st)) X.here hx rfl hd rfl q) K
theorem gIor (X : Stand p l e R s m args below meth c T locs cells slots) (hx : p.tables.exec = Jvm.exec) {pc : Nat} {Ls : Array Slot} {st : List Value} {x y : Int32} (hd : decode c.code pc = .ok (.ior, 1))  (K : Goes p e below G (T.setTop (mkF m (pc + 1) Ls (.int (x ||| y) :: st)))) : Goes p e below G (T.setTop (mkF m pc Ls (.int y :: .int x :: st))) :=
  go (fun _ q => XT.ior (g := mkF m pc Ls (.int y :: .int x :: st)) X.here hx rfl hd rfl q) K
theorem gIxor (X : Stand p l e R s m args below meth c T locs cells slots) (hx : p.tables.exec = Jvm.exec) {pc : Nat} {Ls : Array Slot} {st : List Value} {x y : Int32} (hd : decode c.code pc = .ok (.ixor, 1))  (K : Goes p e below G (T.setTop (mkF m (pc + 1) Ls (.int (x ^^^ y) :: st)))) : Goes p e below G (T.setTop (mkF m pc Ls (.int y :: .int x :: st))) :=
  go (fun _ q => XT.ixor (g := mkF m pc Ls (.int y :: .int x :: st)) X.here hx rfl hd rfl q) K
theorem gIshl (X : Stand p l e R s m args below meth c T locs cells slots) (hx : p.tables.exec = Jvm.exec) {pc : Nat} {Ls : Array Slot} {st : List Value} {x y : Int32} (hd : decode c.code pc = .ok (.ishl, 1))  (K : Goes p e below G (T.setTop (mkF m (pc + 1) Ls (.int (x <<< (y &&& 31)) :: st)))) : Goes p e below G (T.setTop (mkF m pc Ls (.int y :: .int x :: st))) :=
  go (fun _ q => XT.ishl (g := mkF m pc Ls (.int y :: .int x :: st)) X.here hx rfl hd rfl q) K
theorem gIshr (X : Stand p l e R s m args below meth c T locs cells slots) (hx : p.tables.exec = Jvm.exec) {pc : Nat} {Ls : Array Slot} {st : List Value} {x y : Int32} (hd : decode c.code pc = .ok (.ishr, 1))  (K : Goes p e below G (T.setTop (mkF m (pc + 1) Ls (.int (x >>> (y &&& 31)) :: st)))) : Goes p e below G (T.setTop (mkF m pc Ls (.int y :: .int x :: st))) :=
  go (fun _ q => XT.ishr (g := mkF m pc Ls (.int y :: .int x :: st)) X.here hx rfl hd rfl q) K
theorem gIushr (X : Stand p l e R s m args below meth c T locs cells slots) (hx : p.tables.exec = Jvm.exec) {pc : Nat} {Ls : Array Slot} {st : List Value} {x y : Int32} (hd : decode c.code pc = .ok (.iushr, 1))  (K : Goes p e below G (T.setTop (mkF m (pc + 1) Ls (.int (XT.ushr x y) :: st)))) : Goes p e below G (T.setTop (mkF m pc Ls (.int y :: .int x :: st))) :=
  go (fun _ q => XT.iushr (g := mkF m pc Ls (.int y :: .int x :: st)) X.here hx rfl hd rfl q) K
theorem gLadd (X : Stand p l e R s m args below meth c T locs cells slots) (hx : p.tables.exec = Jvm.exec) {pc : Nat} {Ls : Array Slot} {st : List Value} {x y : Int64} (hd : decode c.code pc = .ok (.ladd, 1))  (K : Goes p e below G (T.setTop (mkF m (pc + 1) Ls (.long (x + y) :: st)))) : Goes p e below G (T.setTop (mkF m pc Ls (.long y :: .long x :: st))) :=
  go (fun _ q => XT.ladd (g := mkF m pc Ls (.long y :: .long x :: st)) X.here hx rfl hd rfl q) K
theorem gLsub (X : Stand p l e R s m args below meth c T locs cells slots) (hx : p.tables.exec = Jvm.exec) {pc : Nat} {Ls : Array Slot} {st : List Value} {x y : Int64} (hd : decode c.code pc = .ok (.lsub, 1))  (K : Goes p e below G (T.setTop (mkF m (pc + 1) Ls (.long (x - y) :: st)))) : Goes p e below G (T.setTop (mkF m pc Ls (.long y :: .long x :: st))) :=
  go (fun _ q => XT.lsub (g := mkF m pc Ls (.long y :: .long x :: st)) X.here hx rfl hd rfl q) K
theorem gLmul (X : Stand p l e R s m args below meth c T locs cells slots) (hx : p.tables.exec = Jvm.exec) {pc : Nat} {Ls : Array Slot} {st : List Value} {x y : Int64} (hd : decode c.code pc = .ok (.lmul, 1))  (K : Goes p e below G (T.setTop (mkF m (pc + 1) Ls (.long (x * y) :: st)))) : Goes p e below G (T.setTop (mkF m pc Ls (.long y :: .long x :: st))) :=
  go (fun _ q => XT.lmul (g := mkF m pc Ls (.long y :: .long x :: st)) X.here hx rfl hd rfl q) K
theorem gLand (X : Stand p l e R s m args below meth c T locs cells slots) (hx : p.tables.exec = Jvm.exec) {pc : Nat} {Ls : Array Slot} {st : List Value} {x y : Int64} (hd : decode c.code pc = .ok (.land, 1))  (K : Goes p e below G (T.setTop (mkF m (pc + 1) Ls (.long (x &&& y) :: st)))) : Goes p e below G (T.setTop (mkF m pc Ls (.long y :: .long x :: st))) :=
  go (fun _ q => XT.land (g := mkF m pc Ls (.long y :: .long x :: st)) X.here hx rfl hd rfl q) K
theorem gLor (X : Stand p l e R s m args below meth c T locs cells slots) (hx : p.tables.exec = Jvm.exec) {pc : Nat} {Ls : Array Slot} {st : List Value} {x y : Int64} (hd : decode c.code pc = .ok (.lor, 1))  (K : Goes p e below G (T.setTop (mkF m (pc + 1) Ls (.long (x ||| y) :: st)))) : Goes p e below G (T.setTop (mkF m pc Ls (.long y :: .long x :: st))) :=
  go (fun _ q => XT.lor (g := mkF m pc Ls (.long y :: .long x :: st)) X.here hx rfl hd rfl q) K
theorem gLxor (X : Stand p l e R s m args below meth c T locs cells slots) (hx : p.tables.exec = Jvm.exec) {pc : Nat} {Ls : Array Slot} {st : List Value} {x y : Int64} (hd : decode c.code pc = .ok (.lxor, 1))  (K : Goes p e below G (T.setTop (mkF m (pc + 1) Ls (.long (x ^^^ y) :: st)))) : Goes p e below G (T.setTop (mkF m pc Ls (.long y :: .long x :: st))) :=
  go (fun _ q => XT.lxor (g := mkF m pc Ls (.long y :: .long x :: st)) X.here hx rfl hd rfl q) K
theorem gLshl (X : Stand p l e R s m args below meth c T locs cells slots) (hx : p.tables.exec = Jvm.exec) {pc : Nat} {Ls : Array Slot} {st : List Value} {x : Int64} {y : Int32} (hd : decode c.code pc = .ok (.lshl, 1))  (K : Goes p e below G (T.setTop (mkF m (pc + 1) Ls (.long (x <<< (y.toInt64 &&& 63)) :: st)))) : Goes p e below G (T.setTop (mkF m pc Ls (.int y :: .long x :: st))) :=
  go (fun _ q => XT.lshl (g := mkF m pc Ls (.int y :: .long x :: st)) X.here hx rfl hd rfl q) K
theorem gLshr (X : Stand p l e R s m args below meth c T locs cells slots) (hx : p.tables.exec = Jvm.exec) {pc : Nat} {Ls : Array Slot} {st : List Value} {x : Int64} {y : Int32} (hd : decode c.code pc = .ok (.lshr, 1))  (K : Goes p e below G (T.setTop (mkF m (pc + 1) Ls (.long (x >>> (y.toInt64 &&& 63)) :: st)))) : Goes p e below G (T.setTop (mkF m pc Ls (.int y :: .long x :: st))) :=
  go (fun _ q => XT.lshr (g := mkF m pc Ls (.int y :: .long x :: st)) X.here hx rfl hd rfl q) K
theorem gLushr (X : Stand p l e R s m args below meth c T locs cells slots) (hx : p.tables.exec = Jvm.exec) {pc : Nat} {Ls : Array Slot} {st : List Value} {x : Int64} {y : Int32} (hd : decode c.code pc = .ok (.lushr, 1))  (K : Goes p e below G (T.setTop (mkF m (pc + 1) Ls (.long (XT.ushrL x y) :: st)))) : Goes p e below G (T.setTop (mkF m pc Ls (.int y :: .long x :: st))) :=
  go (fun _ q => XT.lushr (g := mkF m pc Ls (.int y :: .long x :: st)) X.here hx rfl hd rfl q) K
theorem gIneg (X : Stand p l e R s m args below meth c T locs cells slots) (hx : p.tables.exec = Jvm.exec) {pc : Nat} {Ls : Array Slot} {st : List Value} {x : Int32} (hd : decode c.code pc = .ok (.ineg, 1))  (K : Goes p e below G (T.setTop (mkF m (pc + 1) Ls (.int (-x) :: st)))) : Goes p e below G (T.setTop (mkF m pc Ls (.int x :: st))) :=
  go (fun _ q => XS.ineg (g := mkF m pc Ls (.int x :: st)) X.here hx rfl hd rfl q) K
theorem gI2l (X : Stand p l e R s m args below meth c T locs cells slots) (hx : p.tables.exec = Jvm.exec) {pc : Nat} {Ls : Array Slot} {st : List Value} {x : Int32} (hd : decode c.code pc = .ok (.i2l, 1))  (K : Goes p e below G (T.setTop (mkF m (pc + 1) Ls (.long (x.toInt64) :: st)))) : Goes p e below G (T.setTop (mkF m pc Ls (.int x :: st))) :=
  go (fun _ q => XT.i2l (g := mkF m pc Ls (.int x :: st)) X.here hx rfl hd rfl q) K
theorem gL2i (X : Stand p l e R s m args below meth c T locs cells slots) (hx : p.tables.exec = Jvm.exec) {pc : Nat} {Ls : Array Slot} {st : List Value} {x : Int64} (hd : decode c.code pc = .ok (.l2i, 1))  (K : Goes p e below G (T.setTop (mkF m (pc + 1) Ls (.int (x.toInt32) :: st)))) : Goes p e below G (T.setTop (mkF m pc Ls (.long x :: st))) :=
  go (fun _ q => XT.l2i (g := mkF m pc Ls (.long x :: st)) X.here hx rfl hd rfl q) K
theorem gI2b (X : Stand p l e R s m args below meth c T locs cells slots) (hx : p.tables.exec = Jvm.exec) {pc : Nat} {Ls : Array Slot} {st : List Value} {x : Int32} (hd : decode c.code pc = .ok (.i2b, 1))  (K : Goes p e below G (T.setTop (mkF m (pc + 1) Ls (.int (x.toInt8.toInt32) :: st)))) : Goes p e below G (T.setTop (mkF m pc Ls (.int x :: st))) :=
  go (fun _ q => XT.i2b (g := mkF m pc Ls (.int x :: st)) X.here hx rfl hd rfl q) K
theorem gI2c (X : Stand p l e R s m args below meth c T locs cells slots) (hx : p.tables.exec = Jvm.exec) {pc : Nat} {Ls : Array Slot} {st : List Value} {x : Int32} (hd : decode c.code pc = .ok (.i2c, 1))  (K : Goes p e below G (T.setTop (mkF m (pc + 1) Ls (.int (x.toUInt32.toUInt16.toUInt32.toInt32) :: st)))) : Goes p e below G (T.setTop (mkF m pc Ls (.int x :: st))) :=
  go (fun _ q => XT.i2c (g := mkF m pc Ls (.int x :: st)) X.here hx rfl hd rfl q) K
theorem gI2d (X : Stand p l e R s m args below meth c T locs cells slots) (hx : p.tables.exec = Jvm.exec) {pc : Nat} {Ls : Array Slot} {st : List Value} {x : Int32} (hd : decode c.code pc = .ok (.i2d, 1))  (K : Goes p e below G (T.setTop (mkF m (pc + 1) Ls (.double (FP.i2d x) :: st)))) : Goes p e below G (T.setTop (mkF m pc Ls (.int x :: st))) :=
  go (fun _ q => XS.i2dS (g := mkF m pc Ls (.int x :: st)) X.here hx rfl hd rfl rfl q) K
theorem gL2d (X : Stand p l e R s m args below meth c T locs cells slots) (hx : p.tables.exec = Jvm.exec) {pc : Nat} {Ls : Array Slot} {st : List Value} {x : Int64} (hd : decode c.code pc = .ok (.l2d, 1))  (K : Goes p e below G (T.setTop (mkF m (pc + 1) Ls (.double (FP.l2d x) :: st)))) : Goes p e below G (T.setTop (mkF m pc Ls (.long x :: st))) :=
  go (fun _ q => XS.l2dS (g := mkF m pc Ls (.long x :: st)) X.here hx rfl hd rfl rfl q) K
theorem gDadd (X : Stand p l e R s m args below meth c T locs cells slots) (hx : p.tables.exec = Jvm.exec) {pc : Nat} {Ls : Array Slot} {st : List Value} {x y : UInt64} (hd : decode c.code pc = .ok (.dadd, 1)) (hn : Jvm.Free.Fl.NoNaN64 (FP.dadd x y)) (K : Goes p e below G (T.setTop (mkF m (pc + 1) Ls (.double (FP.dadd x y) :: st)))) : Goes p e below G (T.setTop (mkF m pc Ls (.double y :: .double x :: st))) :=
  go (fun _ q => XS.daddS (g := mkF m pc Ls (.double y :: .double x :: st)) X.here hx rfl hd rfl hn rfl q) K
theorem gDsub (X : Stand p l e R s m args below meth c T locs cells slots) (hx : p.tables.exec = Jvm.exec) {pc : Nat} {Ls : Array Slot} {st : List Value} {x y : UInt64} (hd : decode c.code pc = .ok (.dsub, 1)) (hn : Jvm.Free.Fl.NoNaN64 (FP.dsub x y)) (K : Goes p e below G (T.setTop (mkF m (pc + 1) Ls (.double (FP.dsub x y) :: st)))) : Goes p e below G (T.setTop (mkF m pc Ls (.double y :: .double x :: st))) :=
  go (fun _ q => XS.dsubS (g := mkF m pc Ls (.double y :: .double x :: st)) X.here hx rfl hd rfl hn rfl q) K
theorem gDmul (X : Stand p l e R s m args below meth c T locs cells slots) (hx : p.tables.exec = Jvm.exec) {pc : Nat} {Ls : Array Slot} {st : List Value} {x y : UInt64} (hd : decode c.code pc = .ok (.dmul, 1)) (hn : Jvm.Free.Fl.NoNaN64 (FP.dmul x y)) (K : Goes p e below G (T.setTop (mkF m (pc + 1) Ls (.double (FP.dmul x y) :: st)))) : Goes p e below G (T.setTop (mkF m pc Ls (.double y :: .double x :: st))) :=
  go (fun _ q => XS.dmulS (g := mkF m pc Ls (.double y :: .double x :: st)) X.here hx rfl hd rfl hn rfl q) K
theorem gDdiv (X : Stand p l e R s m args below meth c T locs cells slots) (hx : p.tables.exec = Jvm.exec) {pc : Nat} {Ls : Array Slot} {st : List Value} {x y : UInt64} (hd : decode c.code pc = .ok (.ddiv, 1)) (hn : Jvm.Free.Fl.NoNaN64 (FP.ddiv x y)) (K : Goes p e below G (T.setTop (mkF m (pc + 1) Ls (.double (FP.ddiv x y) :: st)))) : Goes p e below G (T.setTop (mkF m pc Ls (.double y :: .double x :: st))) :=
  go (fun _ q => XS.ddivS (g := mkF m pc Ls (.double y :: .double x :: st)) X.here hx rfl hd rfl hn rfl q) K
theorem gDcmp (X : Stand p l e R s m args below meth c T locs cells slots) (hx : p.tables.exec = Jvm.exec) {pc : Nat} {Ls : Array Slot} {st : List Value} {o : CmpOp} {x y : UInt64} (hd : decode c.code pc = .ok (.dcmp o, 1))  (K : Goes p e below G (T.setTop (mkF m (pc + 1) Ls (.int (cmpValue (FP.dcmp x y) o) :: st)))) : Goes p e below G (T.setTop (mkF m pc Ls (.double y :: .double x :: st))) :=
  go (fun _ q => XS.dcmpS (g := mkF m pc Ls (.double y :: .double x :: st)) X.here hx rfl hd rfl rfl q) K
theorem gLcmp (X : Stand p l e R s m args below meth c T locs cells slots) (hx : p.tables.exec = Jvm.exec) {pc : Nat} {Ls : Array Slot} {st : List Value} {x y : Int64} (hd : decode c.code pc = .ok (.lcmp, 1))  (K : Goes p e below G (T.setTop (mkF m (pc + 1) Ls (.int (XT.cmpL x y) :: st)))) : Goes p e below G (T.setTop (mkF m pc Ls (.long y :: .long x :: st))) :=
  go (fun _ q => XT.lcmp (g := mkF m pc Ls (.long y :: .long x :: st)) X.here hx rfl hd rfl q) K
theorem gDup (X : Stand p l e R s m args below meth c T locs cells slots) (hx : p.tables.exec = Jvm.exec) {pc : Nat} {Ls : Array Slot} {st : List Value} {x : Value} (hd : decode c.code pc = .ok (.dup, 1)) (hc : x.category = 1) (K : Goes p e below G (T.setTop (mkF m (pc + 1) Ls (x :: x :: st)))) : Goes p e below G (T.setTop (mkF m pc Ls (x :: st))) :=
  go (fun _ q => XS.dup (g := mkF m pc Ls (x :: st)) X.here hx rfl hd rfl hc q) K
theorem gPop (X : Stand p l e R s m args below meth c T locs cells slots) (hx : p.tables.exec = Jvm.exec) {pc : Nat} {Ls : Array Slot} {st : List Value} {x : Value} (hd : decode c.code pc = .ok (.pop, 1)) (hc : x.category = 1) (K : Goes p e below G (T.setTop (mkF m (pc + 1) Ls (st)))) : Goes p e below G (T.setTop (mkF m pc Ls (x :: st))) :=
  go (fun _ q => XT.pop (g := mkF m pc Ls (x :: st)) X.here hx rfl hd rfl hc q) K
theorem gDupX1 (X : Stand p l e R s m args below meth c T locs cells slots) (hx : p.tables.exec = Jvm.exec) {pc : Nat} {Ls : Array Slot} {st : List Value} {x y : Value} (hd : decode c.code pc = .ok (.dup_x1, 1)) (hc : x.category = 1) (hc' : y.category = 1) (K : Goes p e below G (T.setTop (mkF m (pc + 1) Ls (x :: y :: x :: st)))) : Goes p e below G (T.setTop (mkF m pc Ls (x :: y :: st))) :=
  go (fun _ q => XT.dupX1 (g := mkF m pc Ls (x :: y :: st)) X.here hx rfl hd rfl hc hc' q) K
theorem gDup2 (X : Stand p l e R s m args below meth c T locs cells slots) (hx : p.tables.exec = Jvm.exec) {pc : Nat} {Ls : Array Slot} {st : List Value} {x y : Value} (hd : decode c.code pc = .ok (.dup2, 1)) (hc : x.category = 1) (hc' : y.category = 1) (K : Goes p e below G (T.setTop (mkF m (pc + 1) Ls (x :: y :: x :: y :: st)))) : Goes p e below G (T.setTop (mkF m pc Ls (x :: y :: st))) :=
  go (fun _ q => XT.dup2 (g := mkF m pc Ls (x :: y :: st)) X.here hx rfl hd rfl hc hc' q) K
theorem gIinc (X : Stand p l e R s m args below meth c T locs cells slots) (hx : p.tables.exec = Jvm.exec) {pc : Nat} {Ls : Array Slot} {st : List Value} {k : Nat} {i : Int} {x v : Int32} {l' : Array Slot} (hd : decode c.code pc = .ok (.iinc k i, 3)) (hv : x + Int32.ofInt i = v) (hl : Ls[k]? = some (.val (.int x))) (hl' : storeLocals Ls k (.int v) = some l') (K : Goes p e below G (T.setTop (mkF m (pc + 3) l' st))) : Goes p e below G (T.setTop (mkF m pc Ls st)) := by
  subst hv
  exact go (fun _ q => XS.iinc (g := mkF m pc Ls st) X.here hx rfl hd hl hl' q) K
theorem gIrem (X : Stand p l e R s m args below meth c T locs cells slots) (hx : p.tables.exec = Jvm.exec) {pc : Nat} {Ls : Array Slot} {st : List Value} {x y : Int32} (hd : decode c.code pc = .ok (.irem, 1)) (hy : y ≠ 0) (K : Goes p e below G (T.setTop (mkF m (pc + 1) Ls (.int (x % y) :: st)))) : Goes p e below G (T.setTop (mkF m pc Ls (.int y :: .int x :: st))) :=
  go (fun _ q => iremM X hx (g := mkF m pc Ls (.int y :: .int x :: st)) rfl hd rfl hy q) K
theorem gIdiv (X : Stand p l e R s m args below meth c T locs cells slots) (hx : p.tables.exec = Jvm.exec) {pc : Nat} {Ls : Array Slot} {st : List Value} {x y : Int32} (hd : decode c.code pc = .ok (.idiv, 1)) (hy : y ≠ 0) (K : Goes p e below G (T.setTop (mkF m (pc + 1) Ls (.int (x / y) :: st)))) : Goes p e below G (T.setTop (mkF m pc Ls (.int y :: .int x :: st))) :=
  go (fun _ q => XS.idiv (g := mkF m pc Ls (.int y :: .int x :: st)) X.here hx rfl hd rfl hy q) K
theorem gGoto (X : Stand p l e R s m args below meth c T locs cells slots) (hx : p.tables.exec = Jvm.exec) {pc : Nat} {Ls : Array Slot} {st : List Value} {o : Int} {pc' : Nat} (hd : decode c.code pc = .ok (.goto o, 3)) (ho : 0 ≤ (pc : Int) + o) (hp : ((pc : Int) + o).toNat = pc') (K : Goes p e below G (T.setTop (mkF m pc' Ls (st)))) : Goes p e below G (T.setTop (mkF m pc Ls (st))) :=
  go (fun _ q => XS.goto (g := mkF m pc Ls (st)) X.here hx rfl rfl hd ho hp q) K
theorem gIfY (X : Stand p l e R s m args below meth c T locs cells slots) (hx : p.tables.exec = Jvm.exec) {pc : Nat} {Ls : Array Slot} {st : List Value} {cd : ClassFile.Cond} {x : Int32} {o : Int} {pc' : Nat} (hd : decode c.code pc = .ok (.ifCond cd o, 3)) (hc : ifCond.holds cd x = true) (ho : 0 ≤ (pc : Int) + o) (hp : ((pc : Int) + o).toNat = pc') (K : Goes p e below G (T.setTop (mkF m pc' Ls (st)))) : Goes p e below G (T.setTop (mkF m pc Ls (.int x :: st))) :=
  go (fun _ q => XS.ifYes (g := mkF m pc Ls (.int x :: st)) X.here hx rfl rfl hd rfl hc ho hp q) K
theorem gIfN (X : Stand p l e R s m args below meth c T locs cells slots) (hx : p.tables.exec = Jvm.exec) {pc : Nat} {Ls : Array Slot} {st : List Value} {cd : ClassFile.Cond} {x : Int32} {o : Int} (hd : decode c.code pc = .ok (.ifCond cd o, 3)) (hc : ifCond.holds cd x = false) (K : Goes p e below G (T.setTop (mkF m (pc + 3) Ls (st)))) : Goes p e below G (T.setTop (mkF m pc Ls (.int x :: st))) :=
  go (fun _ q => XS.ifNo (g := mkF m pc Ls (.int x :: st)) X.here hx rfl hd rfl hc q) K
theorem gIcmpY (X : Stand p l e R s m args below meth c T locs cells slots) (hx : p.tables.exec = Jvm.exec) {pc : Nat} {Ls : Array Slot} {st : List Value} {cd : ClassFile.Cond} {x y : Int32} {o : Int} {pc' : Nat} (hd : decode c.code pc = .ok (.if_icmp cd o, 3)) (hc : if_icmp.holds cd x y = true) (ho : 0 ≤ (pc : Int) + o) (hp : ((pc : Int) + o).toNat = pc') (K : Goes p e below G (T.setTop (mkF m pc' Ls (st)))) : Goes p e below G (T.setTop (mkF m pc Ls (.int y :: .int x :: st))) :=
  go (fun _ q => XS.icmpYes (g := mkF m pc Ls (.int y :: .int x :: st)) X.here hx rfl rfl hd rfl hc ho hp q) K
theorem gIcmpN (X : Stand p l e R s m args below meth c T locs cells slots) (hx : p.tables.exec = Jvm.exec) {pc : Nat} {Ls : Array Slot} {st : List Value} {cd : ClassFile.Cond} {x y : Int32} {o : Int} (hd : decode c.code pc = .ok (.if_icmp cd o, 3)) (hc : if_icmp.holds cd x y = false) (K : Goes p e below G (T.setTop (mkF m (pc + 3) Ls (st)))) : Goes p e below G (T.setTop (mkF m pc Ls (.int y :: .int x :: st))) :=
  go (fun _ q => XS.icmpNo (g := mkF m pc Ls (.int y :: .int x :: st)) X.here hx rfl hd rfl hc q) K
theorem gAcmpY (X : Stand p l e R s m args below meth c T locs cells slots) (hx : p.tables.exec = Jvm.exec) {pc : Nat} {Ls : Array Slot} {st : List Value} {cd : ClassFile.ACond} {x y : Value} {o : Int} {pc' : Nat} (hd : decode c.code pc = .ok (.if_acmp cd o, 3)) (hx' : x.isRef = true) (hy' : y.isRef = true) (hc : XT.acmp cd x y = true) (ho : 0 ≤ (pc : Int) + o) (hp : ((pc : Int) + o).toNat = pc') (K : Goes p e below G (T.setTop (mkF m pc' Ls (st)))) : Goes p e below G (T.setTop (mkF m pc Ls (y :: x :: st))) :=
  go (fun _ q => XT.acmpYes (g := mkF m pc Ls (y :: x :: st)) X.here hx rfl rfl hd rfl hx' hy' hc ho hp q) K
theorem gAcmpN (X : Stand p l e R s m args below meth c T locs cells slots) (hx : p.tables.exec = Jvm.exec) {pc : Nat} {Ls : Array Slot} {st : List Value} {cd : ClassFile.ACond} {x y : Value} {o : Int} (hd : decode c.code pc = .ok (.if_acmp cd o, 3)) (hx' : x.isRef = true) (hy' : y.isRef = true) (hc : XT.acmp cd x y = false) (K : Goes p e below G (T.setTop (mkF m (pc + 3) Ls (st)))) : Goes p e below G (T.setTop (mkF m pc Ls (y :: x :: st))) :=
  go (fun _ q => XT.acmpNo (g := mkF m pc Ls (y :: x :: st)) X.here hx rfl hd rfl hx' hy' hc q) K
theorem gNullY (X : Stand p l e R s m args below meth c T locs cells slots) (hx : p.tables.exec = Jvm.exec) {pc : Nat} {Ls : Array Slot} {st : List Value} {o : Int} {pc' : Nat} (hd : decode c.code pc = .ok (.ifnull o, 3)) (ho : 0 ≤ (pc : Int) + o) (hp : ((pc : Int) + o).toNat = pc') (K : Goes p e below G (T.setTop (mkF m pc' Ls (st)))) : Goes p e below G (T.setTop (mkF m pc Ls (.null :: st))) :=
  go (fun _ q => XS.ifnullYes (g := mkF m pc Ls (.null :: st)) X.here hx rfl rfl hd rfl ho hp q) K
theorem gNullN (X : Stand p l e R s m args below meth c T locs cells slots) (hx : p.tables.exec = Jvm.exec) {pc : Nat} {Ls : Array Slot} {st : List Value} {b : Addr} {o : Int} (hd : decode c.code pc = .ok (.ifnull o, 3))  (K : Goes p e below G (T.setTop (mkF m (pc + 3) Ls (st)))) : Goes p e below G (T.setTop (mkF m pc Ls (.ref b :: st))) :=
  go (fun _ q => XS.ifnullNo (g := mkF m pc Ls (.ref b :: st)) X.here hx rfl hd rfl q) K
theorem gNonnullY (X : Stand p l e R s m args below meth c T locs cells slots) (hx : p.tables.exec = Jvm.exec) {pc : Nat} {Ls : Array Slot} {st : List Value} {b : Addr} {o : Int} {pc' : Nat} (hd : decode c.code pc = .ok (.ifnonnull o, 3)) (ho : 0 ≤ (pc : Int) + o) (hp : ((pc : Int) + o).toNat = pc') (K : Goes p e below G (T.setTop (mkF m pc' Ls (st)))) : Goes p e below G (T.setTop (mkF m pc Ls (.ref b :: st))) :=
  go (fun _ q => XT.ifnonnullYes (g := mkF m pc Ls (.ref b :: st)) X.here hx rfl rfl hd rfl ho hp q) K
theorem gNonnullN (X : Stand p l e R s m args below meth c T locs cells slots) (hx : p.tables.exec = Jvm.exec) {pc : Nat} {Ls : Array Slot} {st : List Value} {o : Int} (hd : decode c.code pc = .ok (.ifnonnull o, 3))  (K : Goes p e below G (T.setTop (mkF m (pc + 3) Ls (st)))) : Goes p e below G (T.setTop (mkF m pc Ls (.null :: st))) :=
  go (fun _ q => XT.ifnonnullNo (g := mkF m pc Ls (.null :: st)) X.here hx rfl hd rfl q) K
theorem gLdcI (X : Stand p l e R s m args below meth c T locs cells slots) (hx : p.tables.exec = Jvm.exec) {pc : Nat} {Ls : Array Slot} {st : List Value} (hZ : Z.Warmed39 s.vm) {own : String} (hown : s.vm.findClass own = some m.cls) {i : Nat} {v : Int32} (w : (Cond.constant own i v).before a0 Z = true) (hd : decode c.code pc = .ok (.ldc i, 2)) (K : Goes p e below G (T.setTop (mkF m (pc + 2) Ls (.int v :: st)))) : Goes p e below G (T.setTop (mkF m pc Ls st)) :=
  go (fun _ q => X.ldcI hx hown (mvT hZ w) (g := mkF m pc Ls st) rfl hd q) K
theorem gLdcWI (X : Stand p l e R s m args below meth c T locs cells slots) (hx : p.tables.exec = Jvm.exec) {pc : Nat} {Ls : Array Slot} {st : List Value} (hZ : Z.Warmed39 s.vm) {own : String} (hown : s.vm.findClass own = some m.cls) {i : Nat} {v : Int32} (w : (Cond.constant own i v).before a0 Z = true) (hd : decode c.code pc = .ok (.ldc_w i, 3)) (K : Goes p e below G (T.setTop (mkF m (pc + 3) Ls (.int v :: st)))) : Goes p e below G (T.setTop (mkF m pc Ls st)) :=
  go (fun _ q => X.ldcWI hx hown (mvT hZ w) (g := mkF m pc Ls st) rfl hd q) K
theorem gLdc2J (X : Stand p l e R s m args below meth c T locs cells slots) (hx : p.tables.exec = Jvm.exec) {pc : Nat} {Ls : Array Slot} {st : List Value} (hZ : Z.Warmed39 s.vm) {own : String} (hown : s.vm.findClass own = some m.cls) {i : Nat} {v : Int64} (w : (Cond.constantLong own i v).before a0 Z = true) (hd : decode c.code pc = .ok (.ldc2_w i, 3)) (K : Goes p e below G (T.setTop (mkF m (pc + 3) Ls (.long v :: st)))) : Goes p e below G (T.setTop (mkF m pc Ls st)) :=
  go (fun _ q => X.ldc2J hx hown (mvT hZ w) (g := mkF m pc Ls st) rfl hd q) K
theorem gLdc2D (X : Stand p l e R s m args below meth c T locs cells slots) (hx : p.tables.exec = Jvm.exec) {pc : Nat} {Ls : Array Slot} {st : List Value} (hZ : Z.Warmed39 s.vm) {own : String} (hown : s.vm.findClass own = some m.cls) {i : Nat} {v : UInt64} (w : (Cond.constantDouble own i v).before a0 Z = true) (hd : decode c.code pc = .ok (.ldc2_w i, 3)) (K : Goes p e below G (T.setTop (mkF m (pc + 3) Ls (.double v :: st)))) : Goes p e below G (T.setTop (mkF m pc Ls st)) :=
  go (fun _ q => X.ldc2DoubleC hx hown (mvT hZ w) (g := mkF m pc Ls st) rfl hd _ q) K
end Own
end Jvm.OwnWalk
namespace Jvm.OwnWalk
open Sem ClassFile Op Lib Jvm.Stand Jvm.Free Jvm.LawKit Jvm.RoadKit
section OwnW
variable {p : Program} {l : Launch} {e : Env} {R : Room} {s : State} {m : MethodId} {args : Array Value} {below : List Frame} {meth : Method} {c : Code} {T : State} {locs : List Loc} {cells slots : Nat} {Z : State} {a0 : Array Value} {h h' : Heap} {Q : Option Value → Heap → List Loc → Vm → Prop} {kc ks : Nat} {G : Outcome → State → Prop} {A B : State} {vm0 : Vm} {Pv : Vm → Prop}
/-- the wide end: String constants may have been loaded -/
def EndW (s : State) (Q : Option Value → Heap → List Loc → Vm → Prop) (kc ks : Nat) (o : Outcome) (t : State) : Prop := ∃ v L, o = .returned v ∧ Q v t.heap L t.vm ∧ ReturnedEndW s o t L kc ks
/-- how far the tables have come since the start s: vm0 is what the walk is re-based on -/
def Sn (s : State) (vm : Vm) (h : Heap) : Prop := ∃ k, s.Since vm k ∧ k ≤ h.size
theorem Sn.ext (F : Sn s vm0 h) (E : Ext h h') : Sn s vm0 h' := by obtain ⟨k, a, b⟩ := F; exact ⟨k, a, Nat.le_trans b E.1⟩
theorem Sn.wr {a : Addr} {sl : Nat} {v : Value} (F : Sn s vm0 h) (W : Wr h h' a sl v) : Sn s vm0 h' := by obtain ⟨k, a, b⟩ := F; exact ⟨k, a, by rw [W.size]; exact b⟩
theorem Sn.keep {ws : List Addr} (F : Sn s vm0 h) (K : Keep h h' ws) : Sn s vm0 h' := by obtain ⟨k, a, b⟩ := F; exact ⟨k, a, Nat.le_trans b K.1⟩
theorem Sn.start (s : State) (h : Heap) : Sn s s.vm h := ⟨0, (State.WarmedH.refl s).since 0, Nat.zero_le _⟩
theorem IB.warm {Ts : List String} (I : IB Z vm0 Ts) {vm1 : Vm} (hW : (s.setVm vm0).WarmedH vm1) : IB Z vm1 Ts := by
  obtain ⟨more, e1, e2⟩ := I
  exact ⟨more, by rw [hW.interned_eq]; exact e1, e2⟩
theorem goEndW (X : Stand p l e R (s.setVm vm0) m args below meth c T locs cells slots) (hS : Sn s vm0 h) {v : Option Value} (hv : meth.sig.returnType = none → v = none) (hlocks : meth.locks = false) (hc : cells ≤ kc) (hs : slots ≤ ks) (eT : T.heap = h) (hq : Q v h locs T.vm)
    (k : ∀ fs, (∀ (f : JFrame) (acts : List Action), f.method = m → f.locked = none → f.entered = [] → (doReturn e (T.setTop f) acts v).1 = T.setFrames fs) → Steps p.tables e below A (T.setFrames fs)) : Goes p e below (EndW s Q kc ks) A := by
  obtain ⟨fs, hr, hrun, hended, hW, hsame⟩ := X.leave hv hlocks
  obtain ⟨k0, h1, h2⟩ := hS
  have h3 : s.Since T.vm T.heap.size := h1.trans (hW.since T.heap.size) (by rw [eT]; exact h2)
  exact ⟨_, _, k fs hr, hrun, hended, _, _, rfl, (by show Q v T.heap locs T.vm; rw [eT]; exact hq), ⟨_, rfl⟩, h3.1, h3.2, (hsame.setVm s.vm).mono hc hs⟩
theorem goRetVW (X : Stand p l e R (s.setVm vm0) m args below meth c T locs cells slots) (hx : p.tables.exec = Jvm.exec) (hS : Sn s vm0 h) {pc : Nat} {Ls : Array Slot} {w : Value} {t : FieldType} {i : Instr} {rest : List Value} (hret : meth.sig.returnType = some t) (hlocks : meth.locks = false) (hd : decode c.code pc = .ok (i, 1)) (hn : narrow t w = w)
    (hi : (i = .ireturn ∧ (t = .int ∨ t = .boolean ∨ t = .byte ∨ t = .char ∨ t = .short) ∧ ∃ z, w = .int z) ∨ (i = .lreturn ∧ t = .long ∧ ∃ z, w = .long z) ∨ (i = .dreturn ∧ t = .double ∧ ∃ z, w = .double z) ∨ (i = .freturn ∧ t = .float ∧ ∃ z, w = .float z) ∨ (i = .areturn ∧ t.isReference = true ∧ w.isRef = true))
    (hc : cells ≤ kc) (hs : slots ≤ ks) (eT : T.heap = h) (hq : Q (some w) h locs T.vm) : Goes p e below (EndW s Q kc ks) (T.setTop (mkF m pc Ls (w :: rest))) :=
  goEndW X hS (v := some w) (fun q => by rw [hret] at q; cases q) hlocks hc hs eT hq fun fs hr => retOut X hx hret hn hi hd hr
theorem goRetIW (X : Stand p l e R (s.setVm vm0) m args below meth c T locs cells slots) (hx : p.tables.exec = Jvm.exec) (hS : Sn s vm0 h) {pc : Nat} {Ls : Array Slot} {z : Int32} {rest : List Value} (hret : meth.sig.returnType = some .int) (hlocks : meth.locks = false) (hd : decode c.code pc = .ok (.ireturn, 1))
    (hc : cells ≤ kc) (hs : slots ≤ ks) (eT : T.heap = h) (hq : Q (some (.int z)) h locs T.vm) : Goes p e below (EndW s Q kc ks) (T.setTop (mkF m pc Ls (.int z :: rest))) :=
  goRetVW X hx hS hret hlocks hd rfl (Or.inl ⟨rfl, Or.inl rfl, _, rfl⟩) hc hs eT hq
theorem goRetAW (X : Stand p l e R (s.setVm vm0) m args below meth c T locs cells slots) (hx : p.tables.exec = Jvm.exec) (hS : Sn s vm0 h) {pc : Nat} {Ls : Array Slot} {w : Value} {t : FieldType} {rest : List Value} (hret : meth.sig.returnType = some t) (hlocks : meth.locks = false) (ht : t.isReference = true) (hw : w.isRef = true) (hd : decode c.code pc = .ok (.areturn, 1))
    (hc : cells ≤ kc) (hs : slots ≤ ks) (eT : T.heap = h) (hq : Q (some w) h locs T.vm) : Goes p e below (EndW s Q kc ks) (T.setTop (mkF m pc Ls (w :: rest))) :=
  goRetVW X hx hS hret hlocks hd (by cases t <;> first | (cases ht; done) | rfl) (Or.inr (Or.inr (Or.inr (Or.inr ⟨rfl, ht, hw⟩)))) hc hs eT hq
theorem goRetNW (X : Stand p l e R (s.setVm vm0) m args below meth c T locs cells slots) (hx : p.tables.exec = Jvm.exec) (hS : Sn s vm0 h) {pc : Nat} {Ls : Array Slot} {z z' : Int32} {t : FieldType} {rest : List Value} (hret : meth.sig.returnType = some t) (hlocks : meth.locks = false) (ht : t = .boolean ∨ t = .byte ∨ t = .char ∨ t = .short) (hd : decode c.code pc = .ok (.ireturn, 1)) (hz : nar t z = z')
    (hc : cells ≤ kc) (hs : slots ≤ ks) (eT : T.heap = h) (hq : Q (some (.int z')) h locs T.vm) : Goes p e below (EndW s Q kc ks) (T.setTop (mkF m pc Ls (.int z :: rest))) := by
  subst hz
  exact goEndW X hS (v := some (.int (nar t z))) (fun q => by rw [hret] at q; cases q) hlocks hc hs eT hq fun fs hr => retN X hx hret ht hd hr
theorem goRet0W (X : Stand p l e R (s.setVm vm0) m args below meth c T locs cells slots) (hx : p.tables.exec = Jvm.exec) (hS : Sn s vm0 h) {pc : Nat} {Ls : Array Slot} (hret : meth.sig.returnType = none) (hlocks : meth.locks = false) (hd : decode c.code pc = .ok (.return_, 1))
    (hc : cells ≤ kc) (hs : slots ≤ ks) (eT : T.heap = h) (hq : Q none h locs T.vm) : Goes p e below (EndW s Q kc ks) (T.setTop (mkF m pc Ls [])) :=
  goEndW X hS (v := none) (fun _ => rfl) hlocks hc hs eT hq fun fs hr => X.returnOut hx hret hd hr
/-- a body's wide contract; Pv: what it asks of the tables where it is called -/
def CtrW (l : Launch) (Z : State) (y : MethodName) (bytes : ByteArray) (maxL : Nat) (ret : Option FieldType) (ws : List Cond) (rm : Room) (as : Array Value) (h0 : Heap) (Pv : Vm → Prop) (Q : Option Value → Heap → List Loc → Vm → Prop) : Prop :=
  MetFree l y (head1 (Cond.code y bytes maxL ret :: ws) rm) (fun a U => a = as ∧ Z.Warmed39 U.vm ∧ U.heap = h0 ∧ Pv U.vm) (fun _ _ _ _ _ => True) (fun _ U o U' => EndW U Q rm.cells rm.slots o U')
theorem ctrW {y : MethodName} {bytes : ByteArray} {maxL : Nat} {ret : Option FieldType} {ws : List Cond} {rm : Room} {as : Array Value} {h0 : Heap} (hpn : plainFor y = true)
    (body : ∀ (p : Program) (e : Env) (s : State) (m : MethodId) (below : List Frame) (meth : Method) (c : Code) (s₁ : State) (vm0 : Vm), p.tables.exec = Jvm.exec → c.code = bytes → c.maxLocals = maxL → vm0.findClass y.cls = some m.cls → meth.name = y.name → meth.sig.returnType = ret → meth.locks = false → Z.Warmed39 vm0 →
      Stand p l e rm (s.setVm vm0) m as below meth c s₁ [] 0 0 → s₁.heap = h0 → Sn s vm0 h0 → s.heap = h0 → Pv vm0 → Goes p e below (EndW s Q rm.cells rm.slots) (s₁.setTop (entryFrame m as maxL))) : CtrW l Z y bytes maxL ret ws rm as h0 Pv Q := by
  refine MetFree.of_bodySF hpn hisR ?_
  intro p e s m args below meth c s₁ Bd hml0 hP hK
  obtain ⟨rfl, hZ, hh, hv⟩ := hP
  exact body p e s m below meth c s₁ s.vm Bd.exec Bd.bytes hml0 (findClass_of_methodNamed Bd.named) (name_of_methodNamed Bd.named Bd.method).1 Bd.returns Bd.notSynchronized hZ (Stand.of_body Bd) (by rw [← hh, Bd.state]; rfl) (Sn.start s _) hh hv
theorem backW {y : MethodName} {bytes : ByteArray} {maxL : Nat} {ret : Option FieldType} {rm : Room} {len W : Nat} {as : Array Value}
    (hM : CtrW l Z y bytes maxL ret [] rm as h Pv Q) (hPv : ∀ vm1, s.WarmedH vm1 → Pv vm1)
    (hZ : Z.Warmed39 s.vm) (wc : (Cond.code y bytes maxL ret).before a0 Z = true) (wz : (Cond.initialized y.cls).before a0 Z = true) (hf : rm.frames + 1 ≤ R.frames) (hl : W + (maxL + 11) + rm.locals ≤ R.locals) :
    BackS l R p e below s args y len W (fun A a => a = as ∧ A.U.heap = h ∧ A.cells + rm.cells ≤ R.cells ∧ A.slots + rm.slots ≤ R.slots)
      (fun A _ v B => ∃ L, Q v B.U.heap L B.U.vm ∧ B.locs = A.locs ++ L ∧ B.cells = A.cells + rm.cells ∧ B.slots = A.slots + rm.slots) :=
  BackS.of_freeW (bytes := bytes) (maxL := maxL) (ret := ret) (E := fun _ _ o t L k n => k = rm.cells ∧ n = rm.slots ∧ ∃ v, o = .returned v ∧ Q v t.heap L t.vm) hM hf hl
    (fun m meth c A a Y hp => have hU : Z.Warmed39 A.U.vm := wtrans hZ Y.warmed
      ⟨by show (Cond.and _ .tt).before a A.U = true; rw [Cond.before_and, mv hU wc]; rfl, mv hU wc, mv hU wz, hp.2.2.1, hp.2.2.2⟩)
    (fun m meth c A a g mk Y hp => ⟨hp.1, wtrans hZ Y.warmed, hp.2.1, hPv _ Y.warmed⟩) (fun _ _ _ _ _ _ _ _ _ => trivial)
    (fun _ _ _ _ ⟨v, L, h1, h2, h3⟩ => ⟨L, _, _, h3, rfl, rfl, v, h1, h2⟩)
    (fun m meth c A a g mk v t L k n Y hp _ _ ⟨e1, e2, v', e3, e4⟩ => by cases e3; subst e1 e2; exact ⟨L, e4, rfl, rfl, rfl⟩)
theorem goCallSW (X : Stand p l e R (s.setVm vm0) m args below meth c T locs cells slots) (hx : p.tables.exec = Jvm.exec) (hZ : Z.Warmed39 vm0) (hS : Sn s vm0 h) {own : String} {index : Nat} {y : MethodName} {bytes : ByteArray} {maxL : Nat} {ret : Option FieldType} (hown : vm0.findClass own = some m.cls)
    (w1 : (Cond.methodLink own index y).before a0 Z = true) (w2 : (Cond.static y).before a0 Z = true) (w3 : (Cond.initialized y.cls).before a0 Z = true) (w4 : (Cond.code y bytes maxL ret).before a0 Z = true) (hy : y.cls ≠ "java/lang/invoke/MethodHandle" ∧ y.cls ≠ "java/lang/invoke/VarHandle")
    {rm : Room} {as : Array Value} {Q' : Option Value → Heap → List Loc → Vm → Prop} (hM : CtrW l Z y bytes maxL ret [] rm as h Pv Q') (hPv : ∀ vm1, (s.setVm vm0).WarmedH vm1 → Pv vm1) (W : Nat) (hf : rm.frames + 1 ≤ R.frames) (hl : W + (maxL + 11) + rm.locals ≤ R.locals) (eT : T.heap = h)
    {pc : Nat} {Ls : Array Slot} {st : List Value} (hsize : Ls.size = c.maxLocals) (argsL rest : List Value) {ps : List FieldType} {rt : Option FieldType} (hpd : parseMethodDescriptor y.desc = some ⟨ps, rt⟩) (hlen : argsL.length = ps.length) (hst : st = argsL.reverse ++ rest) (has : argsL.toArray = as) (hW : (rest.map fun v => v.category).sum ≤ W)
    (hd : decode c.code pc = .ok (.invokestatic index, 3)) (hc : cells + rm.cells ≤ R.cells) (hs : slots + rm.slots ≤ R.slots)
    (k : ∀ T' v L, Stand p l e R (s.setVm T'.vm) m args below meth c T' (locs ++ L) (cells + rm.cells) (slots + rm.slots) → Z.Warmed39 T'.vm → T'.vm.findClass own = some m.cls → Sn s T'.vm T'.heap → (s.setVm vm0).Warmed39 T'.vm → Q' v T'.heap L T'.vm → Goes p e below G (T'.setTop (mkF m (pc + 3) Ls (v.toList ++ rest)))) : Goes p e below G (T.setTop (mkF m pc Ls st)) := by
  subst hst
  obtain ⟨v, _, ⟨T', L', k', n'⟩, -, X', hS', hgr, ⟨L, hQ, l1, y1, z1⟩, st⟩ := callSS X hx (y := y) hown (mvT (s := s.setVm vm0) hZ w1) (mvT (s := s.setVm vm0) hZ w2) (mvT (s := s.setVm vm0) hZ w3) (mvT (s := s.setVm vm0) hZ w4) hy (backW (W := W) hM hPv hZ w4 w3 hf hl) (g := mkF m pc Ls (argsL.reverse ++ rest)) rfl hsize (argsL := argsL) (rest := rest) (lenOf hpd hlen) rfl (by show 2 * 0 + _ ≤ _; omega) hd (fun _ _ => ⟨has, eT, hc, hs⟩)
  dsimp only [Pt.U, Pt.locs, Pt.cells, Pt.slots] at X' l1 y1 z1 st hQ hS' hgr
  subst l1 y1 z1
  obtain ⟨k0, s1, s2⟩ := hS
  have h3 : s.Since T'.vm T'.heap.size := s1.trans hS' (Nat.le_trans s2 (by rw [← eT]; exact hgr))
  exact go (fun _ => st.trans) (k T' v L X' (State.Warmed39.trans (t := s.setVm vm0) hZ hS'.1) (by rw [hS'.1.alike.findClass]; exact hown) ⟨_, h3, Nat.le_refl _⟩ hS'.1 hQ)
theorem goCallIW (X : Stand p l e R (s.setVm vm0) m args below meth c T locs cells slots) (hx : p.tables.exec = Jvm.exec) (hZ : Z.Warmed39 vm0) (hS : Sn s vm0 h) {own : String} {index : Nat} {y : MethodName} {bytes : ByteArray} {maxL : Nat} (hy1 : y.name = "<init>") (hown : vm0.findClass own = some m.cls)
    (w1 : (Cond.methodLink own index y).before a0 Z = true) (w2 : (Cond.instanceMethod y).before a0 Z = true) (w3 : (Cond.initialized y.cls).before a0 Z = true) (w4 : (Cond.code y bytes maxL none).before a0 Z = true) (hy : y.cls ≠ "java/lang/invoke/MethodHandle" ∧ y.cls ≠ "java/lang/invoke/VarHandle")
    {rm : Room} {as : Array Value} {Q' : Option Value → Heap → List Loc → Vm → Prop} (hM : CtrW l Z y bytes maxL none [] rm as h Pv Q') (hPv : ∀ vm1, (s.setVm vm0).WarmedH vm1 → Pv vm1) (W : Nat) (hf : rm.frames + 1 ≤ R.frames) (hl : W + (maxL + 11) + rm.locals ≤ R.locals) (eT : T.heap = h)
    {pc : Nat} {Ls : Array Slot} {st : List Value} (hsize : Ls.size = c.maxLocals) (a : Addr) (argsL rest : List Value) {ps : List FieldType} {rt : Option FieldType} (hpd : parseMethodDescriptor y.desc = some ⟨ps, rt⟩) (hlen : argsL.length = ps.length) (hst : st = argsL.reverse ++ .ref a :: rest) (has : (.ref a :: argsL).toArray = as) (hW : (rest.map fun v => v.category).sum ≤ W)
    (hd : decode c.code pc = .ok (.invokespecial index, 3)) (hc : cells + rm.cells ≤ R.cells) (hs : slots + rm.slots ≤ R.slots)
    (k : ∀ T' v L, Stand p l e R (s.setVm T'.vm) m args below meth c T' (locs ++ L) (cells + rm.cells) (slots + rm.slots) → Z.Warmed39 T'.vm → T'.vm.findClass own = some m.cls → Sn s T'.vm T'.heap → (s.setVm vm0).Warmed39 T'.vm → Q' v T'.heap L T'.vm → Goes p e below G (T'.setTop (mkF m (pc + 3) Ls (v.toList ++ rest)))) : Goes p e below G (T.setTop (mkF m pc Ls st)) := by
  subst hst
  obtain ⟨v, _, ⟨T', L', k', n'⟩, -, X', hS', hgr, ⟨L, hQ, l1, y1, z1⟩, st⟩ := X.specialBackS hx (y := y) hy1 hown (mvT (s := s.setVm vm0) hZ w1) (mvT (s := s.setVm vm0) hZ w2) (mvT (s := s.setVm vm0) hZ w4) hy (backW (W := W) hM hPv hZ w4 w3 hf hl) (g := mkF m pc Ls (argsL.reverse ++ .ref a :: rest)) rfl hsize (Steps.refl _) (a := a) (argsL := argsL) (rest := rest) (lenOf hpd hlen) rfl (by show 2 * 0 + _ ≤ _; omega) hd (fun _ _ => ⟨has, eT, hc, hs⟩)
  dsimp only [Pt.U, Pt.locs, Pt.cells, Pt.slots] at X' l1 y1 z1 st hQ hS' hgr
  subst l1 y1 z1
  obtain ⟨k0, s1, s2⟩ := hS
  have h3 : s.Since T'.vm T'.heap.size := s1.trans hS' (Nat.le_trans s2 (by rw [← eT]; exact hgr))
  exact go (fun _ => st.trans) (k T' v L X' (State.Warmed39.trans (t := s.setVm vm0) hZ hS'.1) (by rw [hS'.1.alike.findClass]; exact hown) ⟨_, h3, Nat.le_refl _⟩ hS'.1 hQ)
theorem goCallVW (X : Stand p l e R (s.setVm vm0) m args below meth c T locs cells slots) (hx : p.tables.exec = Jvm.exec) (hZ : Z.Warmed39 vm0) (hS : Sn s vm0 h) {own C : String} {index : Nat} {y : MethodName} {bytes : ByteArray} {maxL : Nat} {ret : Option FieldType} (hown : vm0.findClass own = some m.cls)
    (w1 : (Cond.methodLink own index y).before a0 Z = true) (w2 : (Cond.declares y).before a0 Z = true) (w5 : (Cond.selects C y y).before a0 Z = true) (w6 : (Cond.instanceMethod y).before a0 Z = true) (w3 : (Cond.initialized y.cls).before a0 Z = true) (w4 : (Cond.code y bytes maxL ret).before a0 Z = true) (hy : y.cls ≠ "java/lang/invoke/MethodHandle" ∧ y.cls ≠ "java/lang/invoke/VarHandle")
    {rm : Room} {as : Array Value} {Q' : Option Value → Heap → List Loc → Vm → Prop} (hM : CtrW l Z y bytes maxL ret [] rm as h Pv Q') (hPv : ∀ vm1, (s.setVm vm0).WarmedH vm1 → Pv vm1) (W : Nat) (hf : rm.frames + 1 ≤ R.frames) (hl : W + (maxL + 11) + rm.locals ≤ R.locals) (eT : T.heap = h) {a : Addr} (E : Exa Z h a C)
    {pc : Nat} {Ls : Array Slot} {st : List Value} (hsize : Ls.size = c.maxLocals) (argsL rest : List Value) {ps : List FieldType} {rt : Option FieldType} (hpd : parseMethodDescriptor y.desc = some ⟨ps, rt⟩) (hlen : argsL.length = ps.length) (hst : st = argsL.reverse ++ .ref a :: rest) (has : (.ref a :: argsL).toArray = as) (hW : (rest.map fun v => v.category).sum ≤ W)
    (hd : decode c.code pc = .ok (.invokevirtual index, 3)) (hc : cells + rm.cells ≤ R.cells) (hs : slots + rm.slots ≤ R.slots)
    (k : ∀ T' v L, Stand p l e R (s.setVm T'.vm) m args below meth c T' (locs ++ L) (cells + rm.cells) (slots + rm.slots) → Z.Warmed39 T'.vm → T'.vm.findClass own = some m.cls → Sn s T'.vm T'.heap → (s.setVm vm0).Warmed39 T'.vm → Q' v T'.heap L T'.vm → Goes p e below G (T'.setTop (mkF m (pc + 3) Ls (v.toList ++ rest)))) : Goes p e below G (T.setTop (mkF m pc Ls st)) := by
  subst hst
  obtain ⟨cq, kq, qa, qb, qc⟩ := isOf (s := s.setVm vm0) hZ eT E
  obtain ⟨v, _, ⟨T', L', k', n'⟩, -, X', hS', hgr, ⟨L, hQ, l1, y1, z1⟩, st⟩ := X.virtualBackS hx (y := y) (z := y) hown (mvT (s := s.setVm vm0) hZ w1) (mvT (s := s.setVm vm0) hZ w2) (notFace_of_selects (args := #[]) (mvT (s := s.setVm vm0) hZ w5)) (mvT (s := s.setVm vm0) hZ w5) (mvT (s := s.setVm vm0) hZ w6) hy (backW (W := W) hM hPv hZ w4 w3 hf hl) qa qc (g := mkF m pc Ls (argsL.reverse ++ .ref a :: rest)) rfl hsize (Steps.refl _) (argsL := argsL) (rest := rest) (lenOf hpd hlen) rfl (by show 2 * 0 + _ ≤ _; omega) hd (fun _ _ => ⟨has, eT, hc, hs⟩)
  dsimp only [Pt.U, Pt.locs, Pt.cells, Pt.slots] at X' l1 y1 z1 st hQ hS' hgr
  subst l1 y1 z1
  obtain ⟨k0, s1, s2⟩ := hS
  have h3 : s.Since T'.vm T'.heap.size := s1.trans hS' (Nat.le_trans s2 (by rw [← eT]; exact hgr))
  exact go (fun _ => st.trans) (k T' v L X' (State.Warmed39.trans (t := s.setVm vm0) hZ hS'.1) (by rw [hS'.1.alike.findClass]; exact hown) ⟨_, h3, Nat.le_refl _⟩ hS'.1 hQ)
/-- Arv with its whole list is Ary -/
theorem Arv.ary {b : Addr} {k : ClassId} {ty : FieldType} {z : Int32} {vs : List Value} {d : Value} (F : Arv Z h b k ty z vs d) (hl : z.toNatClampNeg = vs.length) : Ary Z h b ty vs := by
  obtain ⟨cl, A, -, hs, hz, H, -⟩ := F
  refine ⟨cl, A, ?_, ?_⟩
  · apply List.ext_getElem?
    intro i
    by_cases hi : i < cl.slots.size
    · have := H i hi
      rw [Array.getElem?_toList, this]
      rw [List.getD_eq_getElem?_getD]
      have hv : i < vs.length := by omega
      simp [hv]
    · rw [List.getElem?_eq_none (by rw [Array.length_toList]; omega), List.getElem?_eq_none (by omega)]
  · rw [← hl]; exact (back32 hz).2
end OwnW
end Jvm.OwnWalk
namespace Jvm.Pilot.@@N@@
open Jvm Jvm.ClassFile Sem Op Lib Jvm.Free Jvm.Stand Jvm.LawKit Jvm.RoadKit Jvm.OwnWalk Bundle Jvm.Pilot.@@N@@.Jvm.D
theorem own_wS {Z : State} {a0 : Array Value} (hw : ∀ d ∈ tables_1, d.before a0 Z = true) : ∀ a ∈ Bundle.stringAtoms, a.before a0 Z = true := by
  intro d hd
  simp only [Bundle.stringAtoms, Bundle.sN, List.mem_cons, List.not_mem_nil, or_false] at hd
  rcases hd with rfl | rfl | rfl | rfl | rfl | rfl | rfl
  · exact hw _ (List.mem_of_getElem? (i := 10) rfl)
  · exact hw _ (List.mem_of_getElem? (i := 9) rfl)
  · exact hw _ (List.mem_of_getElem? (i := 23) rfl)
  · exact hw _ (List.mem_of_getElem? (i := 24) rfl)
  · exact hw _ (List.mem_of_getElem? (i := 25) rfl)
  · exact hw _ (List.mem_of_getElem? (i := 26) rfl)
  · exact hw _ (List.mem_of_getElem? (i := 27) rfl)
theorem own_fits {n : String} {v : Value} (h : v.isRef = true) : fits (.object n) v = true := by cases v <;> first | rfl | (simp [Value.isRef] at h)
section OwnSw
variable {p : Program} {l : Launch} {e : Env} {R : Room} {s : State} {m : MethodId} {args : Array Value} {below : List Frame} {meth : Method} {c : Code} {T : State} {locs : List Loc} {cells slots : Nat} {G : Outcome → State → Prop}
theorem gLswY (X : Stand p l e R s m args below meth c T locs cells slots) (hx : p.tables.exec = Jvm.exec) {pc pc' : Nat} {Ls : Array Slot} {st : List Value} {k : Int32} {df : Int} {ps : Array (Int × Int)} {len : Nat} (hd : decode c.code pc = .ok (.lookupswitch df ps, len)) (hs : (ps.toList.zip (ps.toList.drop 1)).all (fun (a, next) => a.1 < next.1) = true) {a off : Int} (hf : ps.find? (·.1 == k.toInt) = some (a, off)) (ho : 0 ≤ (pc : Int) + off) (hp : ((pc : Int) + off).toNat = pc')
    (K : Goes p e below G (T.setTop (mkF m pc' Ls st))) : Goes p e below G (T.setTop (mkF m pc Ls (.int k :: st))) := by
  subst hp
  exact go (fun t q => X.lookupswitchHit hx (g := mkF m pc Ls (.int k :: st)) rfl rfl hd hs hf ho t q) K
theorem gLswN (X : Stand p l e R s m args below meth c T locs cells slots) (hx : p.tables.exec = Jvm.exec) {pc pc' : Nat} {Ls : Array Slot} {st : List Value} {k : Int32} {df : Int} {ps : Array (Int × Int)} {len : Nat} (hd : decode c.code pc = .ok (.lookupswitch df ps, len)) (hs : (ps.toList.zip (ps.toList.drop 1)).all (fun (a, next) => a.1 < next.1) = true) (hf : ps.find? (·.1 == k.toInt) = none) (ho : 0 ≤ (pc : Int) + df) (hp : ((pc : Int) + df).toNat = pc')
    (K : Goes p e below G (T.setTop (mkF m pc' Ls st))) : Goes p e below G (T.setTop (mkF m pc Ls (.int k :: st))) := by
  subst hp
  exact go (fun t q => X.lookupswitchMiss hx (g := mkF m pc Ls (.int k :: st)) rfl rfl hd hs hf ho t q) K
end OwnSw
def own_tk (x : Int32) : Prop := x = (33 : Int32) ∨ x = (35 : Int32) ∨ x = (36 : Int32) ∨ x = (37 : Int32) ∨ x = (38 : Int32) ∨ x = (39 : Int32) ∨ x = (42 : Int32) ∨ x = (43 : Int32) ∨ x = (45 : Int32) ∨ x = (46 : Int32) ∨ x = (94 : Int32) ∨ x = (95 : Int32) ∨ x = (96 : Int32) ∨ x = (124 : Int32) ∨ x = (126 : Int32)
instance own_tkd (x : Int32) : Decidable (own_tk x) := by unfold own_tk; infer_instance
def own_ld (x : Int32) : Prop := (¬ x < 97 ∧ ¬ (122 : Int32) < x) ∨ (¬ x < 65 ∧ ¬ (90 : Int32) < x) ∨ (¬ x < 48 ∧ ¬ (57 : Int32) < x)
instance own_ldd (x : Int32) : Decidable (own_ld x) := by unfold own_ld; infer_instance
def own_tc (x : Int32) : Int32 := if own_ld x ∨ own_tk x then 1 else 0
theorem own_tkI (x : Int32) : own_tk x ↔ (x.toInt = 33 ∨ x.toInt = 35 ∨ x.toInt = 36 ∨ x.toInt = 37 ∨ x.toInt = 38 ∨ x.toInt = 39 ∨ x.toInt = 42 ∨ x.toInt = 43 ∨ x.toInt = 45 ∨ x.toInt = 46 ∨ x.toInt = 94 ∨ x.toInt = 95 ∨ x.toInt = 96 ∨ x.toInt = 124 ∨ x.toInt = 126) := by
  unfold own_tk
  simp only [← Int32.toInt_inj]
  rfl
theorem own_c8 {c : Int32} (h0 : ¬ c < 0) (h1 : ¬ (255 : Int32) < c) : own_tk c.toInt8.toInt32 ↔ own_tk c := by
  have k := c_i2b c
  rw [Int32.lt_iff_toInt_lt] at h0 h1
  rw [show (0 : Int32).toInt = 0 by decide] at h0
  rw [show (255 : Int32).toInt = 255 by decide] at h1
  rw [own_tkI, own_tkI]
  omega
theorem own_big {c : Int32} (h1 : (255 : Int32) < c) : ¬ own_tk c := by
  rw [Int32.lt_iff_toInt_lt, show (255 : Int32).toInt = 255 by decide] at h1
  rw [own_tkI]
  omega
theorem d_jdk_29_method_65_0 : decode jdk_29_method_65_code 0 = .ok (.iload_n 0, 1) := by decide +kernel
theorem d_jdk_29_method_65_1 : decode jdk_29_method_65_code 1 = .ok (.iload_n 1, 1) := by decide +kernel
theorem d_jdk_29_method_65_2 : decode jdk_29_method_65_code 2 = .ok (.if_icmp .lt 7, 3) := by decide +kernel
theorem d_jdk_29_method_65_5 : decode jdk_29_method_65_code 5 = .ok (.iload_n 0, 1) := by decide +kernel
theorem d_jdk_29_method_65_6 : decode jdk_29_method_65_code 6 = .ok (.goto 4, 3) := by decide +kernel
theorem d_jdk_29_method_65_10 : decode jdk_29_method_65_code 10 = .ok (.ireturn, 1) := by decide +kernel
theorem ef_rmMx (m : MethodId) (x0 : Int32) (x1 : Int32) : entryFrame m #[(.int x0), (.int x1)] 2 = mkF m 0 #[.val (.int x0), .val (.int x1)] [] := by first | (simp [entryFrame, mkF, argsToLocals, Value.category]; done) | rfl
set_option maxRecDepth 65536 in
set_option maxHeartbeats 40000000 in
theorem rmMx (l : Launch) (Z : State) (a0 : Array Value) (hw : ∀ d ∈ tables_1, d.before a0 Z = true)   (h0 : Heap) (O0 : Ext Z.heap h0)  :
    Ctr l Z (⟨"java/lang/Math", "max", "(II)I"⟩ : MethodName) jdk_29_method_65_code 2 (some .int) [] ({ frames := 0, cells := 0, slots := 0, locals := 0 } : Room) #[(.int (0 : Int32)), (.int (0 : Int32))] h0 (fun v h L => v = some (.int (0 : Int32)) ∧ Fr Z.heap.size L ∧ h = h0) := by
  refine ctr (Jvm.Free.JP.mathPlain rfl (by decide +kernel)) ?_
  intro p e s m below meth c s₁ hx hby hml hown hnm hret hlocks hZ X0 e0
  have N0 := Fr.nil Z.heap.size
  have hsz : ∀ {Ls : Array Slot}, Ls.size = 2 → Ls.size = c.maxLocals := fun q => q.trans hml.symm
  refine goE (ef_rmMx m ((0 : Int32)) ((0 : Int32))) ?_
  show Goes p e below _ (s₁.setTop (mkF m 0 #[.val (.int (0 : Int32)), .val (.int (0 : Int32))] []))
  refine gIloadN X0 hx (hb hby d_jdk_29_method_65_0) rfl ?_
  refine gIloadN X0 hx (hb hby d_jdk_29_method_65_1) rfl ?_
  refine gIcmpN X0 hx (hb hby d_jdk_29_method_65_2) (XT.ii_lt_f (by decide)) ?_
  show Goes p e below _ (s₁.setTop (mkF m 5 #[.val (.int (0 : Int32)), .val (.int (0 : Int32))] []))
  refine gIloadN X0 hx (hb hby d_jdk_29_method_65_5) rfl ?_
  refine gGoto X0 hx (hb hby d_jdk_29_method_65_6) (pc' := 10) (by decide) (by decide) ?_
  show Goes p e below _ (s₁.setTop (mkF m 10 #[.val (.int (0 : Int32)), .val (.int (0 : Int32))] [(.int (0 : Int32))]))
  exact goRetI X0 hx hret hlocks (hb hby d_jdk_29_method_65_10) (by decide) (by decide) e0 (⟨rfl, N0, rfl⟩)
theorem d_jdk_29_method_69_0 : decode jdk_29_method_69_code 0 = .ok (.iload_n 0, 1) := by decide +kernel
theorem d_jdk_29_method_69_1 : decode jdk_29_method_69_code 1 = .ok (.iload_n 1, 1) := by decide +kernel
theorem d_jdk_29_method_69_2 : decode jdk_29_method_69_code 2 = .ok (.if_icmp .gt 7, 3) := by decide +kernel
theorem d_jdk_29_method_69_5 : decode jdk_29_method_69_code 5 = .ok (.iload_n 0, 1) := by decide +kernel
theorem d_jdk_29_method_69_6 : decode jdk_29_method_69_code 6 = .ok (.goto 4, 3) := by decide +kernel
theorem d_jdk_29_method_69_10 : decode jdk_29_method_69_code 10 = .ok (.ireturn, 1) := by decide +kernel
theorem ef_rmMn (m : MethodId) (x0 : Int32) (x1 : Int32) : entryFrame m #[(.int x0), (.int x1)] 2 = mkF m 0 #[.val (.int x0), .val (.int x1)] [] := by first | (simp [entryFrame, mkF, argsToLocals, Value.category]; done) | rfl
set_option maxRecDepth 65536 in
set_option maxHeartbeats 40000000 in
theorem rmMn (l : Launch) (Z : State) (a0 : Array Value) (hw : ∀ d ∈ tables_1, d.before a0 Z = true)   (h0 : Heap) (O0 : Ext Z.heap h0)  :
    Ctr l Z (⟨"java/lang/Math", "min", "(II)I"⟩ : MethodName) jdk_29_method_69_code 2 (some .int) [] ({ frames := 0, cells := 0, slots := 0, locals := 0 } : Room) #[(.int (15 : Int32)), (.int (15 : Int32))] h0 (fun v h L => v = some (.int (15 : Int32)) ∧ Fr Z.heap.size L ∧ h = h0) := by
  refine ctr (Jvm.Free.JP.mathPlain rfl (by decide +kernel)) ?_
  intro p e s m below meth c s₁ hx hby hml hown hnm hret hlocks hZ X0 e0
  have N0 := Fr.nil Z.heap.size
  have hsz : ∀ {Ls : Array Slot}, Ls.size = 2 → Ls.size = c.maxLocals := fun q => q.trans hml.symm
  refine goE (ef_rmMn m ((15 : Int32)) ((15 : Int32))) ?_
  show Goes p e below _ (s₁.setTop (mkF m 0 #[.val (.int (15 : Int32)), .val (.int (15 : Int32))] []))
  refine gIloadN X0 hx (hb hby d_jdk_29_method_69_0) rfl ?_
  refine gIloadN X0 hx (hb hby d_jdk_29_method_69_1) rfl ?_
  refine gIcmpN X0 hx (hb hby d_jdk_29_method_69_2) (XT.ii_gt_f (by decide)) ?_
  show Goes p e below _ (s₁.setTop (mkF m 5 #[.val (.int (15 : Int32)), .val (.int (15 : Int32))] []))
  refine gIloadN X0 hx (hb hby d_jdk_29_method_69_5) rfl ?_
  refine gGoto X0 hx (hb hby d_jdk_29_method_69_6) (pc' := 10) (by decide) (by decide) ?_
  show Goes p e below _ (s₁.setTop (mkF m 10 #[.val (.int (15 : Int32)), .val (.int (15 : Int32))] [(.int (15 : Int32))]))
  exact goRetI X0 hx hret hlocks (hb hby d_jdk_29_method_69_10) (by decide) (by decide) e0 (⟨rfl, N0, rfl⟩)
theorem d_jdk_43_method_4_0 : decode jdk_43_method_4_code 0 = .ok (.iload_n 0, 1) := by decide +kernel
theorem d_jdk_43_method_4_1 : decode jdk_43_method_4_code 1 = .ok (.ifCond .lt 14, 3) := by decide +kernel
theorem d_jdk_43_method_4_4 : decode jdk_43_method_4_code 4 = .ok (.iload_n 0, 1) := by decide +kernel
theorem d_jdk_43_method_4_5 : decode jdk_43_method_4_code 5 = .ok (.sipush 255, 3) := by decide +kernel
theorem d_jdk_43_method_4_8 : decode jdk_43_method_4_code 8 = .ok (.if_icmp .gt 7, 3) := by decide +kernel
theorem d_jdk_43_method_4_11 : decode jdk_43_method_4_code 11 = .ok (.iconst 1, 1) := by decide +kernel
theorem d_jdk_43_method_4_12 : decode jdk_43_method_4_code 12 = .ok (.goto 4, 3) := by decide +kernel
theorem d_jdk_43_method_4_16 : decode jdk_43_method_4_code 16 = .ok (.ireturn, 1) := by decide +kernel
theorem pn_0 : plainName "java/lang/StringLatin1" = true := by first | (simp [plainName, overriddenIn]; done) | decide +kernel
theorem ef_rmCy (m : MethodId) (x0 : Int32) : entryFrame m #[(.int x0)] 1 = mkF m 0 #[.val (.int x0)] [] := by first | (simp [entryFrame, mkF, argsToLocals, Value.category]; done) | rfl
set_option maxRecDepth 65536 in
set_option maxHeartbeats 40000000 in
theorem rmCy (l : Launch) (Z : State) (a0 : Array Value) (hw : ∀ d ∈ tables_1, d.before a0 Z = true)  (c0 : Int32) (h0 : Heap) (O0 : Ext Z.heap h0) (q0 : ¬ c0 < 0) (q1 : ¬ (255 : Int32) < c0) :
    Ctr l Z (⟨"java/lang/StringLatin1", "canEncode", "(I)Z"⟩ : MethodName) jdk_43_method_4_code 1 (some .boolean) [] ({ frames := 0, cells := 0, slots := 0, locals := 0 } : Room) #[(.int c0)] h0 (fun v h L => v = some (.int 1) ∧ Fr Z.heap.size L ∧ h = h0) := by
  refine ctr (plainFor_of_name pn_0) ?_
  intro p e s m below meth c s₁ hx hby hml hown hnm hret hlocks hZ X0 e0
  have N0 := Fr.nil Z.heap.size
  have hsz : ∀ {Ls : Array Slot}, Ls.size = 1 → Ls.size = c.maxLocals := fun q => q.trans hml.symm
  refine goE (ef_rmCy m (c0)) ?_
  show Goes p e below _ (s₁.setTop (mkF m 0 #[.val (.int c0)] []))
  refine gIloadN X0 hx (hb hby d_jdk_43_method_4_0) rfl ?_
  refine gIfN X0 hx (hb hby d_jdk_43_method_4_1) (XT.i0_lt_f q0) ?_
  show Goes p e below _ (s₁.setTop (mkF m 4 #[.val (.int c0)] []))
  refine gIloadN X0 hx (hb hby d_jdk_43_method_4_4) rfl ?_
  refine gSipush X0 hx (hb hby d_jdk_43_method_4_5) (v := (255 : Int32)) rfl ?_
  refine gIcmpN X0 hx (hb hby d_jdk_43_method_4_8) (XT.ii_gt_f q1) ?_
  show Goes p e below _ (s₁.setTop (mkF m 11 #[.val (.int c0)] []))
  refine gIconst X0 hx (hb hby d_jdk_43_method_4_11) (v := (1 : Int32)) rfl ?_
  refine gGoto X0 hx (hb hby d_jdk_43_method_4_12) (pc' := 16) (by decide) (by decide) ?_
  show Goes p e below _ (s₁.setTop (mkF m 16 #[.val (.int c0)] [(.int (1 : Int32))]))
  exact goRetN X0 hx (t := .boolean) hret hlocks (by simp) (hb hby d_jdk_43_method_4_16) (z' := (1 : Int32)) rfl (by decide) (by decide) e0 (⟨rfl, N0, rfl⟩)
theorem d_jdk_43_method_4_15 : decode jdk_43_method_4_code 15 = .ok (.iconst 0, 1) := by decide +kernel
theorem ef_rmCn (m : MethodId) (x0 : Int32) : entryFrame m #[(.int x0)] 1 = mkF m 0 #[.val (.int x0)] [] := by first | (simp [entryFrame, mkF, argsToLocals, Value.category]; done) | rfl
set_option maxRecDepth 65536 in
set_option maxHeartbeats 40000000 in
theorem rmCn (l : Launch) (Z : State) (a0 : Array Value) (hw : ∀ d ∈ tables_1, d.before a0 Z = true)  (c0 : Int32) (h0 : Heap) (O0 : Ext Z.heap h0) (q0 : ¬ c0 < 0) (q1 : (255 : Int32) < c0) :
    Ctr l Z (⟨"java/lang/StringLatin1", "canEncode", "(I)Z"⟩ : MethodName) jdk_43_method_4_code 1 (some .boolean) [] ({ frames := 0, cells := 0, slots := 0, locals := 0 } : Room) #[(.int c0)] h0 (fun v h L => v = some (.int 0) ∧ Fr Z.heap.size L ∧ h = h0) := by
  refine ctr (plainFor_of_name pn_0) ?_
  intro p e s m below meth c s₁ hx hby hml hown hnm hret hlocks hZ X0 e0
  have N0 := Fr.nil Z.heap.size
  have hsz : ∀ {Ls : Array Slot}, Ls.size = 1 → Ls.size = c.maxLocals := fun q => q.trans hml.symm
  refine goE (ef_rmCn m (c0)) ?_
  show Goes p e below _ (s₁.setTop (mkF m 0 #[.val (.int c0)] []))
  refine gIloadN X0 hx (hb hby d_jdk_43_method_4_0) rfl ?_
  refine gIfN X0 hx (hb hby d_jdk_43_method_4_1) (XT.i0_lt_f q0) ?_
  show Goes p e below _ (s₁.setTop (mkF m 4 #[.val (.int c0)] []))
  refine gIloadN X0 hx (hb hby d_jdk_43_method_4_4) rfl ?_
  refine gSipush X0 hx (hb hby d_jdk_43_method_4_5) (v := (255 : Int32)) rfl ?_
  refine gIcmpY X0 hx (hb hby d_jdk_43_method_4_8) (pc' := 15) (XT.ii_gt_t q1) (by decide) (by decide) ?_
  show Goes p e below _ (s₁.setTop (mkF m 15 #[.val (.int c0)] []))
  refine gIconst X0 hx (hb hby d_jdk_43_method_4_15) (v := (0 : Int32)) rfl ?_
  exact goRetN X0 hx (t := .boolean) hret hlocks (by simp) (hb hby d_jdk_43_method_4_16) (z' := (0 : Int32)) rfl (by decide) (by decide) e0 (⟨rfl, N0, rfl⟩)
theorem d_jdk_43_method_23_0 : decode jdk_43_method_23_code 0 = .ok (.iload_n 1, 1) := by decide +kernel
theorem d_jdk_43_method_23_1 : decode jdk_43_method_23_code 1 = .ok (.i2b, 1) := by decide +kernel
theorem d_jdk_43_method_23_2 : decode jdk_43_method_23_code 2 = .ok (.istore 4, 2) := by decide +kernel
theorem d_jdk_43_method_23_4 : decode jdk_43_method_23_code 4 = .ok (.iload_n 2, 1) := by decide +kernel
theorem d_jdk_43_method_23_5 : decode jdk_43_method_23_code 5 = .ok (.istore 5, 2) := by decide +kernel
theorem d_jdk_43_method_23_7 : decode jdk_43_method_23_code 7 = .ok (.iload 5, 2) := by decide +kernel
theorem d_jdk_43_method_23_9 : decode jdk_43_method_23_code 9 = .ok (.iload_n 3, 1) := by decide +kernel
theorem d_jdk_43_method_23_10 : decode jdk_43_method_23_code 10 = .ok (.if_icmp .ge 21, 3) := by decide +kernel
theorem d_jdk_43_method_23_13 : decode jdk_43_method_23_code 13 = .ok (.aload_n 0, 1) := by decide +kernel
theorem d_jdk_43_method_23_14 : decode jdk_43_method_23_code 14 = .ok (.iload 5, 2) := by decide +kernel
theorem d_jdk_43_method_23_16 : decode jdk_43_method_23_code 16 = .ok (.baload, 1) := by decide +kernel
theorem d_jdk_43_method_23_17 : decode jdk_43_method_23_code 17 = .ok (.iload 4, 2) := by decide +kernel
theorem d_jdk_43_method_23_19 : decode jdk_43_method_23_code 19 = .ok (.if_icmp .ne 6, 3) := by decide +kernel
theorem d_jdk_43_method_23_22 : decode jdk_43_method_23_code 22 = .ok (.iload 5, 2) := by decide +kernel
theorem d_jdk_43_method_23_24 : decode jdk_43_method_23_code 24 = .ok (.ireturn, 1) := by decide +kernel
theorem d_jdk_43_method_23_25 : decode jdk_43_method_23_code 25 = .ok (.iinc 5 1, 3) := by decide +kernel
theorem d_jdk_43_method_23_28 : decode jdk_43_method_23_code 28 = .ok (.goto (-21), 3) := by decide +kernel
theorem d_jdk_43_method_23_31 : decode jdk_43_method_23_code 31 = .ok (.iconst (-1), 1) := by decide +kernel
theorem d_jdk_43_method_23_32 : decode jdk_43_method_23_code 32 = .ok (.ireturn, 1) := by decide +kernel
theorem ef_rmIc (m : MethodId) (x0 : Addr) (x1 : Int32) (x2 : Int32) (x3 : Int32) : entryFrame m #[(.ref x0), (.int x1), (.int x2), (.int x3)] 6 = mkF m 0 #[.val (.ref x0), .val (.int x1), .val (.int x2), .val (.int x3), .unset, .unset] [] := by first | (simp [entryFrame, mkF, argsToLocals, Value.category]; done) | rfl
set_option maxRecDepth 65536 in
set_option maxHeartbeats 40000000 in
theorem rmIc (l : Launch) (Z : State) (a0 : Array Value) (hw : ∀ d ∈ tables_1, d.before a0 Z = true)  (a1 : Addr) (c0 : Int32) (h0 : Heap) (O0 : Ext Z.heap h0) (Y1 : Ary Z h0 a1 .byte [(.int (33 : Int32)), (.int (35 : Int32)), (.int (36 : Int32)), (.int (37 : Int32)), (.int (38 : Int32)), (.int (39 : Int32)), (.int (42 : Int32)), (.int (43 : Int32)), (.int (45 : Int32)), (.int (46 : Int32)), (.int (94 : Int32)), (.int (95 : Int32)), (.int (96 : Int32)), (.int (124 : Int32)), (.int (126 : Int32))]) :
    Ctr l Z (⟨"java/lang/StringLatin1", "indexOfChar", "([BIII)I"⟩ : MethodName) jdk_43_method_23_code 6 (some .int) [] ({ frames := 0, cells := 0, slots := 0, locals := 0 } : Room) #[(.ref a1), (.int c0), (.int (0 : Int32)), (.int (15 : Int32))] h0 (fun v h L => ∃ r : Int32, v = some (.int r) ∧ Fr Z.heap.size L ∧ h = h0 ∧ ((¬ r < 0 ∧ own_tk (c0.toInt8.toInt32)) ∨ (r < 0 ∧ ¬ own_tk (c0.toInt8.toInt32)))) := by
  refine ctr (plainFor_of_name pn_0) ?_
  intro p e s m below meth c s₁ hx hby hml hown hnm hret hlocks hZ X0 e0
  have N0 := Fr.nil Z.heap.size
  have hsz : ∀ {Ls : Array Slot}, Ls.size = 6 → Ls.size = c.maxLocals := fun q => q.trans hml.symm
  refine goE (ef_rmIc m (a1) (c0) ((0 : Int32)) ((15 : Int32))) ?_
  show Goes p e below _ (s₁.setTop (mkF m 0 #[.val (.ref a1), .val (.int c0), .val (.int (0 : Int32)), .val (.int (15 : Int32)), .unset, .unset] []))
  refine gIloadN X0 hx (hb hby d_jdk_43_method_23_0) rfl ?_
  refine gI2b X0 hx (hb hby d_jdk_43_method_23_1) ?_
  refine gIstore X0 hx (hb hby d_jdk_43_method_23_2) (l' := #[.val (.ref a1), .val (.int c0), .val (.int (0 : Int32)), .val (.int (15 : Int32)), .val (.int (c0.toInt8.toInt32)), .unset]) rfl ?_
  refine gIloadN X0 hx (hb hby d_jdk_43_method_23_4) rfl ?_
  refine gIstore X0 hx (hb hby d_jdk_43_method_23_5) (l' := #[.val (.ref a1), .val (.int c0), .val (.int (0 : Int32)), .val (.int (15 : Int32)), .val (.int (c0.toInt8.toInt32)), .val (.int (0 : Int32))]) rfl ?_
  refine gIload X0 hx (hb hby d_jdk_43_method_23_7) rfl ?_
  refine gIloadN X0 hx (hb hby d_jdk_43_method_23_9) rfl ?_
  show Goes p e below _ (s₁.setTop (mkF m 10 #[.val (.ref a1), .val (.int c0), .val (.int (0 : Int32)), .val (.int (15 : Int32)), .val (.int (c0.toInt8.toInt32)), .val (.int (0 : Int32))] [(.int (15 : Int32)), (.int (0 : Int32))]))
  refine gIcmpN X0 hx (hb hby d_jdk_43_method_23_10) (XT.ii_ge_f (by decide)) ?_
  show Goes p e below _ (s₁.setTop (mkF m 13 #[.val (.ref a1), .val (.int c0), .val (.int (0 : Int32)), .val (.int (15 : Int32)), .val (.int (c0.toInt8.toInt32)), .val (.int (0 : Int32))] []))
  refine gAloadN X0 hx (hb hby d_jdk_43_method_23_13) rfl rfl ?_
  refine gIload X0 hx (hb hby d_jdk_43_method_23_14) rfl ?_
  refine goBaload X0 hx hZ e0 Y1 (x := (33 : Int32)) (hb hby d_jdk_43_method_23_16) (by decide) rfl ?_
  refine gIload X0 hx (hb hby d_jdk_43_method_23_17) rfl ?_
  by_cases g0 : (33 : Int32) = (c0.toInt8.toInt32)
  · refine gIcmpN X0 hx (hb hby d_jdk_43_method_23_19) (XT.ii_ne_f g0) ?_
    show Goes p e below _ (s₁.setTop (mkF m 22 #[.val (.ref a1), .val (.int c0), .val (.int (0 : Int32)), .val (.int (15 : Int32)), .val (.int (c0.toInt8.toInt32)), .val (.int (0 : Int32))] []))
    refine gIload X0 hx (hb hby d_jdk_43_method_23_22) rfl ?_
    exact goRetI X0 hx hret hlocks (hb hby d_jdk_43_method_23_24) (by decide) (by decide) e0 (⟨_, rfl, N0, rfl, Or.inl ⟨by decide, by rw [← g0]; decide⟩⟩)
  · refine gIcmpY X0 hx (hb hby d_jdk_43_method_23_19) (pc' := 25) (XT.ii_ne_t g0) (by decide) (by decide) ?_
    show Goes p e below _ (s₁.setTop (mkF m 25 #[.val (.ref a1), .val (.int c0), .val (.int (0 : Int32)), .val (.int (15 : Int32)), .val (.int (c0.toInt8.toInt32)), .val (.int (0 : Int32))] []))
    refine gIinc X0 hx (hb hby d_jdk_43_method_23_25) (v := (1 : Int32)) rfl rfl (l' := #[.val (.ref a1), .val (.int c0), .val (.int (0 : Int32)), .val (.int (15 : Int32)), .val (.int (c0.toInt8.toInt32)), .val (.int (1 : Int32))]) rfl ?_
    refine gGoto X0 hx (hb hby d_jdk_43_method_23_28) (pc' := 7) (by decide) (by decide) ?_
    show Goes p e below _ (s₁.setTop (mkF m 7 #[.val (.ref a1), .val (.int c0), .val (.int (0 : Int32)), .val (.int (15 : Int32)), .val (.int (c0.toInt8.toInt32)), .val (.int (1 : Int32))] []))
    refine gIload X0 hx (hb hby d_jdk_43_method_23_7) rfl ?_
    refine gIloadN X0 hx (hb hby d_jdk_43_method_23_9) rfl ?_
    refine gIcmpN X0 hx (hb hby d_jdk_43_method_23_10) (XT.ii_ge_f (by decide)) ?_
    show Goes p e below _ (s₁.setTop (mkF m 13 #[.val (.ref a1), .val (.int c0), .val (.int (0 : Int32)), .val (.int (15 : Int32)), .val (.int (c0.toInt8.toInt32)), .val (.int (1 : Int32))] []))
    refine gAloadN X0 hx (hb hby d_jdk_43_method_23_13) rfl rfl ?_
    refine gIload X0 hx (hb hby d_jdk_43_method_23_14) rfl ?_
    refine goBaload X0 hx hZ e0 Y1 (x := (35 : Int32)) (hb hby d_jdk_43_method_23_16) (by decide) rfl ?_
    refine gIload X0 hx (hb hby d_jdk_43_method_23_17) rfl ?_
    by_cases g1 : (35 : Int32) = (c0.toInt8.toInt32)
    · refine gIcmpN X0 hx (hb hby d_jdk_43_method_23_19) (XT.ii_ne_f g1) ?_
      show Goes p e below _ (s₁.setTop (mkF m 22 #[.val (.ref a1), .val (.int c0), .val (.int (0 : Int32)), .val (.int (15 : Int32)), .val (.int (c0.toInt8.toInt32)), .val (.int (1 : Int32))] []))
      refine gIload X0 hx (hb hby d_jdk_43_method_23_22) rfl ?_
      exact goRetI X0 hx hret hlocks (hb hby d_jdk_43_method_23_24) (by decide) (by decide) e0 (⟨_, rfl, N0, rfl, Or.inl ⟨by decide, by rw [← g1]; decide⟩⟩)
    · refine gIcmpY X0 hx (hb hby d_jdk_43_method_23_19) (pc' := 25) (XT.ii_ne_t g1) (by decide) (by decide) ?_
      show Goes p e below _ (s₁.setTop (mkF m 25 #[.val (.ref a1), .val (.int c0), .val (.int (0 : Int32)), .val (.int (15 : Int32)), .val (.int (c0.toInt8.toInt32)), .val (.int (1 : Int32))] []))
      refine gIinc X0 hx (hb hby d_jdk_43_method_23_25) (v := (2 : Int32)) rfl rfl (l' := #[.val (.ref a1), .val (.int c0), .val (.int (0 : Int32)), .val (.int (15 : Int32)), .val (.int (c0.toInt8.toInt32)), .val (.int (2 : Int32))]) rfl ?_
      refine gGoto X0 hx (hb hby d_jdk_43_method_23_28) (pc' := 7) (by decide) (by decide) ?_
      show Goes p e below _ (s₁.setTop (mkF m 7 #[.val (.ref a1), .val (.int c0), .val (.int (0 : Int32)), .val (.int (15 : Int32)), .val (.int (c0.toInt8.toInt32)), .val (.int (2 : Int32))] []))
      refine gIload X0 hx (hb hby d_jdk_43_method_23_7) rfl ?_
      refine gIloadN X0 hx (hb hby d_jdk_43_method_23_9) rfl ?_
      refine gIcmpN X0 hx (hb hby d_jdk_43_method_23_10) (XT.ii_ge_f (by decide)) ?_
      show Goes p e below _ (s₁.setTop (mkF m 13 #[.val (.ref a1), .val (.int c0), .val (.int (0 : Int32)), .val (.int (15 : Int32)), .val (.int (c0.toInt8.toInt32)), .val (.int (2 : Int32))] []))
      refine gAloadN X0 hx (hb hby d_jdk_43_method_23_13) rfl rfl ?_
      refine gIload X0 hx (hb hby d_jdk_43_method_23_14) rfl ?_
      refine goBaload X0 hx hZ e0 Y1 (x := (36 : Int32)) (hb hby d_jdk_43_method_23_16) (by decide) rfl ?_
      refine gIload X0 hx (hb hby d_jdk_43_method_23_17) rfl ?_
      by_cases g2 : (36 : Int32) = (c0.toInt8.toInt32)
      · refine gIcmpN X0 hx (hb hby d_jdk_43_method_23_19) (XT.ii_ne_f g2) ?_
        show Goes p e below _ (s₁.setTop (mkF m 22 #[.val (.ref a1), .val (.int c0), .val (.int (0 : Int32)), .val (.int (15 : Int32)), .val (.int (c0.toInt8.toInt32)), .val (.int (2 : Int32))] []))
        refine gIload X0 hx (hb hby d_jdk_43_method_23_22) rfl ?_
        exact goRetI X0 hx hret hlocks (hb hby d_jdk_43_method_23_24) (by decide) (by decide) e0 (⟨_, rfl, N0, rfl, Or.inl ⟨by decide, by rw [← g2]; decide⟩⟩)
      · refine gIcmpY X0 hx (hb hby d_jdk_43_method_23_19) (pc' := 25) (XT.ii_ne_t g2) (by decide) (by decide) ?_
        show Goes p e below _ (s₁.setTop (mkF m 25 #[.val (.ref a1), .val (.int c0), .val (.int (0 : Int32)), .val (.int (15 : Int32)), .val (.int (c0.toInt8.toInt32)), .val (.int (2 : Int32))] []))
        refine gIinc X0 hx (hb hby d_jdk_43_method_23_25) (v := (3 : Int32)) rfl rfl (l' := #[.val (.ref a1), .val (.int c0), .val (.int (0 : Int32)), .val (.int (15 : Int32)), .val (.int (c0.toInt8.toInt32)), .val (.int (3 : Int32))]) rfl ?_
        refine gGoto X0 hx (hb hby d_jdk_43_method_23_28) (pc' := 7) (by decide) (by decide) ?_
        show Goes p e below _ (s₁.setTop (mkF m 7 #[.val (.ref a1), .val (.int c0), .val (.int (0 : Int32)), .val (.int (15 : Int32)), .val (.int (c0.toInt8.toInt32)), .val (.int (3 : Int32))] []))
        refine gIload X0 hx (hb hby d_jdk_43_method_23_7) rfl ?_
        refine gIloadN X0 hx (hb hby d_jdk_43_method_23_9) rfl ?_
        refine gIcmpN X0 hx (hb hby d_jdk_43_method_23_10) (XT.ii_ge_f (by decide)) ?_
        show Goes p e below _ (s₁.setTop (mkF m 13 #[.val (.ref a1), .val (.int c0), .val (.int (0 : Int32)), .val (.int (15 : Int32)), .val (.int (c0.toInt8.toInt32)), .val (.int (3 : Int32))] []))
        refine gAloadN X0 hx (hb hby d_jdk_43_method_23_13) rfl rfl ?_
        refine gIload X0 hx (hb hby d_jdk_43_method_23_14) rfl ?_
        refine goBaload X0 hx hZ e0 Y1 (x := (37 : Int32)) (hb hby d_jdk_43_method_23_16) (by decide) rfl ?_
        refine gIload X0 hx (hb hby d_jdk_43_method_23_17) rfl ?_
        by_cases g3 : (37 : Int32) = (c0.toInt8.toInt32)
        · refine gIcmpN X0 hx (hb hby d_jdk_43_method_23_19) (XT.ii_ne_f g3) ?_
          show Goes p e below _ (s₁.setTop (mkF m 22 #[.val (.ref a1), .val (.int c0), .val (.int (0 : Int32)), .val (.int (15 : Int32)), .val (.int (c0.toInt8.toInt32)), .val (.int (3 : Int32))] []))
          refine gIload X0 hx (hb hby d_jdk_43_method_23_22) rfl ?_
          exact goRetI X0 hx hret hlocks (hb hby d_jdk_43_method_23_24) (by decide) (by decide) e0 (⟨_, rfl, N0, rfl, Or.inl ⟨by decide, by rw [← g3]; decide⟩⟩)
        · refine gIcmpY X0 hx (hb hby d_jdk_43_method_23_19) (pc' := 25) (XT.ii_ne_t g3) (by decide) (by decide) ?_
          show Goes p e below _ (s₁.setTop (mkF m 25 #[.val (.ref a1), .val (.int c0), .val (.int (0 : Int32)), .val (.int (15 : Int32)), .val (.int (c0.toInt8.toInt32)), .val (.int (3 : Int32))] []))
          refine gIinc X0 hx (hb hby d_jdk_43_method_23_25) (v := (4 : Int32)) rfl rfl (l' := #[.val (.ref a1), .val (.int c0), .val (.int (0 : Int32)), .val (.int (15 : Int32)), .val (.int (c0.toInt8.toInt32)), .val (.int (4 : Int32))]) rfl ?_
          refine gGoto X0 hx (hb hby d_jdk_43_method_23_28) (pc' := 7) (by decide) (by decide) ?_
          show Goes p e below _ (s₁.setTop (mkF m 7 #[.val (.ref a1), .val (.int c0), .val (.int (0 : Int32)), .val (.int (15 : Int32)), .val (.int (c0.toInt8.toInt32)), .val (.int (4 : Int32))] []))
          refine gIload X0 hx (hb hby d_jdk_43_method_23_7) rfl ?_
          refine gIloadN X0 hx (hb hby d_jdk_43_method_23_9) rfl ?_
          refine gIcmpN X0 hx (hb hby d_jdk_43_method_23_10) (XT.ii_ge_f (by decide)) ?_
          show Goes p e below _ (s₁.setTop (mkF m 13 #[.val (.ref a1), .val (.int c0), .val (.int (0 : Int32)), .val (.int (15 : Int32)), .val (.int (c0.toInt8.toInt32)), .val (.int (4 : Int32))] []))
          refine gAloadN X0 hx (hb hby d_jdk_43_method_23_13) rfl rfl ?_
          refine gIload X0 hx (hb hby d_jdk_43_method_23_14) rfl ?_
          refine goBaload X0 hx hZ e0 Y1 (x := (38 : Int32)) (hb hby d_jdk_43_method_23_16) (by decide) rfl ?_
          refine gIload X0 hx (hb hby d_jdk_43_method_23_17) rfl ?_
          by_cases g4 : (38 : Int32) = (c0.toInt8.toInt32)
          · refine gIcmpN X0 hx (hb hby d_jdk_43_method_23_19) (XT.ii_ne_f g4) ?_
            show Goes p e below _ (s₁.setTop (mkF m 22 #[.val (.ref a1), .val (.int c0), .val (.int (0 : Int32)), .val (.int (15 : Int32)), .val (.int (c0.toInt8.toInt32)), .val (.int (4 : Int32))] []))
            refine gIload X0 hx (hb hby d_jdk_43_method_23_22) rfl ?_
            exact goRetI X0 hx hret hlocks (hb hby d_jdk_43_method_23_24) (by decide) (by decide) e0 (⟨_, rfl, N0, rfl, Or.inl ⟨by decide, by rw [← g4]; decide⟩⟩)
          · refine gIcmpY X0 hx (hb hby d_jdk_43_method_23_19) (pc' := 25) (XT.ii_ne_t g4) (by decide) (by decide) ?_
            show Goes p e below _ (s₁.setTop (mkF m 25 #[.val (.ref a1), .val (.int c0), .val (.int (0 : Int32)), .val (.int (15 : Int32)), .val (.int (c0.toInt8.toInt32)), .val (.int (4 : Int32))] []))
            refine gIinc X0 hx (hb hby d_jdk_43_method_23_25) (v := (5 : Int32)) rfl rfl (l' := #[.val (.ref a1), .val (.int c0), .val (.int (0 : Int32)), .val (.int (15 : Int32)), .val (.int (c0.toInt8.toInt32)), .val (.int (5 : Int32))]) rfl ?_
            refine gGoto X0 hx (hb hby d_jdk_43_method_23_28) (pc' := 7) (by decide) (by decide) ?_
            show Goes p e below _ (s₁.setTop (mkF m 7 #[.val (.ref a1), .val (.int c0), .val (.int (0 : Int32)), .val (.int (15 : Int32)), .val (.int (c0.toInt8.toInt32)), .val (.int (5 : Int32))] []))
            refine gIload X0 hx (hb hby d_jdk_43_method_23_7) rfl ?_
            refine gIloadN X0 hx (hb hby d_jdk_43_method_23_9) rfl ?_
            refine gIcmpN X0 hx (hb hby d_jdk_43_method_23_10) (XT.ii_ge_f (by decide)) ?_
            show Goes p e below _ (s₁.setTop (mkF m 13 #[.val (.ref a1), .val (.int c0), .val (.int (0 : Int32)), .val (.int (15 : Int32)), .val (.int (c0.toInt8.toInt32)), .val (.int (5 : Int32))] []))
            refine gAloadN X0 hx (hb hby d_jdk_43_method_23_13) rfl rfl ?_
            refine gIload X0 hx (hb hby d_jdk_43_method_23_14) rfl ?_
            refine goBaload X0 hx hZ e0 Y1 (x := (39 : Int32)) (hb hby d_jdk_43_method_23_16) (by decide) rfl ?_
            refine gIload X0 hx (hb hby d_jdk_43_method_23_17) rfl ?_
            by_cases g5 : (39 : Int32) = (c0.toInt8.toInt32)
            · refine gIcmpN X0 hx (hb hby d_jdk_43_method_23_19) (XT.ii_ne_f g5) ?_
              show Goes p e below _ (s₁.setTop (mkF m 22 #[.val (.ref a1), .val (.int c0), .val (.int (0 : Int32)), .val (.int (15 : Int32)), .val (.int (c0.toInt8.toInt32)), .val (.int (5 : Int32))] []))
              refine gIload X0 hx (hb hby d_jdk_43_method_23_22) rfl ?_
              exact goRetI X0 hx hret hlocks (hb hby d_jdk_43_method_23_24) (by decide) (by decide) e0 (⟨_, rfl, N0, rfl, Or.inl ⟨by decide, by rw [← g5]; decide⟩⟩)
            · refine gIcmpY X0 hx (hb hby d_jdk_43_method_23_19) (pc' := 25) (XT.ii_ne_t g5) (by decide) (by decide) ?_
              show Goes p e below _ (s₁.setTop (mkF m 25 #[.val (.ref a1), .val (.int c0), .val (.int (0 : Int32)), .val (.int (15 : Int32)), .val (.int (c0.toInt8.toInt32)), .val (.int (5 : Int32))] []))
              refine gIinc X0 hx (hb hby d_jdk_43_method_23_25) (v := (6 : Int32)) rfl rfl (l' := #[.val (.ref a1), .val (.int c0), .val (.int (0 : Int32)), .val (.int (15 : Int32)), .val (.int (c0.toInt8.toInt32)), .val (.int (6 : Int32))]) rfl ?_
              refine gGoto X0 hx (hb hby d_jdk_43_method_23_28) (pc' := 7) (by decide) (by decide) ?_
              show Goes p e below _ (s₁.setTop (mkF m 7 #[.val (.ref a1), .val (.int c0), .val (.int (0 : Int32)), .val (.int (15 : Int32)), .val (.int (c0.toInt8.toInt32)), .val (.int (6 : Int32))] []))
              refine gIload X0 hx (hb hby d_jdk_43_method_23_7) rfl ?_
              refine gIloadN X0 hx (hb hby d_jdk_43_method_23_9) rfl ?_
              refine gIcmpN X0 hx (hb hby d_jdk_43_method_23_10) (XT.ii_ge_f (by decide)) ?_
              show Goes p e below _ (s₁.setTop (mkF m 13 #[.val (.ref a1), .val (.int c0), .val (.int (0 : Int32)), .val (.int (15 : Int32)), .val (.int (c0.toInt8.toInt32)), .val (.int (6 : Int32))] []))
              refine gAloadN X0 hx (hb hby d_jdk_43_method_23_13) rfl rfl ?_
              refine gIload X0 hx (hb hby d_jdk_43_method_23_14) rfl ?_
              refine goBaload X0 hx hZ e0 Y1 (x := (42 : Int32)) (hb hby d_jdk_43_method_23_16) (by decide) rfl ?_
              refine gIload X0 hx (hb hby d_jdk_43_method_23_17) rfl ?_
              by_cases g6 : (42 : Int32) = (c0.toInt8.toInt32)
              · refine gIcmpN X0 hx (hb hby d_jdk_43_method_23_19) (XT.ii_ne_f g6) ?_
                show Goes p e below _ (s₁.setTop (mkF m 22 #[.val (.ref a1), .val (.int c0), .val (.int (0 : Int32)), .val (.int (15 : Int32)), .val (.int (c0.toInt8.toInt32)), .val (.int (6 : Int32))] []))
                refine gIload X0 hx (hb hby d_jdk_43_method_23_22) rfl ?_
                exact goRetI X0 hx hret hlocks (hb hby d_jdk_43_method_23_24) (by decide) (by decide) e0 (⟨_, rfl, N0, rfl, Or.inl ⟨by decide, by rw [← g6]; decide⟩⟩)
              · refine gIcmpY X0 hx (hb hby d_jdk_43_method_23_19) (pc' := 25) (XT.ii_ne_t g6) (by decide) (by decide) ?_
                show Goes p e below _ (s₁.setTop (mkF m 25 #[.val (.ref a1), .val (.int c0), .val (.int (0 : Int32)), .val (.int (15 : Int32)), .val (.int (c0.toInt8.toInt32)), .val (.int (6 : Int32))] []))
                refine gIinc X0 hx (hb hby d_jdk_43_method_23_25) (v := (7 : Int32)) rfl rfl (l' := #[.val (.ref a1), .val (.int c0), .val (.int (0 : Int32)), .val (.int (15 : Int32)), .val (.int (c0.toInt8.toInt32)), .val (.int (7 : Int32))]) rfl ?_
                refine gGoto X0 hx (hb hby d_jdk_43_method_23_28) (pc' := 7) (by decide) (by decide) ?_
                show Goes p e below _ (s₁.setTop (mkF m 7 #[.val (.ref a1), .val (.int c0), .val (.int (0 : Int32)), .val (.int (15 : Int32)), .val (.int (c0.toInt8.toInt32)), .val (.int (7 : Int32))] []))
                refine gIload X0 hx (hb hby d_jdk_43_method_23_7) rfl ?_
                refine gIloadN X0 hx (hb hby d_jdk_43_method_23_9) rfl ?_
                refine gIcmpN X0 hx (hb hby d_jdk_43_method_23_10) (XT.ii_ge_f (by decide)) ?_
                show Goes p e below _ (s₁.setTop (mkF m 13 #[.val (.ref a1), .val (.int c0), .val (.int (0 : Int32)), .val (.int (15 : Int32)), .val (.int (c0.toInt8.toInt32)), .val (.int (7 : Int32))] []))
                refine gAloadN X0 hx (hb hby d_jdk_43_method_23_13) rfl rfl ?_
                refine gIload X0 hx (hb hby d_jdk_43_method_23_14) rfl ?_
                refine goBaload X0 hx hZ e0 Y1 (x := (43 : Int32)) (hb hby d_jdk_43_method_23_16) (by decide) rfl ?_
                refine gIload X0 hx (hb hby d_jdk_43_method_23_17) rfl ?_
                by_cases g7 : (43 : Int32) = (c0.toInt8.toInt32)
                · refine gIcmpN X0 hx (hb hby d_jdk_43_method_23_19) (XT.ii_ne_f g7) ?_
                  show Goes p e below _ (s₁.setTop (mkF m 22 #[.val (.ref a1), .val (.int c0), .val (.int (0 : Int32)), .val (.int (15 : Int32)), .val (.int (c0.toInt8.toInt32)), .val (.int (7 : Int32))] []))
                  refine gIload X0 hx (hb hby d_jdk_43_method_23_22) rfl ?_
                  exact goRetI X0 hx hret hlocks (hb hby d_jdk_43_method_23_24) (by decide) (by decide) e0 (⟨_, rfl, N0, rfl, Or.inl ⟨by decide, by rw [← g7]; decide⟩⟩)
                · refine gIcmpY X0 hx (hb hby d_jdk_43_method_23_19) (pc' := 25) (XT.ii_ne_t g7) (by decide) (by decide) ?_
                  show Goes p e below _ (s₁.setTop (mkF m 25 #[.val (.ref a1), .val (.int c0), .val (.int (0 : Int32)), .val (.int (15 : Int32)), .val (.int (c0.toInt8.toInt32)), .val (.int (7 : Int32))] []))
                  refine gIinc X0 hx (hb hby d_jdk_43_method_23_25) (v := (8 : Int32)) rfl rfl (l' := #[.val (.ref a1), .val (.int c0), .val (.int (0 : Int32)), .val (.int (15 : Int32)), .val (.int (c0.toInt8.toInt32)), .val (.int (8 : Int32))]) rfl ?_
                  refine gGoto X0 hx (hb hby d_jdk_43_method_23_28) (pc' := 7) (by decide) (by decide) ?_
                  show Goes p e below _ (s₁.setTop (mkF m 7 #[.val (.ref a1), .val (.int c0), .val (.int (0 : Int32)), .val (.int (15 : Int32)), .val (.int (c0.toInt8.toInt32)), .val (.int (8 : Int32))] []))
                  refine gIload X0 hx (hb hby d_jdk_43_method_23_7) rfl ?_
                  refine gIloadN X0 hx (hb hby d_jdk_43_method_23_9) rfl ?_
                  refine gIcmpN X0 hx (hb hby d_jdk_43_method_23_10) (XT.ii_ge_f (by decide)) ?_
                  show Goes p e below _ (s₁.setTop (mkF m 13 #[.val (.ref a1), .val (.int c0), .val (.int (0 : Int32)), .val (.int (15 : Int32)), .val (.int (c0.toInt8.toInt32)), .val (.int (8 : Int32))] []))
                  refine gAloadN X0 hx (hb hby d_jdk_43_method_23_13) rfl rfl ?_
                  refine gIload X0 hx (hb hby d_jdk_43_method_23_14) rfl ?_
                  refine goBaload X0 hx hZ e0 Y1 (x := (45 : Int32)) (hb hby d_jdk_43_method_23_16) (by decide) rfl ?_
                  refine gIload X0 hx (hb hby d_jdk_43_method_23_17) rfl ?_
                  by_cases g8 : (45 : Int32) = (c0.toInt8.toInt32)
                  · refine gIcmpN X0 hx (hb hby d_jdk_43_method_23_19) (XT.ii_ne_f g8) ?_
                    show Goes p e below _ (s₁.setTop (mkF m 22 #[.val (.ref a1), .val (.int c0), .val (.int (0 : Int32)), .val (.int (15 : Int32)), .val (.int (c0.toInt8.toInt32)), .val (.int (8 : Int32))] []))
                    refine gIload X0 hx (hb hby d_jdk_43_method_23_22) rfl ?_
                    exact goRetI X0 hx hret hlocks (hb hby d_jdk_43_method_23_24) (by decide) (by decide) e0 (⟨_, rfl, N0, rfl, Or.inl ⟨by decide, by rw [← g8]; decide⟩⟩)
                  · refine gIcmpY X0 hx (hb hby d_jdk_43_method_23_19) (pc' := 25) (XT.ii_ne_t g8) (by decide) (by decide) ?_
                    show Goes p e below _ (s₁.setTop (mkF m 25 #[.val (.ref a1), .val (.int c0), .val (.int (0 : Int32)), .val (.int (15 : Int32)), .val (.int (c0.toInt8.toInt32)), .val (.int (8 : Int32))] []))
                    refine gIinc X0 hx (hb hby d_jdk_43_method_23_25) (v := (9 : Int32)) rfl rfl (l' := #[.val (.ref a1), .val (.int c0), .val (.int (0 : Int32)), .val (.int (15 : Int32)), .val (.int (c0.toInt8.toInt32)), .val (.int (9 : Int32))]) rfl ?_
                    refine gGoto X0 hx (hb hby d_jdk_43_method_23_28) (pc' := 7) (by decide) (by decide) ?_
                    show Goes p e below _ (s₁.setTop (mkF m 7 #[.val (.ref a1), .val (.int c0), .val (.int (0 : Int32)), .val (.int (15 : Int32)), .val (.int (c0.toInt8.toInt32)), .val (.int (9 : Int32))] []))
                    refine gIload X0 hx (hb hby d_jdk_43_method_23_7) rfl ?_
                    refine gIloadN X0 hx (hb hby d_jdk_43_method_23_9) rfl ?_
                    refine gIcmpN X0 hx (hb hby d_jdk_43_method_23_10) (XT.ii_ge_f (by decide)) ?_
                    show Goes p e below _ (s₁.setTop (mkF m 13 #[.val (.ref a1), .val (.int c0), .val (.int (0 : Int32)), .val (.int (15 : Int32)), .val (.int (c0.toInt8.toInt32)), .val (.int (9 : Int32))] []))
                    refine gAloadN X0 hx (hb hby d_jdk_43_method_23_13) rfl rfl ?_
                    refine gIload X0 hx (hb hby d_jdk_43_method_23_14) rfl ?_
                    refine goBaload X0 hx hZ e0 Y1 (x := (46 : Int32)) (hb hby d_jdk_43_method_23_16) (by decide) rfl ?_
                    refine gIload X0 hx (hb hby d_jdk_43_method_23_17) rfl ?_
                    by_cases g9 : (46 : Int32) = (c0.toInt8.toInt32)
                    · refine gIcmpN X0 hx (hb hby d_jdk_43_method_23_19) (XT.ii_ne_f g9) ?_
                      show Goes p e below _ (s₁.setTop (mkF m 22 #[.val (.ref a1), .val (.int c0), .val (.int (0 : Int32)), .val (.int (15 : Int32)), .val (.int (c0.toInt8.toInt32)), .val (.int (9 : Int32))] []))
                      refine gIload X0 hx (hb hby d_jdk_43_method_23_22) rfl ?_
                      exact goRetI X0 hx hret hlocks (hb hby d_jdk_43_method_23_24) (by decide) (by decide) e0 (⟨_, rfl, N0, rfl, Or.inl ⟨by decide, by rw [← g9]; decide⟩⟩)
                    · refine gIcmpY X0 hx (hb hby d_jdk_43_method_23_19) (pc' := 25) (XT.ii_ne_t g9) (by decide) (by decide) ?_
                      show Goes p e below _ (s₁.setTop (mkF m 25 #[.val (.ref a1), .val (.int c0), .val (.int (0 : Int32)), .val (.int (15 : Int32)), .val (.int (c0.toInt8.toInt32)), .val (.int (9 : Int32))] []))
                      refine gIinc X0 hx (hb hby d_jdk_43_method_23_25) (v := (10 : Int32)) rfl rfl (l' := #[.val (.ref a1), .val (.int c0), .val (.int (0 : Int32)), .val (.int (15 : Int32)), .val (.int (c0.toInt8.toInt32)), .val (.int (10 : Int32))]) rfl ?_
                      refine gGoto X0 hx (hb hby d_jdk_43_method_23_28) (pc' := 7) (by decide) (by decide) ?_
                      show Goes p e below _ (s₁.setTop (mkF m 7 #[.val (.ref a1), .val (.int c0), .val (.int (0 : Int32)), .val (.int (15 : Int32)), .val (.int (c0.toInt8.toInt32)), .val (.int (10 : Int32))] []))
                      refine gIload X0 hx (hb hby d_jdk_43_method_23_7) rfl ?_
                      refine gIloadN X0 hx (hb hby d_jdk_43_method_23_9) rfl ?_
                      refine gIcmpN X0 hx (hb hby d_jdk_43_method_23_10) (XT.ii_ge_f (by decide)) ?_
                      show Goes p e below _ (s₁.setTop (mkF m 13 #[.val (.ref a1), .val (.int c0), .val (.int (0 : Int32)), .val (.int (15 : Int32)), .val (.int (c0.toInt8.toInt32)), .val (.int (10 : Int32))] []))
                      refine gAloadN X0 hx (hb hby d_jdk_43_method_23_13) rfl rfl ?_
                      refine gIload X0 hx (hb hby d_jdk_43_method_23_14) rfl ?_
                      refine goBaload X0 hx hZ e0 Y1 (x := (94 : Int32)) (hb hby d_jdk_43_method_23_16) (by decide) rfl ?_
                      refine gIload X0 hx (hb hby d_jdk_43_method_23_17) rfl ?_
                      by_cases g10 : (94 : Int32) = (c0.toInt8.toInt32)
                      · refine gIcmpN X0 hx (hb hby d_jdk_43_method_23_19) (XT.ii_ne_f g10) ?_
                        show Goes p e below _ (s₁.setTop (mkF m 22 #[.val (.ref a1), .val (.int c0), .val (.int (0 : Int32)), .val (.int (15 : Int32)), .val (.int (c0.toInt8.toInt32)), .val (.int (10 : Int32))] []))
                        refine gIload X0 hx (hb hby d_jdk_43_method_23_22) rfl ?_
                        exact goRetI X0 hx hret hlocks (hb hby d_jdk_43_method_23_24) (by decide) (by decide) e0 (⟨_, rfl, N0, rfl, Or.inl ⟨by decide, by rw [← g10]; decide⟩⟩)
                      · refine gIcmpY X0 hx (hb hby d_jdk_43_method_23_19) (pc' := 25) (XT.ii_ne_t g10) (by decide) (by decide) ?_
                        show Goes p e below _ (s₁.setTop (mkF m 25 #[.val (.ref a1), .val (.int c0), .val (.int (0 : Int32)), .val (.int (15 : Int32)), .val (.int (c0.toInt8.toInt32)), .val (.int (10 : Int32))] []))
                        refine gIinc X0 hx (hb hby d_jdk_43_method_23_25) (v := (11 : Int32)) rfl rfl (l' := #[.val (.ref a1), .val (.int c0), .val (.int (0 : Int32)), .val (.int (15 : Int32)), .val (.int (c0.toInt8.toInt32)), .val (.int (11 : Int32))]) rfl ?_
                        refine gGoto X0 hx (hb hby d_jdk_43_method_23_28) (pc' := 7) (by decide) (by decide) ?_
                        show Goes p e below _ (s₁.setTop (mkF m 7 #[.val (.ref a1), .val (.int c0), .val (.int (0 : Int32)), .val (.int (15 : Int32)), .val (.int (c0.toInt8.toInt32)), .val (.int (11 : Int32))] []))
                        refine gIload X0 hx (hb hby d_jdk_43_method_23_7) rfl ?_
                        refine gIloadN X0 hx (hb hby d_jdk_43_method_23_9) rfl ?_
                        refine gIcmpN X0 hx (hb hby d_jdk_43_method_23_10) (XT.ii_ge_f (by decide)) ?_
                        show Goes p e below _ (s₁.setTop (mkF m 13 #[.val (.ref a1), .val (.int c0), .val (.int (0 : Int32)), .val (.int (15 : Int32)), .val (.int (c0.toInt8.toInt32)), .val (.int (11 : Int32))] []))
                        refine gAloadN X0 hx (hb hby d_jdk_43_method_23_13) rfl rfl ?_
                        refine gIload X0 hx (hb hby d_jdk_43_method_23_14) rfl ?_
                        refine goBaload X0 hx hZ e0 Y1 (x := (95 : Int32)) (hb hby d_jdk_43_method_23_16) (by decide) rfl ?_
                        refine gIload X0 hx (hb hby d_jdk_43_method_23_17) rfl ?_
                        by_cases g11 : (95 : Int32) = (c0.toInt8.toInt32)
                        · refine gIcmpN X0 hx (hb hby d_jdk_43_method_23_19) (XT.ii_ne_f g11) ?_
                          show Goes p e below _ (s₁.setTop (mkF m 22 #[.val (.ref a1), .val (.int c0), .val (.int (0 : Int32)), .val (.int (15 : Int32)), .val (.int (c0.toInt8.toInt32)), .val (.int (11 : Int32))] []))
                          refine gIload X0 hx (hb hby d_jdk_43_method_23_22) rfl ?_
                          exact goRetI X0 hx hret hlocks (hb hby d_jdk_43_method_23_24) (by decide) (by decide) e0 (⟨_, rfl, N0, rfl, Or.inl ⟨by decide, by rw [← g11]; decide⟩⟩)
                        · refine gIcmpY X0 hx (hb hby d_jdk_43_method_23_19) (pc' := 25) (XT.ii_ne_t g11) (by decide) (by decide) ?_
                          show Goes p e below _ (s₁.setTop (mkF m 25 #[.val (.ref a1), .val (.int c0), .val (.int (0 : Int32)), .val (.int (15 : Int32)), .val (.int (c0.toInt8.toInt32)), .val (.int (11 : Int32))] []))
                          refine gIinc X0 hx (hb hby d_jdk_43_method_23_25) (v := (12 : Int32)) rfl rfl (l' := #[.val (.ref a1), .val (.int c0), .val (.int (0 : Int32)), .val (.int (15 : Int32)), .val (.int (c0.toInt8.toInt32)), .val (.int (12 : Int32))]) rfl ?_
                          refine gGoto X0 hx (hb hby d_jdk_43_method_23_28) (pc' := 7) (by decide) (by decide) ?_
                          show Goes p e below _ (s₁.setTop (mkF m 7 #[.val (.ref a1), .val (.int c0), .val (.int (0 : Int32)), .val (.int (15 : Int32)), .val (.int (c0.toInt8.toInt32)), .val (.int (12 : Int32))] []))
                          refine gIload X0 hx (hb hby d_jdk_43_method_23_7) rfl ?_
                          refine gIloadN X0 hx (hb hby d_jdk_43_method_23_9) rfl ?_
                          refine gIcmpN X0 hx (hb hby d_jdk_43_method_23_10) (XT.ii_ge_f (by decide)) ?_
                          show Goes p e below _ (s₁.setTop (mkF m 13 #[.val (.ref a1), .val (.int c0), .val (.int (0 : Int32)), .val (.int (15 : Int32)), .val (.int (c0.toInt8.toInt32)), .val (.int (12 : Int32))] []))
                          refine gAloadN X0 hx (hb hby d_jdk_43_method_23_13) rfl rfl ?_
                          refine gIload X0 hx (hb hby d_jdk_43_method_23_14) rfl ?_
                          refine goBaload X0 hx hZ e0 Y1 (x := (96 : Int32)) (hb hby d_jdk_43_method_23_16) (by decide) rfl ?_
                          refine gIload X0 hx (hb hby d_jdk_43_method_23_17) rfl ?_
                          by_cases g12 : (96 : Int32) = (c0.toInt8.toInt32)
                          · refine gIcmpN X0 hx (hb hby d_jdk_43_method_23_19) (XT.ii_ne_f g12) ?_
                            show Goes p e below _ (s₁.setTop (mkF m 22 #[.val (.ref a1), .val (.int c0), .val (.int (0 : Int32)), .val (.int (15 : Int32)), .val (.int (c0.toInt8.toInt32)), .val (.int (12 : Int32))] []))
                            refine gIload X0 hx (hb hby d_jdk_43_method_23_22) rfl ?_
                            exact goRetI X0 hx hret hlocks (hb hby d_jdk_43_method_23_24) (by decide) (by decide) e0 (⟨_, rfl, N0, rfl, Or.inl ⟨by decide, by rw [← g12]; decide⟩⟩)
                          · refine gIcmpY X0 hx (hb hby d_jdk_43_method_23_19) (pc' := 25) (XT.ii_ne_t g12) (by decide) (by decide) ?_
                            show Goes p e below _ (s₁.setTop (mkF m 25 #[.val (.ref a1), .val (.int c0), .val (.int (0 : Int32)), .val (.int (15 : Int32)), .val (.int (c0.toInt8.toInt32)), .val (.int (12 : Int32))] []))
                            refine gIinc X0 hx (hb hby d_jdk_43_method_23_25) (v := (13 : Int32)) rfl rfl (l' := #[.val (.ref a1), .val (.int c0), .val (.int (0 : Int32)), .val (.int (15 : Int32)), .val (.int (c0.toInt8.toInt32)), .val (.int (13 : Int32))]) rfl ?_
                            refine gGoto X0 hx (hb hby d_jdk_43_method_23_28) (pc' := 7) (by decide) (by decide) ?_
                            show Goes p e below _ (s₁.setTop (mkF m 7 #[.val (.ref a1), .val (.int c0), .val (.int (0 : Int32)), .val (.int (15 : Int32)), .val (.int (c0.toInt8.toInt32)), .val (.int (13 : Int32))] []))
                            refine gIload X0 hx (hb hby d_jdk_43_method_23_7) rfl ?_
                            refine gIloadN X0 hx (hb hby d_jdk_43_method_23_9) rfl ?_
                            refine gIcmpN X0 hx (hb hby d_jdk_43_method_23_10) (XT.ii_ge_f (by decide)) ?_
                            show Goes p e below _ (s₁.setTop (mkF m 13 #[.val (.ref a1), .val (.int c0), .val (.int (0 : Int32)), .val (.int (15 : Int32)), .val (.int (c0.toInt8.toInt32)), .val (.int (13 : Int32))] []))
                            refine gAloadN X0 hx (hb hby d_jdk_43_method_23_13) rfl rfl ?_
                            refine gIload X0 hx (hb hby d_jdk_43_method_23_14) rfl ?_
                            refine goBaload X0 hx hZ e0 Y1 (x := (124 : Int32)) (hb hby d_jdk_43_method_23_16) (by decide) rfl ?_
                            refine gIload X0 hx (hb hby d_jdk_43_method_23_17) rfl ?_
                            by_cases g13 : (124 : Int32) = (c0.toInt8.toInt32)
                            · refine gIcmpN X0 hx (hb hby d_jdk_43_method_23_19) (XT.ii_ne_f g13) ?_
                              show Goes p e below _ (s₁.setTop (mkF m 22 #[.val (.ref a1), .val (.int c0), .val (.int (0 : Int32)), .val (.int (15 : Int32)), .val (.int (c0.toInt8.toInt32)), .val (.int (13 : Int32))] []))
                              refine gIload X0 hx (hb hby d_jdk_43_method_23_22) rfl ?_
                              exact goRetI X0 hx hret hlocks (hb hby d_jdk_43_method_23_24) (by decide) (by decide) e0 (⟨_, rfl, N0, rfl, Or.inl ⟨by decide, by rw [← g13]; decide⟩⟩)
                            · refine gIcmpY X0 hx (hb hby d_jdk_43_method_23_19) (pc' := 25) (XT.ii_ne_t g13) (by decide) (by decide) ?_
                              show Goes p e below _ (s₁.setTop (mkF m 25 #[.val (.ref a1), .val (.int c0), .val (.int (0 : Int32)), .val (.int (15 : Int32)), .val (.int (c0.toInt8.toInt32)), .val (.int (13 : Int32))] []))
                              refine gIinc X0 hx (hb hby d_jdk_43_method_23_25) (v := (14 : Int32)) rfl rfl (l' := #[.val (.ref a1), .val (.int c0), .val (.int (0 : Int32)), .val (.int (15 : Int32)), .val (.int (c0.toInt8.toInt32)), .val (.int (14 : Int32))]) rfl ?_
                              refine gGoto X0 hx (hb hby d_jdk_43_method_23_28) (pc' := 7) (by decide) (by decide) ?_
                              show Goes p e below _ (s₁.setTop (mkF m 7 #[.val (.ref a1), .val (.int c0), .val (.int (0 : Int32)), .val (.int (15 : Int32)), .val (.int (c0.toInt8.toInt32)), .val (.int (14 : Int32))] []))
                              refine gIload X0 hx (hb hby d_jdk_43_method_23_7) rfl ?_
                              refine gIloadN X0 hx (hb hby d_jdk_43_method_23_9) rfl ?_
                              refine gIcmpN X0 hx (hb hby d_jdk_43_method_23_10) (XT.ii_ge_f (by decide)) ?_
                              show Goes p e below _ (s₁.setTop (mkF m 13 #[.val (.ref a1), .val (.int c0), .val (.int (0 : Int32)), .val (.int (15 : Int32)), .val (.int (c0.toInt8.toInt32)), .val (.int (14 : Int32))] []))
                              refine gAloadN X0 hx (hb hby d_jdk_43_method_23_13) rfl rfl ?_
                              refine gIload X0 hx (hb hby d_jdk_43_method_23_14) rfl ?_
                              refine goBaload X0 hx hZ e0 Y1 (x := (126 : Int32)) (hb hby d_jdk_43_method_23_16) (by decide) rfl ?_
                              refine gIload X0 hx (hb hby d_jdk_43_method_23_17) rfl ?_
                              by_cases g14 : (126 : Int32) = (c0.toInt8.toInt32)
                              · refine gIcmpN X0 hx (hb hby d_jdk_43_method_23_19) (XT.ii_ne_f g14) ?_
                                show Goes p e below _ (s₁.setTop (mkF m 22 #[.val (.ref a1), .val (.int c0), .val (.int (0 : Int32)), .val (.int (15 : Int32)), .val (.int (c0.toInt8.toInt32)), .val (.int (14 : Int32))] []))
                                refine gIload X0 hx (hb hby d_jdk_43_method_23_22) rfl ?_
                                exact goRetI X0 hx hret hlocks (hb hby d_jdk_43_method_23_24) (by decide) (by decide) e0 (⟨_, rfl, N0, rfl, Or.inl ⟨by decide, by rw [← g14]; decide⟩⟩)
                              · refine gIcmpY X0 hx (hb hby d_jdk_43_method_23_19) (pc' := 25) (XT.ii_ne_t g14) (by decide) (by decide) ?_
                                show Goes p e below _ (s₁.setTop (mkF m 25 #[.val (.ref a1), .val (.int c0), .val (.int (0 : Int32)), .val (.int (15 : Int32)), .val (.int (c0.toInt8.toInt32)), .val (.int (14 : Int32))] []))
                                refine gIinc X0 hx (hb hby d_jdk_43_method_23_25) (v := (15 : Int32)) rfl rfl (l' := #[.val (.ref a1), .val (.int c0), .val (.int (0 : Int32)), .val (.int (15 : Int32)), .val (.int (c0.toInt8.toInt32)), .val (.int (15 : Int32))]) rfl ?_
                                refine gGoto X0 hx (hb hby d_jdk_43_method_23_28) (pc' := 7) (by decide) (by decide) ?_
                                show Goes p e below _ (s₁.setTop (mkF m 7 #[.val (.ref a1), .val (.int c0), .val (.int (0 : Int32)), .val (.int (15 : Int32)), .val (.int (c0.toInt8.toInt32)), .val (.int (15 : Int32))] []))
                                refine gIload X0 hx (hb hby d_jdk_43_method_23_7) rfl ?_
                                refine gIloadN X0 hx (hb hby d_jdk_43_method_23_9) rfl ?_
                                refine gIcmpY X0 hx (hb hby d_jdk_43_method_23_10) (pc' := 31) (XT.ii_ge_t (by decide)) (by decide) (by decide) ?_
                                show Goes p e below _ (s₁.setTop (mkF m 31 #[.val (.ref a1), .val (.int c0), .val (.int (0 : Int32)), .val (.int (15 : Int32)), .val (.int (c0.toInt8.toInt32)), .val (.int (15 : Int32))] []))
                                refine gIconst X0 hx (hb hby d_jdk_43_method_23_31) (v := (-1 : Int32)) rfl ?_
                                have nt : ¬ own_tk (c0.toInt8.toInt32) := fun q => by
                                  unfold own_tk at q
                                  rcases q with q | q | q | q | q | q | q | q | q | q | q | q | q | q | q
                                  · exact g0 q.symm
                                  · exact g1 q.symm
                                  · exact g2 q.symm
                                  · exact g3 q.symm
                                  · exact g4 q.symm
                                  · exact g5 q.symm
                                  · exact g6 q.symm
                                  · exact g7 q.symm
                                  · exact g8 q.symm
                                  · exact g9 q.symm
                                  · exact g10 q.symm
                                  · exact g11 q.symm
                                  · exact g12 q.symm
                                  · exact g13 q.symm
                                  · exact g14 q.symm
                                exact goRetI X0 hx hret hlocks (hb hby d_jdk_43_method_23_32) (by decide) (by decide) e0 (⟨_, rfl, N0, rfl, Or.inr ⟨by decide, nt⟩⟩)
theorem d_jdk_43_method_22_0 : decode jdk_43_method_22_code 0 = .ok (.iload_n 1, 1) := by decide +kernel
theorem pd_0 : parseMethodDescriptor "(I)Z" = some ⟨[.int], some .boolean⟩ := by decide +kernel
theorem d_jdk_43_method_22_1 : decode jdk_43_method_22_code 1 = .ok (.invokestatic 88, 3) := by decide +kernel
theorem d_jdk_43_method_22_4 : decode jdk_43_method_22_code 4 = .ok (.ifCond .ne 5, 3) := by decide +kernel
theorem d_jdk_43_method_22_7 : decode jdk_43_method_22_code 7 = .ok (.iconst (-1), 1) := by decide +kernel
theorem d_jdk_43_method_22_8 : decode jdk_43_method_22_code 8 = .ok (.ireturn, 1) := by decide +kernel
theorem d_jdk_43_method_22_9 : decode jdk_43_method_22_code 9 = .ok (.iload_n 2, 1) := by decide +kernel
theorem d_jdk_43_method_22_10 : decode jdk_43_method_22_code 10 = .ok (.iconst 0, 1) := by decide +kernel
theorem pd_1 : parseMethodDescriptor "(II)I" = some ⟨[.int, .int], some .int⟩ := by decide +kernel
theorem d_jdk_43_method_22_11 : decode jdk_43_method_22_code 11 = .ok (.invokestatic 92, 3) := by decide +kernel
theorem d_jdk_43_method_22_14 : decode jdk_43_method_22_code 14 = .ok (.istore_n 2, 1) := by decide +kernel
theorem d_jdk_43_method_22_15 : decode jdk_43_method_22_code 15 = .ok (.iload_n 3, 1) := by decide +kernel
theorem d_jdk_43_method_22_16 : decode jdk_43_method_22_code 16 = .ok (.aload_n 0, 1) := by decide +kernel
theorem d_jdk_43_method_22_17 : decode jdk_43_method_22_code 17 = .ok (.arraylength, 1) := by decide +kernel
theorem d_jdk_43_method_22_18 : decode jdk_43_method_22_code 18 = .ok (.invokestatic 38, 3) := by decide +kernel
theorem d_jdk_43_method_22_21 : decode jdk_43_method_22_code 21 = .ok (.istore_n 3, 1) := by decide +kernel
theorem d_jdk_43_method_22_22 : decode jdk_43_method_22_code 22 = .ok (.iload_n 2, 1) := by decide +kernel
theorem d_jdk_43_method_22_23 : decode jdk_43_method_22_code 23 = .ok (.iload_n 3, 1) := by decide +kernel
theorem d_jdk_43_method_22_24 : decode jdk_43_method_22_code 24 = .ok (.if_icmp .lt 5, 3) := by decide +kernel
theorem d_jdk_43_method_22_29 : decode jdk_43_method_22_code 29 = .ok (.aload_n 0, 1) := by decide +kernel
theorem d_jdk_43_method_22_30 : decode jdk_43_method_22_code 30 = .ok (.iload_n 1, 1) := by decide +kernel
theorem d_jdk_43_method_22_31 : decode jdk_43_method_22_code 31 = .ok (.iload_n 2, 1) := by decide +kernel
theorem d_jdk_43_method_22_32 : decode jdk_43_method_22_code 32 = .ok (.iload_n 3, 1) := by decide +kernel
theorem pd_2 : parseMethodDescriptor "([BIII)I" = some ⟨[(.array .byte), .int, .int, .int], some .int⟩ := by decide +kernel
theorem d_jdk_43_method_22_33 : decode jdk_43_method_22_code 33 = .ok (.invokestatic 95, 3) := by decide +kernel
theorem d_jdk_43_method_22_36 : decode jdk_43_method_22_code 36 = .ok (.ireturn, 1) := by decide +kernel
theorem ef_rmIl (m : MethodId) (x0 : Addr) (x1 : Int32) (x2 : Int32) (x3 : Int32) : entryFrame m #[(.ref x0), (.int x1), (.int x2), (.int x3)] 4 = mkF m 0 #[.val (.ref x0), .val (.int x1), .val (.int x2), .val (.int x3)] [] := by first | (simp [entryFrame, mkF, argsToLocals, Value.category]; done) | rfl
set_option maxRecDepth 65536 in
set_option maxHeartbeats 40000000 in
theorem rmIl (l : Launch) (Z : State) (a0 : Array Value) (hw : ∀ d ∈ tables_1, d.before a0 Z = true)  (a1 : Addr) (c0 : Int32) (h0 : Heap) (O0 : Ext Z.heap h0) (Y1 : Ary Z h0 a1 .byte [(.int (33 : Int32)), (.int (35 : Int32)), (.int (36 : Int32)), (.int (37 : Int32)), (.int (38 : Int32)), (.int (39 : Int32)), (.int (42 : Int32)), (.int (43 : Int32)), (.int (45 : Int32)), (.int (46 : Int32)), (.int (94 : Int32)), (.int (95 : Int32)), (.int (96 : Int32)), (.int (124 : Int32)), (.int (126 : Int32))]) (q0 : ¬ c0 < 0) :
    Ctr l Z (⟨"java/lang/StringLatin1", "indexOf", "([BIII)I"⟩ : MethodName) jdk_43_method_22_code 4 (some .int) [] ({ frames := 1, cells := 0, slots := 0, locals := 20 } : Room) #[(.ref a1), (.int c0), (.int (0 : Int32)), (.int (15 : Int32))] h0 (fun v h L => ∃ r : Int32, v = some (.int r) ∧ Fr Z.heap.size L ∧ h = h0 ∧ ((¬ r < 0 ∧ own_tk c0) ∨ (r < 0 ∧ ¬ own_tk c0))) := by
  refine ctr (plainFor_of_name pn_0) ?_
  intro p e s m below meth c s₁ hx hby hml hown hnm hret hlocks hZ X0 e0
  have N0 := Fr.nil Z.heap.size
  have hsz : ∀ {Ls : Array Slot}, Ls.size = 4 → Ls.size = c.maxLocals := fun q => q.trans hml.symm
  refine goE (ef_rmIl m (a1) (c0) ((0 : Int32)) ((15 : Int32))) ?_
  show Goes p e below _ (s₁.setTop (mkF m 0 #[.val (.ref a1), .val (.int c0), .val (.int (0 : Int32)), .val (.int (15 : Int32))] []))
  refine gIloadN X0 hx (hb hby d_jdk_43_method_22_0) rfl ?_
  by_cases q1 : (255 : Int32) < c0
  · refine goCallS X0 hx hZ hown (hw _ (List.mem_of_getElem? (i := 103) rfl)) (hw _ (List.mem_of_getElem? (i := 104) rfl)) (hw _ (List.mem_of_getElem? (i := 75) rfl)) (hw _ (List.mem_of_getElem? (i := 105) rfl)) (by decide) (rmCn l Z a0 hw c0 h0 O0 q0 q1) 0 (by decide) (by decide) e0 (hsz rfl) [(.int c0)] [] pd_0 rfl rfl rfl (Nat.le_of_eq rfl) (hb hby d_jdk_43_method_22_1) (by decide) (by decide) (fun Tt1 vt1 Lt1 Xt1 qt1 => ?_)
    obtain ⟨rfl, N2, et1⟩ := qt1
    have N3 := Fr.app N0 N2
    show Goes p e below _ (Tt1.setTop (mkF m 4 #[.val (.ref a1), .val (.int c0), .val (.int (0 : Int32)), .val (.int (15 : Int32))] [(.int (0 : Int32))]))
    refine gIfN Xt1 hx (hb hby d_jdk_43_method_22_4) (XT.i0_ne_f (by decide)) ?_
    show Goes p e below _ (Tt1.setTop (mkF m 7 #[.val (.ref a1), .val (.int c0), .val (.int (0 : Int32)), .val (.int (15 : Int32))] []))
    refine gIconst Xt1 hx (hb hby d_jdk_43_method_22_7) (v := (-1 : Int32)) rfl ?_
    exact goRetI Xt1 hx hret hlocks (hb hby d_jdk_43_method_22_8) (by decide) (by decide) et1 (⟨_, rfl, N3, rfl, Or.inr ⟨by decide, own_big q1⟩⟩)
  · refine goCallS X0 hx hZ hown (hw _ (List.mem_of_getElem? (i := 103) rfl)) (hw _ (List.mem_of_getElem? (i := 104) rfl)) (hw _ (List.mem_of_getElem? (i := 75) rfl)) (hw _ (List.mem_of_getElem? (i := 105) rfl)) (by decide) (rmCy l Z a0 hw c0 h0 O0 q0 q1) 0 (by decide) (by decide) e0 (hsz rfl) [(.int c0)] [] pd_0 rfl rfl rfl (Nat.le_of_eq rfl) (hb hby d_jdk_43_method_22_1) (by decide) (by decide) (fun Tt4 vt4 Lt4 Xt4 qt4 => ?_)
    obtain ⟨rfl, N5, et4⟩ := qt4
    have N6 := Fr.app N0 N5
    show Goes p e below _ (Tt4.setTop (mkF m 4 #[.val (.ref a1), .val (.int c0), .val (.int (0 : Int32)), .val (.int (15 : Int32))] [(.int (1 : Int32))]))
    refine gIfY Xt4 hx (hb hby d_jdk_43_method_22_4) (pc' := 9) (XT.i0_ne_t (by decide)) (by decide) (by decide) ?_
    show Goes p e below _ (Tt4.setTop (mkF m 9 #[.val (.ref a1), .val (.int c0), .val (.int (0 : Int32)), .val (.int (15 : Int32))] []))
    refine gIloadN Xt4 hx (hb hby d_jdk_43_method_22_9) rfl ?_
    refine gIconst Xt4 hx (hb hby d_jdk_43_method_22_10) (v := (0 : Int32)) rfl ?_
    refine goCallS Xt4 hx hZ hown (hw _ (List.mem_of_getElem? (i := 106) rfl)) (hw _ (List.mem_of_getElem? (i := 107) rfl)) (hw _ (List.mem_of_getElem? (i := 108) rfl)) (hw _ (List.mem_of_getElem? (i := 109) rfl)) (by decide) (rmMx l Z a0 hw h0 O0) 0 (by decide) (by decide) et4 (hsz rfl) [(.int (0 : Int32)), (.int (0 : Int32))] [] pd_1 rfl rfl rfl (Nat.le_of_eq rfl) (hb hby d_jdk_43_method_22_11) (by decide) (by decide) (fun Tt7 vt7 Lt7 Xt7 qt7 => ?_)
    obtain ⟨rfl, N8, et7⟩ := qt7
    have N9 := Fr.app N6 N8
    show Goes p e below _ (Tt7.setTop (mkF m 14 #[.val (.ref a1), .val (.int c0), .val (.int (0 : Int32)), .val (.int (15 : Int32))] [(.int (0 : Int32))]))
    refine gIstoreN Xt7 hx (hb hby d_jdk_43_method_22_14) (l' := #[.val (.ref a1), .val (.int c0), .val (.int (0 : Int32)), .val (.int (15 : Int32))]) rfl ?_
    refine gIloadN Xt7 hx (hb hby d_jdk_43_method_22_15) rfl ?_
    refine gAloadN Xt7 hx (hb hby d_jdk_43_method_22_16) rfl rfl ?_
    refine goAlen Xt7 hx hZ et7 Y1 (n := (15 : Int32)) (hb hby d_jdk_43_method_22_17) rfl ?_
    refine goCallS Xt7 hx hZ hown (hw _ (List.mem_of_getElem? (i := 110) rfl)) (hw _ (List.mem_of_getElem? (i := 111) rfl)) (hw _ (List.mem_of_getElem? (i := 108) rfl)) (hw _ (List.mem_of_getElem? (i := 112) rfl)) (by decide) (rmMn l Z a0 hw h0 O0) 0 (by decide) (by decide) et7 (hsz rfl) [(.int (15 : Int32)), (.int (15 : Int32))] [] pd_1 rfl rfl rfl (Nat.le_of_eq rfl) (hb hby d_jdk_43_method_22_18) (by decide) (by decide) (fun Tt10 vt10 Lt10 Xt10 qt10 => ?_)
    obtain ⟨rfl, N11, et10⟩ := qt10
    have N12 := Fr.app N9 N11
    show Goes p e below _ (Tt10.setTop (mkF m 21 #[.val (.ref a1), .val (.int c0), .val (.int (0 : Int32)), .val (.int (15 : Int32))] [(.int (15 : Int32))]))
    refine gIstoreN Xt10 hx (hb hby d_jdk_43_method_22_21) (l' := #[.val (.ref a1), .val (.int c0), .val (.int (0 : Int32)), .val (.int (15 : Int32))]) rfl ?_
    refine gIloadN Xt10 hx (hb hby d_jdk_43_method_22_22) rfl ?_
    refine gIloadN Xt10 hx (hb hby d_jdk_43_method_22_23) rfl ?_
    refine gIcmpY Xt10 hx (hb hby d_jdk_43_method_22_24) (pc' := 29) (XT.ii_lt_t (by decide)) (by decide) (by decide) ?_
    show Goes p e below _ (Tt10.setTop (mkF m 29 #[.val (.ref a1), .val (.int c0), .val (.int (0 : Int32)), .val (.int (15 : Int32))] []))
    refine gAloadN Xt10 hx (hb hby d_jdk_43_method_22_29) rfl rfl ?_
    refine gIloadN Xt10 hx (hb hby d_jdk_43_method_22_30) rfl ?_
    refine gIloadN Xt10 hx (hb hby d_jdk_43_method_22_31) rfl ?_
    refine gIloadN Xt10 hx (hb hby d_jdk_43_method_22_32) rfl ?_
    refine goCallS Xt10 hx hZ hown (hw _ (List.mem_of_getElem? (i := 113) rfl)) (hw _ (List.mem_of_getElem? (i := 114) rfl)) (hw _ (List.mem_of_getElem? (i := 75) rfl)) (hw _ (List.mem_of_getElem? (i := 115) rfl)) (by decide) (rmIc l Z a0 hw a1 c0 h0 O0 Y1) 0 (by decide) (by decide) et10 (hsz rfl) [(.ref a1), (.int c0), (.int (0 : Int32)), (.int (15 : Int32))] [] pd_2 rfl rfl rfl (Nat.le_of_eq rfl) (hb hby d_jdk_43_method_22_33) (by decide) (by decide) (fun Tt13 vt13 Lt13 Xt13 qt13 => ?_)
    obtain ⟨r_, rfl, N14, et13, alt⟩ := qt13
    have N15 := Fr.app N12 N14
    show Goes p e below _ (Tt13.setTop (mkF m 36 #[.val (.ref a1), .val (.int c0), .val (.int (0 : Int32)), .val (.int (15 : Int32))] [(.int r_)]))
    exact goRetI Xt13 hx hret hlocks (hb hby d_jdk_43_method_22_36) (by decide) (by decide) et13 (⟨_, rfl, N15, rfl, by rw [← own_c8 q0 q1]; exact alt⟩)
theorem d_jdk_42_method_152_0 : decode jdk_42_method_152_code 0 = .ok (.getstatic 38, 3) := by decide +kernel
theorem d_jdk_42_method_152_3 : decode jdk_42_method_152_code 3 = .ok (.ifCond .eq 10, 3) := by decide +kernel
theorem d_jdk_42_method_152_6 : decode jdk_42_method_152_code 6 = .ok (.aload_n 0, 1) := by decide +kernel
theorem d_jdk_42_method_152_7 : decode jdk_42_method_152_code 7 = .ok (.getfield 15, 3) := by decide +kernel
theorem d_jdk_42_method_152_10 : decode jdk_42_method_152_code 10 = .ok (.goto 4, 3) := by decide +kernel
theorem d_jdk_42_method_152_14 : decode jdk_42_method_152_code 14 = .ok (.ireturn, 1) := by decide +kernel
theorem pn_1 : plainName "java/lang/String" = true := by first | (simp [plainName, overriddenIn]; done) | decide +kernel
theorem ef_rmSco (m : MethodId) (x0 : Addr) : entryFrame m #[(.ref x0)] 1 = mkF m 0 #[.val (.ref x0)] [] := by first | (simp [entryFrame, mkF, argsToLocals, Value.category]; done) | rfl
set_option maxRecDepth 65536 in
set_option maxHeartbeats 40000000 in
theorem rmSco (l : Launch) (Z : State) (a0 : Array Value) (hw : ∀ d ∈ tables_1, d.before a0 Z = true) (u : Addr) (cs : Int32) (a1 : Addr) (h0 : Heap) (O0 : Ext Z.heap h0) (S_cs : Sta Z Z.heap "java/lang/String" "COMPACT_STRINGS" "Z" (.int cs)) (hcs : ¬ cs = 0) (E1 : Exa Z h0 a1 "java/lang/String") (V1 : Fld Z h0 a1 "java/lang/String" "value" "[B" (.ref u)) (C1 : Fld Z h0 a1 "java/lang/String" "coder" "B" (.int (0 : Int32))) (Y1 : Ary Z h0 u .byte [(.int (33 : Int32)), (.int (35 : Int32)), (.int (36 : Int32)), (.int (37 : Int32)), (.int (38 : Int32)), (.int (39 : Int32)), (.int (42 : Int32)), (.int (43 : Int32)), (.int (45 : Int32)), (.int (46 : Int32)), (.int (94 : Int32)), (.int (95 : Int32)), (.int (96 : Int32)), (.int (124 : Int32)), (.int (126 : Int32))]) :
    Ctr l Z (⟨"java/lang/String", "coder", "()B"⟩ : MethodName) jdk_42_method_152_code 1 (some .byte) [] ({ frames := 0, cells := 0, slots := 0, locals := 0 } : Room) #[(.ref a1)] h0 (fun v h L => v = some (.int 0) ∧ Fr Z.heap.size L ∧ h = h0) := by
  refine ctr (plainFor_of_name pn_1) ?_
  intro p e s m below meth c s₁ hx hby hml hown hnm hret hlocks hZ X0 e0
  have N0 := Fr.nil Z.heap.size
  have hsz : ∀ {Ls : Array Slot}, Ls.size = 1 → Ls.size = c.maxLocals := fun q => q.trans hml.symm
  refine goE (ef_rmSco m (a1)) ?_
  show Goes p e below _ (s₁.setTop (mkF m 0 #[.val (.ref a1)] []))
  obtain ⟨Tt1, Xt1, et1, stt1⟩ := getS2 X0 hx hZ hown (host := "") (Or.inl (hw _ (List.mem_of_getElem? (i := 39) rfl))) Via.refl e0 (S_cs.ext O0) (g := (mkF m 0 #[.val (.ref a1)] [])) rfl (hb hby d_jdk_42_method_152_0)
  refine go stt1 ?_
  show Goes p e below _ (Tt1.setTop (mkF m 3 #[.val (.ref a1)] [(.int cs)]))
  refine gIfN Xt1 hx (hb hby d_jdk_42_method_152_3) (XT.i0_eq_f hcs) ?_
  show Goes p e below _ (Tt1.setTop (mkF m 6 #[.val (.ref a1)] []))
  refine gAloadN Xt1 hx (hb hby d_jdk_42_method_152_6) rfl rfl ?_
  obtain ⟨Tt2, Xt2, et2, stt2⟩ := getF Xt1 hx hZ hown (host := "") (Or.inl (hw _ (List.mem_of_getElem? (i := 29) rfl))) Via.refl et1 C1 (g := (mkF m 7 #[.val (.ref a1)] [(.ref a1)])) rfl rfl (hb hby d_jdk_42_method_152_7)
  refine go stt2 ?_
  show Goes p e below _ (Tt2.setTop (mkF m 10 #[.val (.ref a1)] [(.int (0 : Int32))]))
  refine gGoto Xt2 hx (hb hby d_jdk_42_method_152_10) (pc' := 14) (by decide) (by decide) ?_
  show Goes p e below _ (Tt2.setTop (mkF m 14 #[.val (.ref a1)] [(.int (0 : Int32))]))
  exact goRetN Xt2 hx (t := .byte) hret hlocks (by simp) (hb hby d_jdk_42_method_152_14) (z' := (0 : Int32)) rfl (by decide) (by decide) et2 (⟨rfl, N0, rfl⟩)
theorem d_jdk_42_method_154_0 : decode jdk_42_method_154_code 0 = .ok (.getstatic 38, 3) := by decide +kernel
theorem d_jdk_42_method_154_3 : decode jdk_42_method_154_code 3 = .ok (.ifCond .eq 14, 3) := by decide +kernel
theorem d_jdk_42_method_154_6 : decode jdk_42_method_154_code 6 = .ok (.aload_n 0, 1) := by decide +kernel
theorem d_jdk_42_method_154_7 : decode jdk_42_method_154_code 7 = .ok (.getfield 15, 3) := by decide +kernel
theorem d_jdk_42_method_154_10 : decode jdk_42_method_154_code 10 = .ok (.ifCond .ne 7, 3) := by decide +kernel
theorem d_jdk_42_method_154_13 : decode jdk_42_method_154_code 13 = .ok (.iconst 1, 1) := by decide +kernel
theorem d_jdk_42_method_154_14 : decode jdk_42_method_154_code 14 = .ok (.goto 4, 3) := by decide +kernel
theorem d_jdk_42_method_154_18 : decode jdk_42_method_154_code 18 = .ok (.ireturn, 1) := by decide +kernel
theorem ef_rmSla (m : MethodId) (x0 : Addr) : entryFrame m #[(.ref x0)] 1 = mkF m 0 #[.val (.ref x0)] [] := by first | (simp [entryFrame, mkF, argsToLocals, Value.category]; done) | rfl
set_option maxRecDepth 65536 in
set_option maxHeartbeats 40000000 in
theorem rmSla (l : Launch) (Z : State) (a0 : Array Value) (hw : ∀ d ∈ tables_1, d.before a0 Z = true) (u : Addr) (cs : Int32) (a1 : Addr) (h0 : Heap) (O0 : Ext Z.heap h0) (S_cs : Sta Z Z.heap "java/lang/String" "COMPACT_STRINGS" "Z" (.int cs)) (hcs : ¬ cs = 0) (E1 : Exa Z h0 a1 "java/lang/String") (V1 : Fld Z h0 a1 "java/lang/String" "value" "[B" (.ref u)) (C1 : Fld Z h0 a1 "java/lang/String" "coder" "B" (.int (0 : Int32))) (Y1 : Ary Z h0 u .byte [(.int (33 : Int32)), (.int (35 : Int32)), (.int (36 : Int32)), (.int (37 : Int32)), (.int (38 : Int32)), (.int (39 : Int32)), (.int (42 : Int32)), (.int (43 : Int32)), (.int (45 : Int32)), (.int (46 : Int32)), (.int (94 : Int32)), (.int (95 : Int32)), (.int (96 : Int32)), (.int (124 : Int32)), (.int (126 : Int32))]) :
    Ctr l Z (⟨"java/lang/String", "isLatin1", "()Z"⟩ : MethodName) jdk_42_method_154_code 1 (some .boolean) [] ({ frames := 0, cells := 0, slots := 0, locals := 0 } : Room) #[(.ref a1)] h0 (fun v h L => v = some (.int 1) ∧ Fr Z.heap.size L ∧ h = h0) := by
  refine ctr (plainFor_of_name pn_1) ?_
  intro p e s m below meth c s₁ hx hby hml hown hnm hret hlocks hZ X0 e0
  have N0 := Fr.nil Z.heap.size
  have hsz : ∀ {Ls : Array Slot}, Ls.size = 1 → Ls.size = c.maxLocals := fun q => q.trans hml.symm
  refine goE (ef_rmSla m (a1)) ?_
  show Goes p e below _ (s₁.setTop (mkF m 0 #[.val (.ref a1)] []))
  obtain ⟨Tt1, Xt1, et1, stt1⟩ := getS2 X0 hx hZ hown (host := "") (Or.inl (hw _ (List.mem_of_getElem? (i := 39) rfl))) Via.refl e0 (S_cs.ext O0) (g := (mkF m 0 #[.val (.ref a1)] [])) rfl (hb hby d_jdk_42_method_154_0)
  refine go stt1 ?_
  show Goes p e below _ (Tt1.setTop (mkF m 3 #[.val (.ref a1)] [(.int cs)]))
  refine gIfN Xt1 hx (hb hby d_jdk_42_method_154_3) (XT.i0_eq_f hcs) ?_
  show Goes p e below _ (Tt1.setTop (mkF m 6 #[.val (.ref a1)] []))
  refine gAloadN Xt1 hx (hb hby d_jdk_42_method_154_6) rfl rfl ?_
  obtain ⟨Tt2, Xt2, et2, stt2⟩ := getF Xt1 hx hZ hown (host := "") (Or.inl (hw _ (List.mem_of_getElem? (i := 29) rfl))) Via.refl et1 C1 (g := (mkF m 7 #[.val (.ref a1)] [(.ref a1)])) rfl rfl (hb hby d_jdk_42_method_154_7)
  refine go stt2 ?_
  show Goes p e below _ (Tt2.setTop (mkF m 10 #[.val (.ref a1)] [(.int (0 : Int32))]))
  refine gIfN Xt2 hx (hb hby d_jdk_42_method_154_10) (XT.i0_ne_f (by decide)) ?_
  show Goes p e below _ (Tt2.setTop (mkF m 13 #[.val (.ref a1)] []))
  refine gIconst Xt2 hx (hb hby d_jdk_42_method_154_13) (v := (1 : Int32)) rfl ?_
  refine gGoto Xt2 hx (hb hby d_jdk_42_method_154_14) (pc' := 18) (by decide) (by decide) ?_
  show Goes p e below _ (Tt2.setTop (mkF m 18 #[.val (.ref a1)] [(.int (1 : Int32))]))
  exact goRetN Xt2 hx (t := .boolean) hret hlocks (by simp) (hb hby d_jdk_42_method_154_18) (z' := (1 : Int32)) rfl (by decide) (by decide) et2 (⟨rfl, N0, rfl⟩)
theorem d_jdk_42_method_54_0 : decode jdk_42_method_54_code 0 = .ok (.aload_n 0, 1) := by decide +kernel
theorem d_jdk_42_method_54_1 : decode jdk_42_method_54_code 1 = .ok (.getfield 9, 3) := by decide +kernel
theorem d_jdk_42_method_54_4 : decode jdk_42_method_54_code 4 = .ok (.arraylength, 1) := by decide +kernel
theorem d_jdk_42_method_54_5 : decode jdk_42_method_54_code 5 = .ok (.aload_n 0, 1) := by decide +kernel
theorem pd_3 : parseMethodDescriptor "()B" = some ⟨[], some .byte⟩ := by decide +kernel
theorem d_jdk_42_method_54_6 : decode jdk_42_method_54_code 6 = .ok (.invokevirtual 335, 3) := by decide +kernel
theorem d_jdk_42_method_54_9 : decode jdk_42_method_54_code 9 = .ok (.ishr, 1) := by decide +kernel
theorem d_jdk_42_method_54_10 : decode jdk_42_method_54_code 10 = .ok (.ireturn, 1) := by decide +kernel
theorem ef_rmSle (m : MethodId) (x0 : Addr) : entryFrame m #[(.ref x0)] 1 = mkF m 0 #[.val (.ref x0)] [] := by first | (simp [entryFrame, mkF, argsToLocals, Value.category]; done) | rfl
set_option maxRecDepth 65536 in
set_option maxHeartbeats 40000000 in
theorem rmSle (l : Launch) (Z : State) (a0 : Array Value) (hw : ∀ d ∈ tables_1, d.before a0 Z = true) (u : Addr) (cs : Int32) (a1 : Addr) (h0 : Heap) (O0 : Ext Z.heap h0) (S_cs : Sta Z Z.heap "java/lang/String" "COMPACT_STRINGS" "Z" (.int cs)) (hcs : ¬ cs = 0) (E1 : Exa Z h0 a1 "java/lang/String") (V1 : Fld Z h0 a1 "java/lang/String" "value" "[B" (.ref u)) (C1 : Fld Z h0 a1 "java/lang/String" "coder" "B" (.int (0 : Int32))) (Y1 : Ary Z h0 u .byte [(.int (33 : Int32)), (.int (35 : Int32)), (.int (36 : Int32)), (.int (37 : Int32)), (.int (38 : Int32)), (.int (39 : Int32)), (.int (42 : Int32)), (.int (43 : Int32)), (.int (45 : Int32)), (.int (46 : Int32)), (.int (94 : Int32)), (.int (95 : Int32)), (.int (96 : Int32)), (.int (124 : Int32)), (.int (126 : Int32))]) :
    Ctr l Z (⟨"java/lang/String", "length", "()I"⟩ : MethodName) jdk_42_method_54_code 1 (some .int) [] ({ frames := 1, cells := 0, slots := 0, locals := 13 } : Room) #[(.ref a1)] h0 (fun v h L => v = some (.int (15 : Int32)) ∧ Fr Z.heap.size L ∧ h = h0) := by
  refine ctr (plainFor_of_name pn_1) ?_
  intro p e s m below meth c s₁ hx hby hml hown hnm hret hlocks hZ X0 e0
  have N0 := Fr.nil Z.heap.size
  have hsz : ∀ {Ls : Array Slot}, Ls.size = 1 → Ls.size = c.maxLocals := fun q => q.trans hml.symm
  refine goE (ef_rmSle m (a1)) ?_
  show Goes p e below _ (s₁.setTop (mkF m 0 #[.val (.ref a1)] []))
  refine gAloadN X0 hx (hb hby d_jdk_42_method_54_0) rfl rfl ?_
  obtain ⟨Tt1, Xt1, et1, stt1⟩ := getF X0 hx hZ hown (host := "") (Or.inl (hw _ (List.mem_of_getElem? (i := 28) rfl))) Via.refl e0 V1 (g := (mkF m 1 #[.val (.ref a1)] [(.ref a1)])) rfl rfl (hb hby d_jdk_42_method_54_1)
  refine go stt1 ?_
  show Goes p e below _ (Tt1.setTop (mkF m 4 #[.val (.ref a1)] [(.ref u)]))
  refine goAlen Xt1 hx hZ et1 Y1 (n := (15 : Int32)) (hb hby d_jdk_42_method_54_4) rfl ?_
  refine gAloadN Xt1 hx (hb hby d_jdk_42_method_54_5) rfl rfl ?_
  refine goCallV Xt1 hx hZ hown (hw _ (List.mem_of_getElem? (i := 58) rfl)) (hw _ (List.mem_of_getElem? (i := 59) rfl)) (hw _ (List.mem_of_getElem? (i := 61) rfl)) (hw _ (List.mem_of_getElem? (i := 60) rfl)) (hw _ (List.mem_of_getElem? (i := 10) rfl)) (hw _ (List.mem_of_getElem? (i := 62) rfl)) (by decide) (rmSco l Z a0 hw u cs a1 h0 O0 S_cs hcs E1 V1 C1 Y1) 1 (by decide) (by decide) et1 E1 (hsz rfl) [] [(.int (15 : Int32))] pd_3 rfl rfl rfl (Nat.le_of_eq rfl) (hb hby d_jdk_42_method_54_6) (by decide) (by decide) (fun Tt2 vt2 Lt2 Xt2 qt2 => ?_)
  obtain ⟨rfl, N3, et2⟩ := qt2
  have N4 := Fr.app N0 N3
  show Goes p e below _ (Tt2.setTop (mkF m 9 #[.val (.ref a1)] [(.int (0 : Int32)), (.int (15 : Int32))]))
  refine gIshr Xt2 hx (hb hby d_jdk_42_method_54_9) ?_
  exact goRetI Xt2 hx hret hlocks (hb hby d_jdk_42_method_54_10) (by decide) (by decide) et2 (⟨congrArg (fun z => some (Value.int z)) (by decide), N4, rfl⟩)
theorem d_jdk_42_method_80_0 : decode jdk_42_method_80_code 0 = .ok (.aload_n 0, 1) := by decide +kernel
theorem pd_4 : parseMethodDescriptor "()Z" = some ⟨[], some .boolean⟩ := by decide +kernel
theorem d_jdk_42_method_80_1 : decode jdk_42_method_80_code 1 = .ok (.invokevirtual 492, 3) := by decide +kernel
theorem d_jdk_42_method_80_4 : decode jdk_42_method_80_code 4 = .ok (.ifCond .eq 19, 3) := by decide +kernel
theorem d_jdk_42_method_80_7 : decode jdk_42_method_80_code 7 = .ok (.aload_n 0, 1) := by decide +kernel
theorem d_jdk_42_method_80_8 : decode jdk_42_method_80_code 8 = .ok (.getfield 9, 3) := by decide +kernel
theorem d_jdk_42_method_80_11 : decode jdk_42_method_80_code 11 = .ok (.iload_n 1, 1) := by decide +kernel
theorem d_jdk_42_method_80_12 : decode jdk_42_method_80_code 12 = .ok (.iload_n 2, 1) := by decide +kernel
theorem d_jdk_42_method_80_13 : decode jdk_42_method_80_code 13 = .ok (.aload_n 0, 1) := by decide +kernel
theorem pd_5 : parseMethodDescriptor "()I" = some ⟨[], some .int⟩ := by decide +kernel
theorem d_jdk_42_method_80_14 : decode jdk_42_method_80_code 14 = .ok (.invokevirtual 505, 3) := by decide +kernel
theorem d_jdk_42_method_80_17 : decode jdk_42_method_80_code 17 = .ok (.invokestatic 637, 3) := by decide +kernel
theorem d_jdk_42_method_80_20 : decode jdk_42_method_80_code 20 = .ok (.goto 16, 3) := by decide +kernel
theorem d_jdk_42_method_80_36 : decode jdk_42_method_80_code 36 = .ok (.ireturn, 1) := by decide +kernel
theorem ef_rmI2 (m : MethodId) (x0 : Addr) (x1 : Int32) (x2 : Int32) : entryFrame m #[(.ref x0), (.int x1), (.int x2)] 3 = mkF m 0 #[.val (.ref x0), .val (.int x1), .val (.int x2)] [] := by first | (simp [entryFrame, mkF, argsToLocals, Value.category]; done) | rfl
set_option maxRecDepth 65536 in
set_option maxHeartbeats 40000000 in
theorem rmI2 (l : Launch) (Z : State) (a0 : Array Value) (hw : ∀ d ∈ tables_1, d.before a0 Z = true) (u : Addr) (cs : Int32) (a1 : Addr) (c0 : Int32) (h0 : Heap) (O0 : Ext Z.heap h0) (S_cs : Sta Z Z.heap "java/lang/String" "COMPACT_STRINGS" "Z" (.int cs)) (hcs : ¬ cs = 0) (E1 : Exa Z h0 a1 "java/lang/String") (V1 : Fld Z h0 a1 "java/lang/String" "value" "[B" (.ref u)) (C1 : Fld Z h0 a1 "java/lang/String" "coder" "B" (.int (0 : Int32))) (Y1 : Ary Z h0 u .byte [(.int (33 : Int32)), (.int (35 : Int32)), (.int (36 : Int32)), (.int (37 : Int32)), (.int (38 : Int32)), (.int (39 : Int32)), (.int (42 : Int32)), (.int (43 : Int32)), (.int (45 : Int32)), (.int (46 : Int32)), (.int (94 : Int32)), (.int (95 : Int32)), (.int (96 : Int32)), (.int (124 : Int32)), (.int (126 : Int32))]) (q0 : ¬ c0 < 0) :
    Ctr l Z (⟨"java/lang/String", "indexOf", "(II)I"⟩ : MethodName) jdk_42_method_80_code 3 (some .int) [] ({ frames := 2, cells := 0, slots := 0, locals := 40 } : Room) #[(.ref a1), (.int c0), (.int (0 : Int32))] h0 (fun v h L => ∃ r : Int32, v = some (.int r) ∧ Fr Z.heap.size L ∧ h = h0 ∧ ((¬ r < 0 ∧ own_tk c0) ∨ (r < 0 ∧ ¬ own_tk c0))) := by
  refine ctr (plainFor_of_name pn_1) ?_
  intro p e s m below meth c s₁ hx hby hml hown hnm hret hlocks hZ X0 e0
  have N0 := Fr.nil Z.heap.size
  have hsz : ∀ {Ls : Array Slot}, Ls.size = 3 → Ls.size = c.maxLocals := fun q => q.trans hml.symm
  refine goE (ef_rmI2 m (a1) (c0) ((0 : Int32))) ?_
  show Goes p e below _ (s₁.setTop (mkF m 0 #[.val (.ref a1), .val (.int c0), .val (.int (0 : Int32))] []))
  refine gAloadN X0 hx (hb hby d_jdk_42_method_80_0) rfl rfl ?_
  refine goCallV X0 hx hZ hown (hw _ (List.mem_of_getElem? (i := 68) rfl)) (hw _ (List.mem_of_getElem? (i := 69) rfl)) (hw _ (List.mem_of_getElem? (i := 71) rfl)) (hw _ (List.mem_of_getElem? (i := 70) rfl)) (hw _ (List.mem_of_getElem? (i := 10) rfl)) (hw _ (List.mem_of_getElem? (i := 72) rfl)) (by decide) (rmSla l Z a0 hw u cs a1 h0 O0 S_cs hcs E1 V1 C1 Y1) 0 (by decide) (by decide) e0 E1 (hsz rfl) [] [] pd_4 rfl rfl rfl (Nat.le_of_eq rfl) (hb hby d_jdk_42_method_80_1) (by decide) (by decide) (fun Tt1 vt1 Lt1 Xt1 qt1 => ?_)
  obtain ⟨rfl, N2, et1⟩ := qt1
  have N3 := Fr.app N0 N2
  show Goes p e below _ (Tt1.setTop (mkF m 4 #[.val (.ref a1), .val (.int c0), .val (.int (0 : Int32))] [(.int (1 : Int32))]))
  refine gIfN Xt1 hx (hb hby d_jdk_42_method_80_4) (XT.i0_eq_f (by decide)) ?_
  show Goes p e below _ (Tt1.setTop (mkF m 7 #[.val (.ref a1), .val (.int c0), .val (.int (0 : Int32))] []))
  refine gAloadN Xt1 hx (hb hby d_jdk_42_method_80_7) rfl rfl ?_
  obtain ⟨Tt4, Xt4, et4, stt4⟩ := getF Xt1 hx hZ hown (host := "") (Or.inl (hw _ (List.mem_of_getElem? (i := 28) rfl))) Via.refl et1 V1 (g := (mkF m 8 #[.val (.ref a1), .val (.int c0), .val (.int (0 : Int32))] [(.ref a1)])) rfl rfl (hb hby d_jdk_42_method_80_8)
  refine go stt4 ?_
  show Goes p e below _ (Tt4.setTop (mkF m 11 #[.val (.ref a1), .val (.int c0), .val (.int (0 : Int32))] [(.ref u)]))
  refine gIloadN Xt4 hx (hb hby d_jdk_42_method_80_11) rfl ?_
  refine gIloadN Xt4 hx (hb hby d_jdk_42_method_80_12) rfl ?_
  refine gAloadN Xt4 hx (hb hby d_jdk_42_method_80_13) rfl rfl ?_
  refine goCallV Xt4 hx hZ hown (hw _ (List.mem_of_getElem? (i := 99) rfl)) (hw _ (List.mem_of_getElem? (i := 54) rfl)) (hw _ (List.mem_of_getElem? (i := 56) rfl)) (hw _ (List.mem_of_getElem? (i := 55) rfl)) (hw _ (List.mem_of_getElem? (i := 10) rfl)) (hw _ (List.mem_of_getElem? (i := 57) rfl)) (by decide) (rmSle l Z a0 hw u cs a1 h0 O0 S_cs hcs E1 V1 C1 Y1) 3 (by decide) (by decide) et4 E1 (hsz rfl) [] [(.int (0 : Int32)), (.int c0), (.ref u)] pd_5 rfl rfl rfl (Nat.le_of_eq rfl) (hb hby d_jdk_42_method_80_14) (by decide) (by decide) (fun Tt5 vt5 Lt5 Xt5 qt5 => ?_)
  obtain ⟨rfl, N6, et5⟩ := qt5
  have N7 := Fr.app N3 N6
  show Goes p e below _ (Tt5.setTop (mkF m 17 #[.val (.ref a1), .val (.int c0), .val (.int (0 : Int32))] [(.int (15 : Int32)), (.int (0 : Int32)), (.int c0), (.ref u)]))
  refine goCallS Xt5 hx hZ hown (hw _ (List.mem_of_getElem? (i := 100) rfl)) (hw _ (List.mem_of_getElem? (i := 101) rfl)) (hw _ (List.mem_of_getElem? (i := 75) rfl)) (hw _ (List.mem_of_getElem? (i := 102) rfl)) (by decide) (rmIl l Z a0 hw u c0 h0 O0 Y1 q0) 0 (by decide) (by decide) et5 (hsz rfl) [(.ref u), (.int c0), (.int (0 : Int32)), (.int (15 : Int32))] [] pd_2 rfl rfl rfl (Nat.le_of_eq rfl) (hb hby d_jdk_42_method_80_17) (by decide) (by decide) (fun Tt8 vt8 Lt8 Xt8 qt8 => ?_)
  obtain ⟨r_, rfl, N9, et8, alt⟩ := qt8
  have N10 := Fr.app N7 N9
  show Goes p e below _ (Tt8.setTop (mkF m 20 #[.val (.ref a1), .val (.int c0), .val (.int (0 : Int32))] [(.int r_)]))
  refine gGoto Xt8 hx (hb hby d_jdk_42_method_80_20) (pc' := 36) (by decide) (by decide) ?_
  show Goes p e below _ (Tt8.setTop (mkF m 36 #[.val (.ref a1), .val (.int c0), .val (.int (0 : Int32))] [(.int r_)]))
  exact goRetI Xt8 hx hret hlocks (hb hby d_jdk_42_method_80_36) (by decide) (by decide) et8 (⟨_, rfl, N10, rfl, alt⟩)
theorem d_jdk_42_method_79_0 : decode jdk_42_method_79_code 0 = .ok (.aload_n 0, 1) := by decide +kernel
theorem d_jdk_42_method_79_1 : decode jdk_42_method_79_code 1 = .ok (.iload_n 1, 1) := by decide +kernel
theorem d_jdk_42_method_79_2 : decode jdk_42_method_79_code 2 = .ok (.iconst 0, 1) := by decide +kernel
theorem d_jdk_42_method_79_3 : decode jdk_42_method_79_code 3 = .ok (.invokevirtual 633, 3) := by decide +kernel
theorem d_jdk_42_method_79_6 : decode jdk_42_method_79_code 6 = .ok (.ireturn, 1) := by decide +kernel
theorem ef_rmI1 (m : MethodId) (x0 : Addr) (x1 : Int32) : entryFrame m #[(.ref x0), (.int x1)] 2 = mkF m 0 #[.val (.ref x0), .val (.int x1)] [] := by first | (simp [entryFrame, mkF, argsToLocals, Value.category]; done) | rfl
set_option maxRecDepth 65536 in
set_option maxHeartbeats 40000000 in
theorem rmI1 (l : Launch) (Z : State) (a0 : Array Value) (hw : ∀ d ∈ tables_1, d.before a0 Z = true) (u : Addr) (cs : Int32) (a1 : Addr) (c0 : Int32) (h0 : Heap) (O0 : Ext Z.heap h0) (S_cs : Sta Z Z.heap "java/lang/String" "COMPACT_STRINGS" "Z" (.int cs)) (hcs : ¬ cs = 0) (E1 : Exa Z h0 a1 "java/lang/String") (V1 : Fld Z h0 a1 "java/lang/String" "value" "[B" (.ref u)) (C1 : Fld Z h0 a1 "java/lang/String" "coder" "B" (.int (0 : Int32))) (Y1 : Ary Z h0 u .byte [(.int (33 : Int32)), (.int (35 : Int32)), (.int (36 : Int32)), (.int (37 : Int32)), (.int (38 : Int32)), (.int (39 : Int32)), (.int (42 : Int32)), (.int (43 : Int32)), (.int (45 : Int32)), (.int (46 : Int32)), (.int (94 : Int32)), (.int (95 : Int32)), (.int (96 : Int32)), (.int (124 : Int32)), (.int (126 : Int32))]) (q0 : ¬ c0 < 0) :
    Ctr l Z (⟨"java/lang/String", "indexOf", "(I)I"⟩ : MethodName) jdk_42_method_79_code 2 (some .int) [] ({ frames := 3, cells := 0, slots := 0, locals := 54 } : Room) #[(.ref a1), (.int c0)] h0 (fun v h L => ∃ r : Int32, v = some (.int r) ∧ Fr Z.heap.size L ∧ h = h0 ∧ ((¬ r < 0 ∧ own_tk c0) ∨ (r < 0 ∧ ¬ own_tk c0))) := by
  refine ctr (plainFor_of_name pn_1) ?_
  intro p e s m below meth c s₁ hx hby hml hown hnm hret hlocks hZ X0 e0
  have N0 := Fr.nil Z.heap.size
  have hsz : ∀ {Ls : Array Slot}, Ls.size = 2 → Ls.size = c.maxLocals := fun q => q.trans hml.symm
  refine goE (ef_rmI1 m (a1) (c0)) ?_
  show Goes p e below _ (s₁.setTop (mkF m 0 #[.val (.ref a1), .val (.int c0)] []))
  refine gAloadN X0 hx (hb hby d_jdk_42_method_79_0) rfl rfl ?_
  refine gIloadN X0 hx (hb hby d_jdk_42_method_79_1) rfl ?_
  refine gIconst X0 hx (hb hby d_jdk_42_method_79_2) (v := (0 : Int32)) rfl ?_
  refine goCallV X0 hx hZ hown (hw _ (List.mem_of_getElem? (i := 94) rfl)) (hw _ (List.mem_of_getElem? (i := 95) rfl)) (hw _ (List.mem_of_getElem? (i := 97) rfl)) (hw _ (List.mem_of_getElem? (i := 96) rfl)) (hw _ (List.mem_of_getElem? (i := 10) rfl)) (hw _ (List.mem_of_getElem? (i := 98) rfl)) (by decide) (rmI2 l Z a0 hw u cs a1 c0 h0 O0 S_cs hcs E1 V1 C1 Y1 q0) 0 (by decide) (by decide) e0 E1 (hsz rfl) [(.int c0), (.int (0 : Int32))] [] pd_1 rfl rfl rfl (Nat.le_of_eq rfl) (hb hby d_jdk_42_method_79_3) (by decide) (by decide) (fun Tt1 vt1 Lt1 Xt1 qt1 => ?_)
  obtain ⟨r_, rfl, N2, et1, alt⟩ := qt1
  have N3 := Fr.app N0 N2
  show Goes p e below _ (Tt1.setTop (mkF m 6 #[.val (.ref a1), .val (.int c0)] [(.int r_)]))
  exact goRetI Xt1 hx hret hlocks (hb hby d_jdk_42_method_79_6) (by decide) (by decide) et1 (⟨_, rfl, N3, rfl, alt⟩)
def own_Tx (Z : State) (h : Heap) (vm : Vm) : Prop := IB Z vm [] ∨ ∃ a u, Lit (Z.setVm vm) "com/example/rolegate/rolegate/HttpSyntax" 27 a ∧ Exa Z h a "java/lang/String" ∧ Fld Z h a "java/lang/String" "value" "[B" (.ref u) ∧ Fld Z h a "java/lang/String" "coder" "B" (.int (0 : Int32)) ∧ Ary Z h u .byte [(.int (33 : Int32)), (.int (35 : Int32)), (.int (36 : Int32)), (.int (37 : Int32)), (.int (38 : Int32)), (.int (39 : Int32)), (.int (42 : Int32)), (.int (43 : Int32)), (.int (45 : Int32)), (.int (46 : Int32)), (.int (94 : Int32)), (.int (95 : Int32)), (.int (96 : Int32)), (.int (124 : Int32)), (.int (126 : Int32))]
theorem own_Tx.keep {Z : State} {h h' : Heap} {vm : Vm} (F : own_Tx Z h vm) (K : Keep h h' []) : own_Tx Z h' vm := by
  rcases F with F | ⟨a, u, L, F0, F1, F2, F3⟩
  · exact Or.inl F
  · exact Or.inr ⟨a, u, L, F0.keep K, F1.keep K nin0, F2.keep K nin0, F3.keep K nin0⟩
theorem own_Tx.warm {Z s : State} {h : Heap} {vm0 vm1 : Vm} (F : own_Tx Z h vm0) (W : (s.setVm vm0).WarmedH vm1) : own_Tx Z h vm1 := by
  rcases F with F | ⟨a, u, L, F1, F2⟩
  · exact Or.inl (IB.warm F W)
  · exact Or.inr ⟨a, u, (Lit.stays (s := s) L W.wide :), F1, F2⟩
theorem d_prog_2_method_3_0 : decode prog_2_method_3_code 0 = .ok (.iload_n 0, 1) := by decide +kernel
theorem d_prog_2_method_3_1 : decode prog_2_method_3_code 1 = .ok (.bipush 97, 2) := by decide +kernel
theorem d_prog_2_method_3_3 : decode prog_2_method_3_code 3 = .ok (.if_icmp .lt 9, 3) := by decide +kernel
theorem d_prog_2_method_3_12 : decode prog_2_method_3_code 12 = .ok (.iload_n 0, 1) := by decide +kernel
theorem d_prog_2_method_3_13 : decode prog_2_method_3_code 13 = .ok (.bipush 65, 2) := by decide +kernel
theorem d_prog_2_method_3_15 : decode prog_2_method_3_code 15 = .ok (.if_icmp .lt 9, 3) := by decide +kernel
theorem d_prog_2_method_3_24 : decode prog_2_method_3_code 24 = .ok (.iload_n 0, 1) := by decide +kernel
theorem d_prog_2_method_3_25 : decode prog_2_method_3_code 25 = .ok (.bipush 48, 2) := by decide +kernel
theorem d_prog_2_method_3_27 : decode prog_2_method_3_code 27 = .ok (.if_icmp .lt 13, 3) := by decide +kernel
theorem d_prog_2_method_3_40 : decode prog_2_method_3_code 40 = .ok (.iconst 0, 1) := by decide +kernel
theorem d_prog_2_method_3_30 : decode prog_2_method_3_code 30 = .ok (.iload_n 0, 1) := by decide +kernel
theorem d_prog_2_method_3_31 : decode prog_2_method_3_code 31 = .ok (.bipush 57, 2) := by decide +kernel
theorem d_prog_2_method_3_33 : decode prog_2_method_3_code 33 = .ok (.if_icmp .gt 7, 3) := by decide +kernel
theorem d_prog_2_method_3_36 : decode prog_2_method_3_code 36 = .ok (.iconst 1, 1) := by decide +kernel
theorem d_prog_2_method_3_37 : decode prog_2_method_3_code 37 = .ok (.goto 4, 3) := by decide +kernel
theorem d_prog_2_method_3_18 : decode prog_2_method_3_code 18 = .ok (.iload_n 0, 1) := by decide +kernel
theorem d_prog_2_method_3_19 : decode prog_2_method_3_code 19 = .ok (.bipush 90, 2) := by decide +kernel
theorem d_prog_2_method_3_21 : decode prog_2_method_3_code 21 = .ok (.if_icmp .le 15, 3) := by decide +kernel
theorem d_prog_2_method_3_6 : decode prog_2_method_3_code 6 = .ok (.iload_n 0, 1) := by decide +kernel
theorem d_prog_2_method_3_7 : decode prog_2_method_3_code 7 = .ok (.bipush 122, 2) := by decide +kernel
theorem d_prog_2_method_3_9 : decode prog_2_method_3_code 9 = .ok (.if_icmp .le 27, 3) := by decide +kernel
theorem d_prog_2_method_3_41 : decode prog_2_method_3_code 41 = .ok (.istore_n 1, 1) := by decide +kernel
theorem d_prog_2_method_3_42 : decode prog_2_method_3_code 42 = .ok (.iload_n 1, 1) := by decide +kernel
theorem d_prog_2_method_3_43 : decode prog_2_method_3_code 43 = .ok (.ifCond .ne 12, 3) := by decide +kernel
theorem d_prog_2_method_3_55 : decode prog_2_method_3_code 55 = .ok (.iconst 1, 1) := by decide +kernel
theorem d_prog_2_method_3_56 : decode prog_2_method_3_code 56 = .ok (.goto 4, 3) := by decide +kernel
theorem d_prog_2_method_3_60 : decode prog_2_method_3_code 60 = .ok (.ireturn, 1) := by decide +kernel
theorem d_prog_2_method_3_46 : decode prog_2_method_3_code 46 = .ok (.ldc 27, 2) := by decide +kernel
theorem d_prog_2_method_3_48 : decode prog_2_method_3_code 48 = .ok (.iload_n 0, 1) := by decide +kernel
theorem pd_6 : parseMethodDescriptor "(I)I" = some ⟨[.int], some .int⟩ := by decide +kernel
theorem d_prog_2_method_3_49 : decode prog_2_method_3_code 49 = .ok (.invokevirtual 29, 3) := by decide +kernel
theorem d_prog_2_method_3_52 : decode prog_2_method_3_code 52 = .ok (.ifCond .lt 7, 3) := by decide +kernel
theorem d_prog_2_method_3_59 : decode prog_2_method_3_code 59 = .ok (.iconst 0, 1) := by decide +kernel
theorem pn_2 : plainName "com/example/rolegate/rolegate/HttpSyntax" = true := by first | (simp [plainName, overriddenIn]; done) | decide +kernel
theorem ef_rmTc (m : MethodId) (x0 : Int32) : entryFrame m #[(.int x0)] 2 = mkF m 0 #[.val (.int x0), .unset] [] := by first | (simp [entryFrame, mkF, argsToLocals, Value.category]; done) | rfl
set_option maxRecDepth 65536 in
set_option maxHeartbeats 40000000 in
theorem rmTc (l : Launch) (Z : State) (a0 : Array Value) (hw : ∀ d ∈ tables_1, d.before a0 Z = true) (cs : Int32) (c0 : Int32) (h0 : Heap) (O0 : Ext Z.heap h0) (S_cs : Sta Z Z.heap "java/lang/String" "COMPACT_STRINGS" "Z" (.int cs)) (hcs : ¬ cs = 0) (hh : Jvm.Lit.constHeld Z "com/example/rolegate/rolegate/HttpSyntax" 27) (hcw : Jvm.Lit.compactW.before a0 Z = true) (q0 : ¬ c0 < 0) :
    CtrW l Z (⟨"com/example/rolegate/rolegate/HttpSyntax", "isTokenCharacter", "(C)Z"⟩ : MethodName) prog_2_method_3_code 2 (some .boolean) [] ({ frames := 4, cells := 2, slots := 64, locals := 80 } : Room) #[(.int c0)] h0 (fun vm => own_Tx Z h0 vm) (fun v h L vm => v = some (.int (own_tc c0)) ∧ Fr Z.heap.size L ∧ Keep h0 h [] ∧ own_Tx Z h vm) := by
  refine ctrW (plainFor_of_name pn_2) ?_
  intro p e s m below meth c s₁ vm0 hx hby hml hown hnm hret hlocks hZ X0 e0 hS hh0 hPv
  have N0 := Fr.nil Z.heap.size
  have hsz : ∀ {Ls : Array Slot}, Ls.size = 2 → Ls.size = c.maxLocals := fun q => q.trans hml.symm
  have K0 := Keep.refl h0 []
  refine goE (ef_rmTc m (c0)) ?_
  show Goes p e below _ (s₁.setTop (mkF m 0 #[.val (.int c0), .unset] []))
  have J : ∀ (z : Int32), (z = 1 ∧ own_ld c0) ∨ (z = 0 ∧ ¬ own_ld c0) → Goes p e below (EndW s (fun v h L vm => v = some (.int (own_tc c0)) ∧ Fr Z.heap.size L ∧ Keep h0 h [] ∧ own_Tx Z h vm) ({ frames := 4, cells := 2, slots := 64, locals := 80 } : Room).cells ({ frames := 4, cells := 2, slots := 64, locals := 80 } : Room).slots) (s₁.setTop (mkF m 41 #[.val (.int c0), .unset] [(.int z)])) := by
    intro z hz
    rcases hz with ⟨rfl, hld⟩ | ⟨rfl, hld⟩
    · show Goes p e below _ (s₁.setTop (mkF m 41 #[.val (.int c0), .unset] [(.int (1 : Int32))]))
      refine gIstoreN X0 hx (hb hby d_prog_2_method_3_41) (l' := #[.val (.int c0), .val (.int (1 : Int32))]) rfl ?_
      refine gIloadN X0 hx (hb hby d_prog_2_method_3_42) rfl ?_
      refine gIfY X0 hx (hb hby d_prog_2_method_3_43) (pc' := 55) (XT.i0_ne_t (by decide)) (by decide) (by decide) ?_
      show Goes p e below _ (s₁.setTop (mkF m 55 #[.val (.int c0), .val (.int (1 : Int32))] []))
      refine gIconst X0 hx (hb hby d_prog_2_method_3_55) (v := (1 : Int32)) rfl ?_
      refine gGoto X0 hx (hb hby d_prog_2_method_3_56) (pc' := 60) (by decide) (by decide) ?_
      show Goes p e below _ (s₁.setTop (mkF m 60 #[.val (.int c0), .val (.int (1 : Int32))] [(.int (1 : Int32))]))
      exact goRetNW X0 hx hS (t := .boolean) hret hlocks (by simp) (hb hby d_prog_2_method_3_60) (z' := (1 : Int32)) rfl (by decide) (by decide) e0 (⟨by rw [own_tc, if_pos (Or.inl hld)], N0, K0, (hPv.keep K0).warm X0.warmed⟩)
    · show Goes p e below _ (s₁.setTop (mkF m 41 #[.val (.int c0), .unset] [(.int (0 : Int32))]))
      refine gIstoreN X0 hx (hb hby d_prog_2_method_3_41) (l' := #[.val (.int c0), .val (.int (0 : Int32))]) rfl ?_
      refine gIloadN X0 hx (hb hby d_prog_2_method_3_42) rfl ?_
      refine gIfN X0 hx (hb hby d_prog_2_method_3_43) (XT.i0_ne_f (by decide)) ?_
      show Goes p e below _ (s₁.setTop (mkF m 46 #[.val (.int c0), .val (.int (0 : Int32))] []))
      rcases hPv with I0 | ⟨ea, eu, Li, Ee, Ev, Ec, Ey⟩
      · obtain ⟨kt1, sat1, sbt1⟩ := hS
        obtain ⟨at1, Tt1, ht1, kkt1, bt1, kct1, Xt1, et1, Et1, snt1, knt1, hZ, hown, Eat1, Fct1, Fvt1, Yvt1, lat1, lbt1, IBt1, Lit1, stt1⟩ := ldcSVL X0 hx hZ hown (hw _ (List.mem_of_getElem? (i := 88) rfl)) (own_wS hw) e0 sat1 sbt1 (Fr.nil _) (fun b cl q => by rw [hh0]; exact O0.2 b cl q) I0 (by simp) hh hcw (vs := [.int (33), .int (35), .int (36), .int (37), .int (38), .int (39), .int (42), .int (43), .int (45), .int (46), .int (94), .int (95), .int (96), .int (124), .int (126)]) (z := (15 : Int32)) ⟨by decide, rfl⟩ (by decide) (by decide) (g := (mkF m 46 #[.val (.int c0), .val (.int (0 : Int32))] [])) rfl (hb hby d_prog_2_method_3_46) (n := 60) (by decide) (by decide) (by decide) (by decide)
        refine go stt1 ?_
        have hS : Sn s Tt1.vm ht1 := ⟨_, snt1, knt1⟩
        have O2 : Ext Z.heap ht1 := extT O0 Et1
        have K3 := K0.ext Et1
        have Yct1 := Arv.ary Yvt1 (by decide)
        show Goes p e below _ (Tt1.setTop (mkF m 48 #[.val (.int c0), .val (.int (0 : Int32))] [(.ref at1)]))
        refine gIloadN Xt1 hx (hb hby d_prog_2_method_3_48) rfl ?_
        refine goCallV Xt1 hx hZ hown (hw _ (List.mem_of_getElem? (i := 89) rfl)) (hw _ (List.mem_of_getElem? (i := 90) rfl)) (hw _ (List.mem_of_getElem? (i := 92) rfl)) (hw _ (List.mem_of_getElem? (i := 91) rfl)) (hw _ (List.mem_of_getElem? (i := 10) rfl)) (hw _ (List.mem_of_getElem? (i := 93) rfl)) (by decide) (rmI1 l Z a0 hw bt1 cs at1 c0 ht1 O2 S_cs hcs Eat1 Fvt1 Fct1 Yct1 q0) 0 (by decide) (by decide) et1 Eat1 (hsz rfl) [(.int c0)] [] pd_6 rfl rfl rfl (Nat.le_of_eq rfl) (hb hby d_prog_2_method_3_49) (by decide) (by decide) (fun Tt4 vt4 Lt4 Xt4 qt4 => ?_)
        obtain ⟨r_, rfl, N5, et4, alt⟩ := qt4
        have N6 := Fr.app N0 N5
        show Goes p e below _ (Tt4.setTop (mkF m 52 #[.val (.int c0), .val (.int (0 : Int32))] [(.int r_)]))
        rcases alt with ⟨hr, ht⟩ | ⟨hr, ht⟩
        · refine gIfN Xt4 hx (hb hby d_prog_2_method_3_52) (XT.i0_lt_f hr) ?_
          show Goes p e below _ (Tt4.setTop (mkF m 55 #[.val (.int c0), .val (.int (0 : Int32))] []))
          refine gIconst Xt4 hx (hb hby d_prog_2_method_3_55) (v := (1 : Int32)) rfl ?_
          refine gGoto Xt4 hx (hb hby d_prog_2_method_3_56) (pc' := 60) (by decide) (by decide) ?_
          show Goes p e below _ (Tt4.setTop (mkF m 60 #[.val (.int c0), .val (.int (0 : Int32))] [(.int (1 : Int32))]))
          exact goRetNW Xt4 hx hS (t := .boolean) hret hlocks (by simp) (hb hby d_prog_2_method_3_60) (z' := (1 : Int32)) rfl (by decide) (by decide) et4 (⟨by rw [own_tc, if_pos (Or.inr ht)], N6, K3, Or.inr ⟨at1, bt1, (Lit.stays (s := s) Lit1 Xt4.warmed.wide :), Eat1, Fvt1, Fct1, Yct1⟩⟩)
        · refine gIfY Xt4 hx (hb hby d_prog_2_method_3_52) (pc' := 59) (XT.i0_lt_t hr) (by decide) (by decide) ?_
          show Goes p e below _ (Tt4.setTop (mkF m 59 #[.val (.int c0), .val (.int (0 : Int32))] []))
          refine gIconst Xt4 hx (hb hby d_prog_2_method_3_59) (v := (0 : Int32)) rfl ?_
          exact goRetNW Xt4 hx hS (t := .boolean) hret hlocks (by simp) (hb hby d_prog_2_method_3_60) (z' := (0 : Int32)) rfl (by decide) (by decide) et4 (⟨by rw [own_tc, if_neg (fun q => q.elim hld ht)], N6, K3, Or.inr ⟨at1, bt1, (Lit.stays (s := s) Lit1 Xt4.warmed.wide :), Eat1, Fvt1, Fct1, Yct1⟩⟩)
      · refine go (ldcAgain X0 hx hZ hown (hw _ (List.mem_of_getElem? (i := 88) rfl)) Li (g := (mkF m 46 #[.val (.int c0), .val (.int (0 : Int32))] [])) rfl (hb hby d_prog_2_method_3_46)) ?_
        show Goes p e below _ (s₁.setTop (mkF m 48 #[.val (.int c0), .val (.int (0 : Int32))] [(.ref ea)]))
        refine gIloadN X0 hx (hb hby d_prog_2_method_3_48) rfl ?_
        refine goCallV X0 hx hZ hown (hw _ (List.mem_of_getElem? (i := 89) rfl)) (hw _ (List.mem_of_getElem? (i := 90) rfl)) (hw _ (List.mem_of_getElem? (i := 92) rfl)) (hw _ (List.mem_of_getElem? (i := 91) rfl)) (hw _ (List.mem_of_getElem? (i := 10) rfl)) (hw _ (List.mem_of_getElem? (i := 93) rfl)) (by decide) (rmI1 l Z a0 hw eu cs ea c0 h0 O0 S_cs hcs Ee Ev Ec Ey q0) 0 (by decide) (by decide) e0 Ee (hsz rfl) [(.int c0)] [] pd_6 rfl rfl rfl (Nat.le_of_eq rfl) (hb hby d_prog_2_method_3_49) (by decide) (by decide) (fun Tt7 vt7 Lt7 Xt7 qt7 => ?_)
        obtain ⟨r_, rfl, N8, et7, alt⟩ := qt7
        have N9 := Fr.app N0 N8
        show Goes p e below _ (Tt7.setTop (mkF m 52 #[.val (.int c0), .val (.int (0 : Int32))] [(.int r_)]))
        rcases alt with ⟨hr, ht⟩ | ⟨hr, ht⟩
        · refine gIfN Xt7 hx (hb hby d_prog_2_method_3_52) (XT.i0_lt_f hr) ?_
          show Goes p e below _ (Tt7.setTop (mkF m 55 #[.val (.int c0), .val (.int (0 : Int32))] []))
          refine gIconst Xt7 hx (hb hby d_prog_2_method_3_55) (v := (1 : Int32)) rfl ?_
          refine gGoto Xt7 hx (hb hby d_prog_2_method_3_56) (pc' := 60) (by decide) (by decide) ?_
          show Goes p e below _ (Tt7.setTop (mkF m 60 #[.val (.int c0), .val (.int (0 : Int32))] [(.int (1 : Int32))]))
          exact goRetNW Xt7 hx hS (t := .boolean) hret hlocks (by simp) (hb hby d_prog_2_method_3_60) (z' := (1 : Int32)) rfl (by decide) (by decide) et7 (⟨by rw [own_tc, if_pos (Or.inr ht)], N9, K0, Or.inr ⟨ea, eu, (Lit.stays (s := s) Li Xt7.warmed.wide :), Ee, Ev, Ec, Ey⟩⟩)
        · refine gIfY Xt7 hx (hb hby d_prog_2_method_3_52) (pc' := 59) (XT.i0_lt_t hr) (by decide) (by decide) ?_
          show Goes p e below _ (Tt7.setTop (mkF m 59 #[.val (.int c0), .val (.int (0 : Int32))] []))
          refine gIconst Xt7 hx (hb hby d_prog_2_method_3_59) (v := (0 : Int32)) rfl ?_
          exact goRetNW Xt7 hx hS (t := .boolean) hret hlocks (by simp) (hb hby d_prog_2_method_3_60) (z' := (0 : Int32)) rfl (by decide) (by decide) et7 (⟨by rw [own_tc, if_neg (fun q => q.elim hld ht)], N9, K0, Or.inr ⟨ea, eu, (Lit.stays (s := s) Li Xt7.warmed.wide :), Ee, Ev, Ec, Ey⟩⟩)
  refine gIloadN X0 hx (hb hby d_prog_2_method_3_0) rfl ?_
  refine gBipush X0 hx (hb hby d_prog_2_method_3_1) (v := (97 : Int32)) rfl ?_
  by_cases l1 : c0 < (97 : Int32)
  · refine gIcmpY X0 hx (hb hby d_prog_2_method_3_3) (pc' := 12) (XT.ii_lt_t l1) (by decide) (by decide) ?_
    show Goes p e below _ (s₁.setTop (mkF m 12 #[.val (.int c0), .unset] []))
    refine gIloadN X0 hx (hb hby d_prog_2_method_3_12) rfl ?_
    refine gBipush X0 hx (hb hby d_prog_2_method_3_13) (v := (65 : Int32)) rfl ?_
    by_cases l2 : c0 < (65 : Int32)
    · refine gIcmpY X0 hx (hb hby d_prog_2_method_3_15) (pc' := 24) (XT.ii_lt_t l2) (by decide) (by decide) ?_
      show Goes p e below _ (s₁.setTop (mkF m 24 #[.val (.int c0), .unset] []))
      refine gIloadN X0 hx (hb hby d_prog_2_method_3_24) rfl ?_
      refine gBipush X0 hx (hb hby d_prog_2_method_3_25) (v := (48 : Int32)) rfl ?_
      by_cases l3 : c0 < (48 : Int32)
      · refine gIcmpY X0 hx (hb hby d_prog_2_method_3_27) (pc' := 40) (XT.ii_lt_t l3) (by decide) (by decide) ?_
        show Goes p e below _ (s₁.setTop (mkF m 40 #[.val (.int c0), .unset] []))
        refine gIconst X0 hx (hb hby d_prog_2_method_3_40) (v := (0 : Int32)) rfl ?_
        exact J _ (Or.inr ⟨rfl, fun q => q.elim (fun z => z.1 l1) (fun z => z.elim (fun z => z.1 l2) (fun z => z.1 l3))⟩)
      · refine gIcmpN X0 hx (hb hby d_prog_2_method_3_27) (XT.ii_lt_f l3) ?_
        show Goes p e below _ (s₁.setTop (mkF m 30 #[.val (.int c0), .unset] []))
        refine gIloadN X0 hx (hb hby d_prog_2_method_3_30) rfl ?_
        refine gBipush X0 hx (hb hby d_prog_2_method_3_31) (v := (57 : Int32)) rfl ?_
        by_cases u3 : (57 : Int32) < c0
        · refine gIcmpY X0 hx (hb hby d_prog_2_method_3_33) (pc' := 40) (XT.ii_gt_t u3) (by decide) (by decide) ?_
          show Goes p e below _ (s₁.setTop (mkF m 40 #[.val (.int c0), .unset] []))
          refine gIconst X0 hx (hb hby d_prog_2_method_3_40) (v := (0 : Int32)) rfl ?_
          exact J _ (Or.inr ⟨rfl, fun q => q.elim (fun z => z.1 l1) (fun z => z.elim (fun z => z.1 l2) (fun z => z.2 u3))⟩)
        · refine gIcmpN X0 hx (hb hby d_prog_2_method_3_33) (XT.ii_gt_f u3) ?_
          show Goes p e below _ (s₁.setTop (mkF m 36 #[.val (.int c0), .unset] []))
          refine gIconst X0 hx (hb hby d_prog_2_method_3_36) (v := (1 : Int32)) rfl ?_
          refine gGoto X0 hx (hb hby d_prog_2_method_3_37) (pc' := 41) (by decide) (by decide) ?_
          show Goes p e below _ (s₁.setTop (mkF m 41 #[.val (.int c0), .unset] [(.int (1 : Int32))]))
          exact J _ (Or.inl ⟨rfl, Or.inr (Or.inr ⟨l3, u3⟩)⟩)
    · refine gIcmpN X0 hx (hb hby d_prog_2_method_3_15) (XT.ii_lt_f l2) ?_
      show Goes p e below _ (s₁.setTop (mkF m 18 #[.val (.int c0), .unset] []))
      refine gIloadN X0 hx (hb hby d_prog_2_method_3_18) rfl ?_
      refine gBipush X0 hx (hb hby d_prog_2_method_3_19) (v := (90 : Int32)) rfl ?_
      by_cases u2 : (90 : Int32) < c0
      · refine gIcmpN X0 hx (hb hby d_prog_2_method_3_21) (XT.ii_le_f u2) ?_
        show Goes p e below _ (s₁.setTop (mkF m 24 #[.val (.int c0), .unset] []))
        refine gIloadN X0 hx (hb hby d_prog_2_method_3_24) rfl ?_
        refine gBipush X0 hx (hb hby d_prog_2_method_3_25) (v := (48 : Int32)) rfl ?_
        by_cases l3 : c0 < (48 : Int32)
        · refine gIcmpY X0 hx (hb hby d_prog_2_method_3_27) (pc' := 40) (XT.ii_lt_t l3) (by decide) (by decide) ?_
          show Goes p e below _ (s₁.setTop (mkF m 40 #[.val (.int c0), .unset] []))
          refine gIconst X0 hx (hb hby d_prog_2_method_3_40) (v := (0 : Int32)) rfl ?_
          exact J _ (Or.inr ⟨rfl, fun q => q.elim (fun z => z.1 l1) (fun z => z.elim (fun z => z.2 u2) (fun z => z.1 l3))⟩)
        · refine gIcmpN X0 hx (hb hby d_prog_2_method_3_27) (XT.ii_lt_f l3) ?_
          show Goes p e below _ (s₁.setTop (mkF m 30 #[.val (.int c0), .unset] []))
          refine gIloadN X0 hx (hb hby d_prog_2_method_3_30) rfl ?_
          refine gBipush X0 hx (hb hby d_prog_2_method_3_31) (v := (57 : Int32)) rfl ?_
          by_cases u3 : (57 : Int32) < c0
          · refine gIcmpY X0 hx (hb hby d_prog_2_method_3_33) (pc' := 40) (XT.ii_gt_t u3) (by decide) (by decide) ?_
            show Goes p e below _ (s₁.setTop (mkF m 40 #[.val (.int c0), .unset] []))
            refine gIconst X0 hx (hb hby d_prog_2_method_3_40) (v := (0 : Int32)) rfl ?_
            exact J _ (Or.inr ⟨rfl, fun q => q.elim (fun z => z.1 l1) (fun z => z.elim (fun z => z.2 u2) (fun z => z.2 u3))⟩)
          · refine gIcmpN X0 hx (hb hby d_prog_2_method_3_33) (XT.ii_gt_f u3) ?_
            show Goes p e below _ (s₁.setTop (mkF m 36 #[.val (.int c0), .unset] []))
            refine gIconst X0 hx (hb hby d_prog_2_method_3_36) (v := (1 : Int32)) rfl ?_
            refine gGoto X0 hx (hb hby d_prog_2_method_3_37) (pc' := 41) (by decide) (by decide) ?_
            show Goes p e below _ (s₁.setTop (mkF m 41 #[.val (.int c0), .unset] [(.int (1 : Int32))]))
            exact J _ (Or.inl ⟨rfl, Or.inr (Or.inr ⟨l3, u3⟩)⟩)
      · refine gIcmpY X0 hx (hb hby d_prog_2_method_3_21) (pc' := 36) (XT.ii_le_t u2) (by decide) (by decide) ?_
        show Goes p e below _ (s₁.setTop (mkF m 36 #[.val (.int c0), .unset] []))
        refine gIconst X0 hx (hb hby d_prog_2_method_3_36) (v := (1 : Int32)) rfl ?_
        refine gGoto X0 hx (hb hby d_prog_2_method_3_37) (pc' := 41) (by decide) (by decide) ?_
        show Goes p e below _ (s₁.setTop (mkF m 41 #[.val (.int c0), .unset] [(.int (1 : Int32))]))
        exact J _ (Or.inl ⟨rfl, Or.inr (Or.inl ⟨l2, u2⟩)⟩)
  · refine gIcmpN X0 hx (hb hby d_prog_2_method_3_3) (XT.ii_lt_f l1) ?_
    show Goes p e below _ (s₁.setTop (mkF m 6 #[.val (.int c0), .unset] []))
    refine gIloadN X0 hx (hb hby d_prog_2_method_3_6) rfl ?_
    refine gBipush X0 hx (hb hby d_prog_2_method_3_7) (v := (122 : Int32)) rfl ?_
    by_cases u1 : (122 : Int32) < c0
    · refine gIcmpN X0 hx (hb hby d_prog_2_method_3_9) (XT.ii_le_f u1) ?_
      show Goes p e below _ (s₁.setTop (mkF m 12 #[.val (.int c0), .unset] []))
      refine gIloadN X0 hx (hb hby d_prog_2_method_3_12) rfl ?_
      refine gBipush X0 hx (hb hby d_prog_2_method_3_13) (v := (65 : Int32)) rfl ?_
      by_cases l2 : c0 < (65 : Int32)
      · refine gIcmpY X0 hx (hb hby d_prog_2_method_3_15) (pc' := 24) (XT.ii_lt_t l2) (by decide) (by decide) ?_
        show Goes p e below _ (s₁.setTop (mkF m 24 #[.val (.int c0), .unset] []))
        refine gIloadN X0 hx (hb hby d_prog_2_method_3_24) rfl ?_
        refine gBipush X0 hx (hb hby d_prog_2_method_3_25) (v := (48 : Int32)) rfl ?_
        by_cases l3 : c0 < (48 : Int32)
        · refine gIcmpY X0 hx (hb hby d_prog_2_method_3_27) (pc' := 40) (XT.ii_lt_t l3) (by decide) (by decide) ?_
          show Goes p e below _ (s₁.setTop (mkF m 40 #[.val (.int c0), .unset] []))
          refine gIconst X0 hx (hb hby d_prog_2_method_3_40) (v := (0 : Int32)) rfl ?_
          exact J _ (Or.inr ⟨rfl, fun q => q.elim (fun z => z.2 u1) (fun z => z.elim (fun z => z.1 l2) (fun z => z.1 l3))⟩)
        · refine gIcmpN X0 hx (hb hby d_prog_2_method_3_27) (XT.ii_lt_f l3) ?_
          show Goes p e below _ (s₁.setTop (mkF m 30 #[.val (.int c0), .unset] []))
          refine gIloadN X0 hx (hb hby d_prog_2_method_3_30) rfl ?_
          refine gBipush X0 hx (hb hby d_prog_2_method_3_31) (v := (57 : Int32)) rfl ?_
          by_cases u3 : (57 : Int32) < c0
          · refine gIcmpY X0 hx (hb hby d_prog_2_method_3_33) (pc' := 40) (XT.ii_gt_t u3) (by decide) (by decide) ?_
            show Goes p e below _ (s₁.setTop (mkF m 40 #[.val (.int c0), .unset] []))
            refine gIconst X0 hx (hb hby d_prog_2_method_3_40) (v := (0 : Int32)) rfl ?_
            exact J _ (Or.inr ⟨rfl, fun q => q.elim (fun z => z.2 u1) (fun z => z.elim (fun z => z.1 l2) (fun z => z.2 u3))⟩)
          · refine gIcmpN X0 hx (hb hby d_prog_2_method_3_33) (XT.ii_gt_f u3) ?_
            show Goes p e below _ (s₁.setTop (mkF m 36 #[.val (.int c0), .unset] []))
            refine gIconst X0 hx (hb hby d_prog_2_method_3_36) (v := (1 : Int32)) rfl ?_
            refine gGoto X0 hx (hb hby d_prog_2_method_3_37) (pc' := 41) (by decide) (by decide) ?_
            show Goes p e below _ (s₁.setTop (mkF m 41 #[.val (.int c0), .unset] [(.int (1 : Int32))]))
            exact J _ (Or.inl ⟨rfl, Or.inr (Or.inr ⟨l3, u3⟩)⟩)
      · refine gIcmpN X0 hx (hb hby d_prog_2_method_3_15) (XT.ii_lt_f l2) ?_
        show Goes p e below _ (s₁.setTop (mkF m 18 #[.val (.int c0), .unset] []))
        refine gIloadN X0 hx (hb hby d_prog_2_method_3_18) rfl ?_
        refine gBipush X0 hx (hb hby d_prog_2_method_3_19) (v := (90 : Int32)) rfl ?_
        by_cases u2 : (90 : Int32) < c0
        · refine gIcmpN X0 hx (hb hby d_prog_2_method_3_21) (XT.ii_le_f u2) ?_
          show Goes p e below _ (s₁.setTop (mkF m 24 #[.val (.int c0), .unset] []))
          refine gIloadN X0 hx (hb hby d_prog_2_method_3_24) rfl ?_
          refine gBipush X0 hx (hb hby d_prog_2_method_3_25) (v := (48 : Int32)) rfl ?_
          by_cases l3 : c0 < (48 : Int32)
          · refine gIcmpY X0 hx (hb hby d_prog_2_method_3_27) (pc' := 40) (XT.ii_lt_t l3) (by decide) (by decide) ?_
            show Goes p e below _ (s₁.setTop (mkF m 40 #[.val (.int c0), .unset] []))
            refine gIconst X0 hx (hb hby d_prog_2_method_3_40) (v := (0 : Int32)) rfl ?_
            exact J _ (Or.inr ⟨rfl, fun q => q.elim (fun z => z.2 u1) (fun z => z.elim (fun z => z.2 u2) (fun z => z.1 l3))⟩)
          · refine gIcmpN X0 hx (hb hby d_prog_2_method_3_27) (XT.ii_lt_f l3) ?_
            show Goes p e below _ (s₁.setTop (mkF m 30 #[.val (.int c0), .unset] []))
            refine gIloadN X0 hx (hb hby d_prog_2_method_3_30) rfl ?_
            refine gBipush X0 hx (hb hby d_prog_2_method_3_31) (v := (57 : Int32)) rfl ?_
            by_cases u3 : (57 : Int32) < c0
            · refine gIcmpY X0 hx (hb hby d_prog_2_method_3_33) (pc' := 40) (XT.ii_gt_t u3) (by decide) (by decide) ?_
              show Goes p e below _ (s₁.setTop (mkF m 40 #[.val (.int c0), .unset] []))
              refine gIconst X0 hx (hb hby d_prog_2_method_3_40) (v := (0 : Int32)) rfl ?_
              exact J _ (Or.inr ⟨rfl, fun q => q.elim (fun z => z.2 u1) (fun z => z.elim (fun z => z.2 u2) (fun z => z.2 u3))⟩)
            · refine gIcmpN X0 hx (hb hby d_prog_2_method_3_33) (XT.ii_gt_f u3) ?_
              show Goes p e below _ (s₁.setTop (mkF m 36 #[.val (.int c0), .unset] []))
              refine gIconst X0 hx (hb hby d_prog_2_method_3_36) (v := (1 : Int32)) rfl ?_
              refine gGoto X0 hx (hb hby d_prog_2_method_3_37) (pc' := 41) (by decide) (by decide) ?_
              show Goes p e below _ (s₁.setTop (mkF m 41 #[.val (.int c0), .unset] [(.int (1 : Int32))]))
              exact J _ (Or.inl ⟨rfl, Or.inr (Or.inr ⟨l3, u3⟩)⟩)
        · refine gIcmpY X0 hx (hb hby d_prog_2_method_3_21) (pc' := 36) (XT.ii_le_t u2) (by decide) (by decide) ?_
          show Goes p e below _ (s₁.setTop (mkF m 36 #[.val (.int c0), .unset] []))
          refine gIconst X0 hx (hb hby d_prog_2_method_3_36) (v := (1 : Int32)) rfl ?_
          refine gGoto X0 hx (hb hby d_prog_2_method_3_37) (pc' := 41) (by decide) (by decide) ?_
          show Goes p e below _ (s₁.setTop (mkF m 41 #[.val (.int c0), .unset] [(.int (1 : Int32))]))
          exact J _ (Or.inl ⟨rfl, Or.inr (Or.inl ⟨l2, u2⟩)⟩)
    · refine gIcmpY X0 hx (hb hby d_prog_2_method_3_9) (pc' := 36) (XT.ii_le_t u1) (by decide) (by decide) ?_
      show Goes p e below _ (s₁.setTop (mkF m 36 #[.val (.int c0), .unset] []))
      refine gIconst X0 hx (hb hby d_prog_2_method_3_36) (v := (1 : Int32)) rfl ?_
      refine gGoto X0 hx (hb hby d_prog_2_method_3_37) (pc' := 41) (by decide) (by decide) ?_
      show Goes p e below _ (s₁.setTop (mkF m 41 #[.val (.int c0), .unset] [(.int (1 : Int32))]))
      exact J _ (Or.inl ⟨rfl, Or.inl ⟨l1, u1⟩⟩)
def own_gc (x y : Int32) : Int32 := (((x &&& (255 : Int32)) <<< ((0 : Int32) &&& 31)) ||| ((y &&& (255 : Int32)) <<< ((8 : Int32) &&& 31))).toUInt32.toUInt16.toUInt32.toInt32
theorem own_gcc {c : Int32} (q0 : ¬ c < 0) (q1 : ¬ (65535 : Int32) < c) : own_gc ((c >>> ((0 : Int32) &&& 31)).toInt8.toInt32) ((c >>> ((8 : Int32) &&& 31)).toInt8.toInt32) = c := by
  rw [Int32.lt_iff_toInt_lt] at q0 q1
  rw [show (0 : Int32).toInt = 0 by decide] at q0
  rw [show (65535 : Int32).toInt = 65535 by decide] at q1
  apply Int32.toInt_inj.mp
  unfold own_gc
  have a0 : (c >>> ((0 : Int32) &&& 31)).toInt = c.toInt / 1 := c_ishr c 0 0 (by decide)
  have a8 : (c >>> ((8 : Int32) &&& 31)).toInt = c.toInt / 256 := c_ishr c 8 8 (by decide)
  have i0 := (c_i2b (c >>> ((0 : Int32) &&& 31))).1
  have i8 := (c_i2b (c >>> ((8 : Int32) &&& 31))).1
  generalize (c >>> ((0 : Int32) &&& 31)).toInt8.toInt32 = x at *
  generalize (c >>> ((8 : Int32) &&& 31)).toInt8.toInt32 = y at *
  have m0 : (x &&& 255).toInt = x.toInt % 256 := c_mask x 255 8 (by decide) (by decide)
  have m8 : (y &&& 255).toInt = y.toInt % 256 := c_mask y 255 8 (by decide) (by decide)
  have l0 : (((x &&& 255) <<< ((0 : Int32) &&& 31)).toInt - (x &&& 255).toInt * 1) % 4294967296 = 0 := c_ishl (x &&& 255) 0 0 (by decide)
  have l8 : (((y &&& 255) <<< ((8 : Int32) &&& 31)).toInt - (y &&& 255).toInt * 256) % 4294967296 = 0 := c_ishl (y &&& 255) 8 8 (by decide)
  have g0 := Int32.toInt_lt ((x &&& 255) <<< ((0 : Int32) &&& 31))
  have g1 := Int32.le_toInt ((x &&& 255) <<< ((0 : Int32) &&& 31))
  have g2 := Int32.toInt_lt ((y &&& 255) <<< ((8 : Int32) &&& 31))
  have g3 := Int32.le_toInt ((y &&& 255) <<< ((8 : Int32) &&& 31))
  generalize (x &&& 255) <<< ((0 : Int32) &&& 31) = u at *
  generalize (y &&& 255) <<< ((8 : Int32) &&& 31) = v at *
  have o := c_or' u v 8 (by decide) 256 (by decide) (by omega) (by omega) (by omega)
  have z := c_i2c (u ||| v)
  omega
theorem own_lc {c : Int32} (q0 : ¬ c < 0) (q1 : ¬ (255 : Int32) < c) : ((c.toInt8.toInt32) &&& (255 : Int32)).toUInt32.toUInt16.toUInt32.toInt32 = c := by
  rw [Int32.lt_iff_toInt_lt] at q0 q1
  rw [show (0 : Int32).toInt = 0 by decide] at q0
  rw [show (255 : Int32).toInt = 255 by decide] at q1
  apply Int32.toInt_inj.mp
  have i0 := (c_i2b c).1
  have m0 : (c.toInt8.toInt32 &&& 255).toInt = c.toInt8.toInt32.toInt % 256 := c_mask c.toInt8.toInt32 255 8 (by decide) (by decide)
  have z := c_i2c (c.toInt8.toInt32 &&& 255)
  omega
theorem own_dr (x : Int32) : nar .char (x.toUInt32.toUInt16.toUInt32.toInt32) = x.toUInt32.toUInt16.toUInt32.toInt32 ∧ ¬ x.toUInt32.toUInt16.toUInt32.toInt32 < 0 ∧ ¬ (65535 : Int32) < x.toUInt32.toUInt16.toUInt32.toInt32 := by
  have z := c_i2c x
  refine ⟨narc _, ?_, ?_⟩
  · rw [Int32.lt_iff_toInt_lt, show (0 : Int32).toInt = 0 by decide]; omega
  · rw [Int32.lt_iff_toInt_lt, show (65535 : Int32).toInt = 65535 by decide]; omega
theorem own_len (x : Int32) : x &&& (3 : Int32) = 0 ∨ x &&& (3 : Int32) = 1 ∨ x &&& (3 : Int32) = 2 ∨ x &&& (3 : Int32) = 3 := by
  have m : (x &&& 3).toInt = x.toInt % 4 := c_mask x 3 2 (by decide) (by decide)
  simp only [← Int32.toInt_inj, m]
  show _ = 0 ∨ _ = 1 ∨ _ = 2 ∨ _ = 3
  omega
theorem own_ane {Z : State} {h : Heap} {b a : Addr} {ty : FieldType} {C n d : String} {v : Value} (F : Ary Z h b ty []) (G : Fld Z h a C n d v) : b ≠ a := fun e => by
  subst e
  obtain ⟨c1, A, r, -⟩ := F
  obtain ⟨c2, _, _, _, _, g1, g2, -, -, -, -, g7⟩ := G
  cases A.1.symm.trans g1
  rw [← Array.getElem?_toList, r] at g7
  simp at g7
theorem own_tc1 {x : Int32} (h : own_ld x ∨ own_tk x) : ¬ own_tc x = 0 := by rw [own_tc, if_pos h]; decide
theorem own_tc0 {x : Int32} (h : ¬ (own_ld x ∨ own_tk x)) : own_tc x = 0 := by rw [own_tc, if_neg h]
theorem d_jdk_41_method_11_0 : decode jdk_41_method_11_code 0 = .ok (.iload_n 0, 1) := by decide +kernel
theorem d_jdk_41_method_11_1 : decode jdk_41_method_11_code 1 = .ok (.ifCond .lt 8, 3) := by decide +kernel
theorem d_jdk_41_method_11_4 : decode jdk_41_method_11_code 4 = .ok (.iload_n 0, 1) := by decide +kernel
theorem d_jdk_41_method_11_5 : decode jdk_41_method_11_code 5 = .ok (.iload_n 1, 1) := by decide +kernel
theorem d_jdk_41_method_11_6 : decode jdk_41_method_11_code 6 = .ok (.if_icmp .lt 10, 3) := by decide +kernel
theorem d_jdk_41_method_11_16 : decode jdk_41_method_11_code 16 = .ok (.iload_n 0, 1) := by decide +kernel
theorem d_jdk_41_method_11_17 : decode jdk_41_method_11_code 17 = .ok (.ireturn, 1) := by decide +kernel
theorem pn_3 : plainName "jdk/internal/util/Preconditions" = true := by first | (simp [plainName, overriddenIn]; done) | decide +kernel
theorem ef_rmPn (m : MethodId) (x0 : Int32) (x1 : Int32) : entryFrame m #[(.int x0), (.int x1), .null] 3 = mkF m 0 #[.val (.int x0), .val (.int x1), .val .null] [] := by first | (simp [entryFrame, mkF, argsToLocals, Value.category]; done) | rfl
set_option maxRecDepth 65536 in
set_option maxHeartbeats 40000000 in
theorem rmPn (l : Launch) (Z : State) (a0 : Array Value) (hw : ∀ d ∈ tables_1, d.before a0 Z = true)  (i_ : Int32) (n_ : Int32) (h0 : Heap) (O0 : Ext Z.heap h0) (k1 : ¬ i_ < 0) (k2 : i_ < n_) :
    Ctr l Z (⟨"jdk/internal/util/Preconditions", "checkIndex", "(IILjava/util/function/BiFunction;)I"⟩ : MethodName) jdk_41_method_11_code 3 (some .int) [] ({ frames := 0, cells := 0, slots := 0, locals := 0 } : Room) #[(.int i_), (.int n_), .null] h0 (fun v h L => v = some (.int i_) ∧ Fr Z.heap.size L ∧ h = h0) := by
  refine ctr (plainFor_of_name pn_3) ?_
  intro p e s m below meth c s₁ hx hby hml hown hnm hret hlocks hZ X0 e0
  have N0 := Fr.nil Z.heap.size
  have hsz : ∀ {Ls : Array Slot}, Ls.size = 3 → Ls.size = c.maxLocals := fun q => q.trans hml.symm
  refine goE (ef_rmPn m (i_) (n_)) ?_
  show Goes p e below _ (s₁.setTop (mkF m 0 #[.val (.int i_), .val (.int n_), .val .null] []))
  refine gIloadN X0 hx (hb hby d_jdk_41_method_11_0) rfl ?_
  refine gIfN X0 hx (hb hby d_jdk_41_method_11_1) (XT.i0_lt_f k1) ?_
  show Goes p e below _ (s₁.setTop (mkF m 4 #[.val (.int i_), .val (.int n_), .val .null] []))
  refine gIloadN X0 hx (hb hby d_jdk_41_method_11_4) rfl ?_
  refine gIloadN X0 hx (hb hby d_jdk_41_method_11_5) rfl ?_
  refine gIcmpY X0 hx (hb hby d_jdk_41_method_11_6) (pc' := 16) (XT.ii_lt_t k2) (by decide) (by decide) ?_
  show Goes p e below _ (s₁.setTop (mkF m 16 #[.val (.int i_), .val (.int n_), .val .null] []))
  refine gIloadN X0 hx (hb hby d_jdk_41_method_11_16) rfl ?_
  exact goRetI X0 hx hret hlocks (hb hby d_jdk_41_method_11_17) (by decide) (by decide) e0 (⟨rfl, N0, rfl⟩)
theorem ef_rmPa (m : MethodId) (x0 : Int32) (x1 : Int32) (x2 : Addr) : entryFrame m #[(.int x0), (.int x1), (.ref x2)] 3 = mkF m 0 #[.val (.int x0), .val (.int x1), .val (.ref x2)] [] := by first | (simp [entryFrame, mkF, argsToLocals, Value.category]; done) | rfl
set_option maxRecDepth 65536 in
set_option maxHeartbeats 40000000 in
theorem rmPa (l : Launch) (Z : State) (a0 : Array Value) (hw : ∀ d ∈ tables_1, d.before a0 Z = true)  (i_ : Int32) (n_ : Int32) (fa : Addr) (h0 : Heap) (O0 : Ext Z.heap h0) (k1 : ¬ i_ < 0) (k2 : i_ < n_) :
    Ctr l Z (⟨"jdk/internal/util/Preconditions", "checkIndex", "(IILjava/util/function/BiFunction;)I"⟩ : MethodName) jdk_41_method_11_code 3 (some .int) [] ({ frames := 0, cells := 0, slots := 0, locals := 0 } : Room) #[(.int i_), (.int n_), (.ref fa)] h0 (fun v h L => v = some (.int i_) ∧ Fr Z.heap.size L ∧ h = h0) := by
  refine ctr (plainFor_of_name pn_3) ?_
  intro p e s m below meth c s₁ hx hby hml hown hnm hret hlocks hZ X0 e0
  have N0 := Fr.nil Z.heap.size
  have hsz : ∀ {Ls : Array Slot}, Ls.size = 3 → Ls.size = c.maxLocals := fun q => q.trans hml.symm
  refine goE (ef_rmPa m (i_) (n_) (fa)) ?_
  show Goes p e below _ (s₁.setTop (mkF m 0 #[.val (.int i_), .val (.int n_), .val (.ref fa)] []))
  refine gIloadN X0 hx (hb hby d_jdk_41_method_11_0) rfl ?_
  refine gIfN X0 hx (hb hby d_jdk_41_method_11_1) (XT.i0_lt_f k1) ?_
  show Goes p e below _ (s₁.setTop (mkF m 4 #[.val (.int i_), .val (.int n_), .val (.ref fa)] []))
  refine gIloadN X0 hx (hb hby d_jdk_41_method_11_4) rfl ?_
  refine gIloadN X0 hx (hb hby d_jdk_41_method_11_5) rfl ?_
  refine gIcmpY X0 hx (hb hby d_jdk_41_method_11_6) (pc' := 16) (XT.ii_lt_t k2) (by decide) (by decide) ?_
  show Goes p e below _ (s₁.setTop (mkF m 16 #[.val (.int i_), .val (.int n_), .val (.ref fa)] []))
  refine gIloadN X0 hx (hb hby d_jdk_41_method_11_16) rfl ?_
  exact goRetI X0 hx hret hlocks (hb hby d_jdk_41_method_11_17) (by decide) (by decide) e0 (⟨rfl, N0, rfl⟩)
theorem d_jdk_42_method_155_0 : decode jdk_42_method_155_code 0 = .ok (.iload_n 0, 1) := by decide +kernel
theorem d_jdk_42_method_155_1 : decode jdk_42_method_155_code 1 = .ok (.iload_n 1, 1) := by decide +kernel
theorem d_jdk_42_method_155_2 : decode jdk_42_method_155_code 2 = .ok (.getstatic 1053, 3) := by decide +kernel
theorem pd_7 : parseMethodDescriptor "(IILjava/util/function/BiFunction;)I" = some ⟨[.int, .int, (.object "java/util/function/BiFunction")], some .int⟩ := by decide +kernel
theorem d_jdk_42_method_155_5 : decode jdk_42_method_155_code 5 = .ok (.invokestatic 1059, 3) := by decide +kernel
theorem d_jdk_42_method_155_8 : decode jdk_42_method_155_code 8 = .ok (.pop, 1) := by decide +kernel
theorem d_jdk_42_method_155_9 : decode jdk_42_method_155_code 9 = .ok (.return_, 1) := by decide +kernel
theorem ef_rmCk (m : MethodId) (x0 : Int32) (x1 : Int32) : entryFrame m #[(.int x0), (.int x1)] 2 = mkF m 0 #[.val (.int x0), .val (.int x1)] [] := by first | (simp [entryFrame, mkF, argsToLocals, Value.category]; done) | rfl
set_option maxRecDepth 65536 in
set_option maxHeartbeats 40000000 in
theorem rmCk (l : Launch) (Z : State) (a0 : Array Value) (hw : ∀ d ∈ tables_1, d.before a0 Z = true) (fm : Value) (i_ : Int32) (n_ : Int32) (h0 : Heap) (O0 : Ext Z.heap h0) (S_fm : Sta Z Z.heap "jdk/internal/util/Preconditions" "SIOOBE_FORMATTER" "Ljava/util/function/BiFunction;" fm) (rf : fm.isRef = true) (k1 : ¬ i_ < 0) (k2 : i_ < n_) :
    Ctr l Z (⟨"java/lang/String", "checkIndex", "(II)V"⟩ : MethodName) jdk_42_method_155_code 2 none [] ({ frames := 1, cells := 0, slots := 0, locals := 14 } : Room) #[(.int i_), (.int n_)] h0 (fun v h L => v = none ∧ Fr Z.heap.size L ∧ h = h0) := by
  refine ctr (plainFor_of_name pn_1) ?_
  intro p e s m below meth c s₁ hx hby hml hown hnm hret hlocks hZ X0 e0
  have N0 := Fr.nil Z.heap.size
  have hsz : ∀ {Ls : Array Slot}, Ls.size = 2 → Ls.size = c.maxLocals := fun q => q.trans hml.symm
  refine goE (ef_rmCk m (i_) (n_)) ?_
  show Goes p e below _ (s₁.setTop (mkF m 0 #[.val (.int i_), .val (.int n_)] []))
  rcases ref_cases rf with rfl | ⟨fa, rfl⟩
  · refine gIloadN X0 hx (hb hby d_jdk_42_method_155_0) rfl ?_
    refine gIloadN X0 hx (hb hby d_jdk_42_method_155_1) rfl ?_
    obtain ⟨Tt1, Xt1, et1, stt1⟩ := getS2 X0 hx hZ hown (host := "") (Or.inl (hw _ (List.mem_of_getElem? (i := 80) rfl))) Via.refl e0 (S_fm.ext O0) (g := (mkF m 2 #[.val (.int i_), .val (.int n_)] [(.int n_), (.int i_)])) rfl (hb hby d_jdk_42_method_155_2)
    refine go stt1 ?_
    show Goes p e below _ (Tt1.setTop (mkF m 5 #[.val (.int i_), .val (.int n_)] [.null, (.int n_), (.int i_)]))
    refine goCallS Xt1 hx hZ hown (hw _ (List.mem_of_getElem? (i := 82) rfl)) (hw _ (List.mem_of_getElem? (i := 83) rfl)) (hw _ (List.mem_of_getElem? (i := 81) rfl)) (hw _ (List.mem_of_getElem? (i := 84) rfl)) (by decide) (rmPn l Z a0 hw i_ n_ h0 O0 k1 k2) 0 (by decide) (by decide) et1 (hsz rfl) [(.int i_), (.int n_), .null] [] pd_7 rfl rfl rfl (Nat.le_of_eq rfl) (hb hby d_jdk_42_method_155_5) (by decide) (by decide) (fun Tt2 vt2 Lt2 Xt2 qt2 => ?_)
    obtain ⟨rfl, N3, et2⟩ := qt2
    have N4 := Fr.app N0 N3
    show Goes p e below _ (Tt2.setTop (mkF m 8 #[.val (.int i_), .val (.int n_)] [(.int i_)]))
    refine gPop Xt2 hx (hb hby d_jdk_42_method_155_8) rfl ?_
    exact goRet0 Xt2 hx hret hlocks (hb hby d_jdk_42_method_155_9) (by decide) (by decide) et2 (⟨rfl, N4, rfl⟩)
  · refine gIloadN X0 hx (hb hby d_jdk_42_method_155_0) rfl ?_
    refine gIloadN X0 hx (hb hby d_jdk_42_method_155_1) rfl ?_
    obtain ⟨Tt5, Xt5, et5, stt5⟩ := getS2 X0 hx hZ hown (host := "") (Or.inl (hw _ (List.mem_of_getElem? (i := 80) rfl))) Via.refl e0 (S_fm.ext O0) (g := (mkF m 2 #[.val (.int i_), .val (.int n_)] [(.int n_), (.int i_)])) rfl (hb hby d_jdk_42_method_155_2)
    refine go stt5 ?_
    show Goes p e below _ (Tt5.setTop (mkF m 5 #[.val (.int i_), .val (.int n_)] [(.ref fa), (.int n_), (.int i_)]))
    refine goCallS Xt5 hx hZ hown (hw _ (List.mem_of_getElem? (i := 82) rfl)) (hw _ (List.mem_of_getElem? (i := 83) rfl)) (hw _ (List.mem_of_getElem? (i := 81) rfl)) (hw _ (List.mem_of_getElem? (i := 84) rfl)) (by decide) (rmPa l Z a0 hw i_ n_ fa h0 O0 k1 k2) 0 (by decide) (by decide) et5 (hsz rfl) [(.int i_), (.int n_), (.ref fa)] [] pd_7 rfl rfl rfl (Nat.le_of_eq rfl) (hb hby d_jdk_42_method_155_5) (by decide) (by decide) (fun Tt6 vt6 Lt6 Xt6 qt6 => ?_)
    obtain ⟨rfl, N7, et6⟩ := qt6
    have N8 := Fr.app N0 N7
    show Goes p e below _ (Tt6.setTop (mkF m 8 #[.val (.int i_), .val (.int n_)] [(.int i_)]))
    refine gPop Xt6 hx (hb hby d_jdk_42_method_155_8) rfl ?_
    exact goRet0 Xt6 hx hret hlocks (hb hby d_jdk_42_method_155_9) (by decide) (by decide) et6 (⟨rfl, N8, rfl⟩)
theorem d_jdk_52_method_21_0 : decode jdk_52_method_21_code 0 = .ok (.iconst 0, 1) := by decide +kernel
theorem d_jdk_52_method_21_1 : decode jdk_52_method_21_code 1 = .ok (.istore 5, 2) := by decide +kernel
theorem d_jdk_52_method_21_3 : decode jdk_52_method_21_code 3 = .ok (.iload 5, 2) := by decide +kernel
theorem d_jdk_52_method_21_5 : decode jdk_52_method_21_code 5 = .ok (.iload 4, 2) := by decide +kernel
theorem d_jdk_52_method_21_7 : decode jdk_52_method_21_code 7 = .ok (.if_icmp .ge 37, 3) := by decide +kernel
theorem d_jdk_52_method_21_10 : decode jdk_52_method_21_code 10 = .ok (.aload_n 0, 1) := by decide +kernel
theorem d_jdk_52_method_21_11 : decode jdk_52_method_21_code 11 = .ok (.iload_n 1, 1) := by decide +kernel
theorem d_jdk_52_method_21_12 : decode jdk_52_method_21_code 12 = .ok (.caload, 1) := by decide +kernel
theorem d_jdk_52_method_21_13 : decode jdk_52_method_21_code 13 = .ok (.istore 6, 2) := by decide +kernel
theorem d_jdk_52_method_21_15 : decode jdk_52_method_21_code 15 = .ok (.iload 6, 2) := by decide +kernel
theorem d_jdk_52_method_21_17 : decode jdk_52_method_21_code 17 = .ok (.sipush 255, 3) := by decide +kernel
theorem d_jdk_52_method_21_20 : decode jdk_52_method_21_code 20 = .ok (.if_icmp .le 6, 3) := by decide +kernel
theorem d_jdk_52_method_21_23 : decode jdk_52_method_21_code 23 = .ok (.iload 5, 2) := by decide +kernel
theorem d_jdk_52_method_21_25 : decode jdk_52_method_21_code 25 = .ok (.ireturn, 1) := by decide +kernel
theorem d_jdk_52_method_21_26 : decode jdk_52_method_21_code 26 = .ok (.aload_n 2, 1) := by decide +kernel
theorem d_jdk_52_method_21_27 : decode jdk_52_method_21_code 27 = .ok (.iload_n 3, 1) := by decide +kernel
theorem d_jdk_52_method_21_28 : decode jdk_52_method_21_code 28 = .ok (.iload 6, 2) := by decide +kernel
theorem d_jdk_52_method_21_30 : decode jdk_52_method_21_code 30 = .ok (.i2b, 1) := by decide +kernel
theorem d_jdk_52_method_21_31 : decode jdk_52_method_21_code 31 = .ok (.bastore, 1) := by decide +kernel
theorem d_jdk_52_method_21_32 : decode jdk_52_method_21_code 32 = .ok (.iinc 1 1, 3) := by decide +kernel
theorem d_jdk_52_method_21_35 : decode jdk_52_method_21_code 35 = .ok (.iinc 3 1, 3) := by decide +kernel
theorem d_jdk_52_method_21_38 : decode jdk_52_method_21_code 38 = .ok (.iinc 5 1, 3) := by decide +kernel
theorem d_jdk_52_method_21_41 : decode jdk_52_method_21_code 41 = .ok (.goto (-38), 3) := by decide +kernel
theorem d_jdk_52_method_21_44 : decode jdk_52_method_21_code 44 = .ok (.iload 4, 2) := by decide +kernel
theorem d_jdk_52_method_21_46 : decode jdk_52_method_21_code 46 = .ok (.ireturn, 1) := by decide +kernel
theorem pn_4 : plainName "java/lang/StringUTF16" = true := by first | (simp [plainName, overriddenIn]; done) | decide +kernel
theorem ef_rmSa1 (m : MethodId) (x0 : Addr) (x1 : Int32) (x2 : Addr) (x3 : Int32) (x4 : Int32) : entryFrame m #[(.ref x0), (.int x1), (.ref x2), (.int x3), (.int x4)] 7 = mkF m 0 #[.val (.ref x0), .val (.int x1), .val (.ref x2), .val (.int x3), .val (.int x4), .unset, .unset] [] := by first | (simp [entryFrame, mkF, argsToLocals, Value.category]; done) | rfl
set_option maxRecDepth 65536 in
set_option maxHeartbeats 40000000 in
theorem rmSa1 (l : Launch) (Z : State) (a0 : Array Value) (hw : ∀ d ∈ tables_1, d.before a0 Z = true) (c0 : Int32) (a1 : Addr) (a2 : Addr) (h0 : Heap) (O0 : Ext Z.heap h0) (Y1 : Ary Z h0 a1 .char [(.int c0)]) (Y2 : Ary Z h0 a2 .byte [(.int (0 : Int32))]) (ne : a1 ≠ a2) (fr2 : Z.heap.size ≤ a2) :
    Ctr l Z (⟨"java/lang/StringUTF16", "compress", "([CI[BII)I"⟩ : MethodName) jdk_52_method_21_code 7 (some .int) [] ({ frames := 0, cells := 0, slots := 0, locals := 0 } : Room) #[(.ref a1), (.int (0 : Int32)), (.ref a2), (.int (0 : Int32)), (.int (1 : Int32))] h0 (fun v h L => ∃ r : Int32, v = some (.int r) ∧ Fr Z.heap.size L ∧ Keep h0 h [a2] ∧ ((r = (1 : Int32) ∧ (¬ (255 : Int32) < c0) ∧ Ary Z h a2 .byte [(.int (c0.toInt8.toInt32))]) ∨ (r = (0 : Int32) ∧ (255 : Int32) < c0))) := by
  refine ctr (plainFor_of_name pn_4) ?_
  intro p e s m below meth c s₁ hx hby hml hown hnm hret hlocks hZ X0 e0
  have N0 := Fr.nil Z.heap.size
  have hsz : ∀ {Ls : Array Slot}, Ls.size = 7 → Ls.size = c.maxLocals := fun q => q.trans hml.symm
  have K0 := Keep.refl h0 [a2]
  refine goE (ef_rmSa1 m (a1) ((0 : Int32)) (a2) ((0 : Int32)) ((1 : Int32))) ?_
  show Goes p e below _ (s₁.setTop (mkF m 0 #[.val (.ref a1), .val (.int (0 : Int32)), .val (.ref a2), .val (.int (0 : Int32)), .val (.int (1 : Int32)), .unset, .unset] []))
  refine gIconst X0 hx (hb hby d_jdk_52_method_21_0) (v := (0 : Int32)) rfl ?_
  refine gIstore X0 hx (hb hby d_jdk_52_method_21_1) (l' := #[.val (.ref a1), .val (.int (0 : Int32)), .val (.ref a2), .val (.int (0 : Int32)), .val (.int (1 : Int32)), .val (.int (0 : Int32)), .unset]) rfl ?_
  refine gIload X0 hx (hb hby d_jdk_52_method_21_3) rfl ?_
  refine gIload X0 hx (hb hby d_jdk_52_method_21_5) rfl ?_
  refine gIcmpN X0 hx (hb hby d_jdk_52_method_21_7) (XT.ii_ge_f (by decide)) ?_
  show Goes p e below _ (s₁.setTop (mkF m 10 #[.val (.ref a1), .val (.int (0 : Int32)), .val (.ref a2), .val (.int (0 : Int32)), .val (.int (1 : Int32)), .val (.int (0 : Int32)), .unset] []))
  refine gAloadN X0 hx (hb hby d_jdk_52_method_21_10) rfl rfl ?_
  refine gIloadN X0 hx (hb hby d_jdk_52_method_21_11) rfl ?_
  refine goCaload X0 hx hZ e0 Y1 (x := c0) (hb hby d_jdk_52_method_21_12) (by decide) rfl ?_
  refine gIstore X0 hx (hb hby d_jdk_52_method_21_13) (l' := #[.val (.ref a1), .val (.int (0 : Int32)), .val (.ref a2), .val (.int (0 : Int32)), .val (.int (1 : Int32)), .val (.int (0 : Int32)), .val (.int c0)]) rfl ?_
  refine gIload X0 hx (hb hby d_jdk_52_method_21_15) rfl ?_
  refine gSipush X0 hx (hb hby d_jdk_52_method_21_17) (v := (255 : Int32)) rfl ?_
  by_cases o0 : (255 : Int32) < c0
  · refine gIcmpN X0 hx (hb hby d_jdk_52_method_21_20) (XT.ii_le_f o0) ?_
    show Goes p e below _ (s₁.setTop (mkF m 23 #[.val (.ref a1), .val (.int (0 : Int32)), .val (.ref a2), .val (.int (0 : Int32)), .val (.int (1 : Int32)), .val (.int (0 : Int32)), .val (.int c0)] []))
    refine gIload X0 hx (hb hby d_jdk_52_method_21_23) rfl ?_
    exact goRetI X0 hx hret hlocks (hb hby d_jdk_52_method_21_25) (by decide) (by decide) e0 (⟨_, rfl, N0, K0, (Or.inr ⟨rfl, o0⟩)⟩)
  · refine gIcmpY X0 hx (hb hby d_jdk_52_method_21_20) (pc' := 26) (XT.ii_le_t o0) (by decide) (by decide) ?_
    show Goes p e below _ (s₁.setTop (mkF m 26 #[.val (.ref a1), .val (.int (0 : Int32)), .val (.ref a2), .val (.int (0 : Int32)), .val (.int (1 : Int32)), .val (.int (0 : Int32)), .val (.int c0)] []))
    refine gAloadN X0 hx (hb hby d_jdk_52_method_21_26) rfl rfl ?_
    refine gIloadN X0 hx (hb hby d_jdk_52_method_21_27) rfl ?_
    refine gIload X0 hx (hb hby d_jdk_52_method_21_28) rfl ?_
    refine gI2b X0 hx (hb hby d_jdk_52_method_21_30) ?_
    refine goBastore X0 hx hZ e0 Y2 (hb hby d_jdk_52_method_21_31) (by decide) rfl (fun Tt1 ht1 Xt1 et1 Wt1 => ?_)
    have N2 := Fr.snoc Xt1 N0 fr2
    replace Y2 : Ary Z ht1 a2 .byte [(.int (c0.toInt8.toInt32))] := Y2.set Wt1 (by rw [narb]; rfl)
    replace Y1 := Y1.other Wt1 ne
    have O3 : Ext Z.heap ht1 := extW O0 Wt1 fr2
    have K4 := K0.wr Wt1 (Or.inl (by simp))
    show Goes p e below _ (Tt1.setTop (mkF m 32 #[.val (.ref a1), .val (.int (0 : Int32)), .val (.ref a2), .val (.int (0 : Int32)), .val (.int (1 : Int32)), .val (.int (0 : Int32)), .val (.int c0)] []))
    refine gIinc Xt1 hx (hb hby d_jdk_52_method_21_32) (v := (1 : Int32)) rfl rfl (l' := #[.val (.ref a1), .val (.int (1 : Int32)), .val (.ref a2), .val (.int (0 : Int32)), .val (.int (1 : Int32)), .val (.int (0 : Int32)), .val (.int c0)]) rfl ?_
    refine gIinc Xt1 hx (hb hby d_jdk_52_method_21_35) (v := (1 : Int32)) rfl rfl (l' := #[.val (.ref a1), .val (.int (1 : Int32)), .val (.ref a2), .val (.int (1 : Int32)), .val (.int (1 : Int32)), .val (.int (0 : Int32)), .val (.int c0)]) rfl ?_
    refine gIinc Xt1 hx (hb hby d_jdk_52_method_21_38) (v := (1 : Int32)) rfl rfl (l' := #[.val (.ref a1), .val (.int (1 : Int32)), .val (.ref a2), .val (.int (1 : Int32)), .val (.int (1 : Int32)), .val (.int (1 : Int32)), .val (.int c0)]) rfl ?_
    refine gGoto Xt1 hx (hb hby d_jdk_52_method_21_41) (pc' := 3) (by decide) (by decide) ?_
    show Goes p e below _ (Tt1.setTop (mkF m 3 #[.val (.ref a1), .val (.int (1 : Int32)), .val (.ref a2), .val (.int (1 : Int32)), .val (.int (1 : Int32)), .val (.int (1 : Int32)), .val (.int c0)] []))
    refine gIload Xt1 hx (hb hby d_jdk_52_method_21_3) rfl ?_
    refine gIload Xt1 hx (hb hby d_jdk_52_method_21_5) rfl ?_
    refine gIcmpY Xt1 hx (hb hby d_jdk_52_method_21_7) (pc' := 44) (XT.ii_ge_t (by decide)) (by decide) (by decide) ?_
    show Goes p e below _ (Tt1.setTop (mkF m 44 #[.val (.ref a1), .val (.int (1 : Int32)), .val (.ref a2), .val (.int (1 : Int32)), .val (.int (1 : Int32)), .val (.int (1 : Int32)), .val (.int c0)] []))
    refine gIload Xt1 hx (hb hby d_jdk_52_method_21_44) rfl ?_
    exact goRetI Xt1 hx hret hlocks (hb hby d_jdk_52_method_21_46) (by decide) (by decide) et1 (⟨_, rfl, N2, K4, Or.inl ⟨rfl, o0, Y2⟩⟩)
theorem d_jdk_52_method_3_0 : decode jdk_52_method_3_code 0 = .ok (.iload_n 0, 1) := by decide +kernel
theorem d_jdk_52_method_3_1 : decode jdk_52_method_3_code 1 = .ok (.ifCond .ge 11, 3) := by decide +kernel
theorem d_jdk_52_method_3_12 : decode jdk_52_method_3_code 12 = .ok (.iload_n 0, 1) := by decide +kernel
theorem d_jdk_52_method_3_13 : decode jdk_52_method_3_code 13 = .ok (.ldc 20, 2) := by decide +kernel
theorem d_jdk_52_method_3_15 : decode jdk_52_method_3_code 15 = .ok (.if_icmp .lt 40, 3) := by decide +kernel
theorem d_jdk_52_method_3_55 : decode jdk_52_method_3_code 55 = .ok (.iload_n 0, 1) := by decide +kernel
theorem d_jdk_52_method_3_56 : decode jdk_52_method_3_code 56 = .ok (.iconst 1, 1) := by decide +kernel
theorem d_jdk_52_method_3_57 : decode jdk_52_method_3_code 57 = .ok (.ishl, 1) := by decide +kernel
theorem d_jdk_52_method_3_58 : decode jdk_52_method_3_code 58 = .ok (.ireturn, 1) := by decide +kernel
theorem ef_rmNl1 (m : MethodId) (x0 : Int32) : entryFrame m #[(.int x0)] 1 = mkF m 0 #[.val (.int x0)] [] := by first | (simp [entryFrame, mkF, argsToLocals, Value.category]; done) | rfl
set_option maxRecDepth 65536 in
set_option maxHeartbeats 40000000 in
theorem rmNl1 (l : Launch) (Z : State) (a0 : Array Value) (hw : ∀ d ∈ tables_1, d.before a0 Z = true)   (h0 : Heap) (O0 : Ext Z.heap h0)  :
    Ctr l Z (⟨"java/lang/StringUTF16", "newBytesLength", "(I)I"⟩ : MethodName) jdk_52_method_3_code 1 (some .int) [] ({ frames := 0, cells := 0, slots := 0, locals := 0 } : Room) #[(.int (1 : Int32))] h0 (fun v h L => v = some (.int (2 : Int32)) ∧ Fr Z.heap.size L ∧ h = h0) := by
  refine ctr (plainFor_of_name pn_4) ?_
  intro p e s m below meth c s₁ hx hby hml hown hnm hret hlocks hZ X0 e0
  have N0 := Fr.nil Z.heap.size
  have hsz : ∀ {Ls : Array Slot}, Ls.size = 1 → Ls.size = c.maxLocals := fun q => q.trans hml.symm
  refine goE (ef_rmNl1 m ((1 : Int32))) ?_
  show Goes p e below _ (s₁.setTop (mkF m 0 #[.val (.int (1 : Int32))] []))
  refine gIloadN X0 hx (hb hby d_jdk_52_method_3_0) rfl ?_
  refine gIfY X0 hx (hb hby d_jdk_52_method_3_1) (pc' := 12) (XT.i0_ge_t (by decide)) (by decide) (by decide) ?_
  show Goes p e below _ (s₁.setTop (mkF m 12 #[.val (.int (1 : Int32))] []))
  refine gIloadN X0 hx (hb hby d_jdk_52_method_3_12) rfl ?_
  refine gLdcI X0 hx hZ hown (hw _ (List.mem_of_getElem? (i := 126) rfl)) (hb hby d_jdk_52_method_3_13) ?_
  refine gIcmpY X0 hx (hb hby d_jdk_52_method_3_15) (pc' := 55) (XT.ii_lt_t (by decide)) (by decide) (by decide) ?_
  show Goes p e below _ (s₁.setTop (mkF m 55 #[.val (.int (1 : Int32))] []))
  refine gIloadN X0 hx (hb hby d_jdk_52_method_3_55) rfl ?_
  refine gIconst X0 hx (hb hby d_jdk_52_method_3_56) (v := (1 : Int32)) rfl ?_
  refine gIshl X0 hx (hb hby d_jdk_52_method_3_57) ?_
  exact goRetI X0 hx hret hlocks (hb hby d_jdk_52_method_3_58) (by decide) (by decide) e0 (⟨congrArg (fun z => some (Value.int z)) (by decide), N0, rfl⟩)
theorem d_jdk_52_method_2_0 : decode jdk_52_method_2_code 0 = .ok (.iload_n 0, 1) := by decide +kernel
theorem d_jdk_52_method_2_1 : decode jdk_52_method_2_code 1 = .ok (.invokestatic 11, 3) := by decide +kernel
theorem d_jdk_52_method_2_4 : decode jdk_52_method_2_code 4 = .ok (.newarray .byte, 2) := by decide +kernel
theorem d_jdk_52_method_2_6 : decode jdk_52_method_2_code 6 = .ok (.areturn, 1) := by decide +kernel
theorem ef_rmNf1 (m : MethodId) (x0 : Int32) : entryFrame m #[(.int x0)] 1 = mkF m 0 #[.val (.int x0)] [] := by first | (simp [entryFrame, mkF, argsToLocals, Value.category]; done) | rfl
set_option maxRecDepth 65536 in
set_option maxHeartbeats 40000000 in
theorem rmNf1 (l : Launch) (Z : State) (a0 : Array Value) (hw : ∀ d ∈ tables_1, d.before a0 Z = true)   (h0 : Heap) (O0 : Ext Z.heap h0)  :
    Ctr l Z (⟨"java/lang/StringUTF16", "newBytesFor", "(I)[B"⟩ : MethodName) jdk_52_method_2_code 1 (some (.array .byte)) [] ({ frames := 1, cells := 1, slots := 2, locals := 12 } : Room) #[(.int (1 : Int32))] h0 (fun v h L => ∃ u, v = some (.ref u) ∧ Fr Z.heap.size L ∧ Keep h0 h [] ∧ h0.size ≤ u ∧ Ary Z h u .byte [(.int (0 : Int32)), (.int (0 : Int32))]) := by
  refine ctr (plainFor_of_name pn_4) ?_
  intro p e s m below meth c s₁ hx hby hml hown hnm hret hlocks hZ X0 e0
  have N0 := Fr.nil Z.heap.size
  have hsz : ∀ {Ls : Array Slot}, Ls.size = 1 → Ls.size = c.maxLocals := fun q => q.trans hml.symm
  have K0 := Keep.refl h0 []
  refine goE (ef_rmNf1 m ((1 : Int32))) ?_
  show Goes p e below _ (s₁.setTop (mkF m 0 #[.val (.int (1 : Int32))] []))
  refine gIloadN X0 hx (hb hby d_jdk_52_method_2_0) rfl ?_
  refine goCallS X0 hx hZ hown (hw _ (List.mem_of_getElem? (i := 123) rfl)) (hw _ (List.mem_of_getElem? (i := 124) rfl)) (hw _ (List.mem_of_getElem? (i := 42) rfl)) (hw _ (List.mem_of_getElem? (i := 125) rfl)) (by decide) (rmNl1 l Z a0 hw h0 O0) 0 (by decide) (by decide) e0 (hsz rfl) [(.int (1 : Int32))] [] pd_6 rfl rfl rfl (Nat.le_of_eq rfl) (hb hby d_jdk_52_method_2_1) (by decide) (by decide) (fun Tt1 vt1 Lt1 Xt1 qt1 => ?_)
  obtain ⟨rfl, N2, et1⟩ := qt1
  have N3 := Fr.app N0 N2
  show Goes p e below _ (Tt1.setTop (mkF m 4 #[.val (.int (1 : Int32))] [(.int (2 : Int32))]))
  obtain ⟨Tt4, ht4, kt4, Xt4, et4, Et4, At4, stt4⟩ := newP Xt1 hx hZ (hw _ (List.mem_of_getElem? (i := 23) rfl)) et1 (g := (mkF m 4 #[.val (.int (1 : Int32))] [(.int (2 : Int32))])) rfl (hb hby d_jdk_52_method_2_4) rfl (by decide) (cap := 2) (by decide) (by decide) (by decide) (by decide)
  obtain ⟨ob5, gob5⟩ : ∃ z, z = h0.size := ⟨_, rfl⟩
  rw [← gob5] at At4 stt4
  refine go stt4 ?_
  have fr_ob5 : Z.heap.size ≤ ob5 := gob5 ▸ O0.1
  have pa_ob5 : h0.size ≤ ob5 := gob5 ▸ K0.1
  have O6 : Ext Z.heap ht4 := extT O0 Et4
  have K7 := K0.ext Et4
  have Y_ob5 : Ary Z ht4 ob5 .byte [(.int (0 : Int32)), (.int (0 : Int32))] := Ary.new At4 rfl (by decide)
  show Goes p e below _ (Tt4.setTop (mkF m 6 #[.val (.int (1 : Int32))] [(.ref ob5)]))
  exact goRetA Xt4 hx hret hlocks rfl rfl (hb hby d_jdk_52_method_2_6) (by decide) (by decide) et4 (⟨ob5, rfl, N3, K7, pa_ob5, Y_ob5⟩)
theorem d_jdk_52_method_4_0 : decode jdk_52_method_4_code 0 = .ok (.getstatic 44, 3) := by decide +kernel
theorem d_jdk_52_method_4_3 : decode jdk_52_method_4_code 3 = .ok (.ifCond .ne 25, 3) := by decide +kernel
theorem d_jdk_52_method_4_28 : decode jdk_52_method_4_code 28 = .ok (.iload_n 1, 1) := by decide +kernel
theorem d_jdk_52_method_4_29 : decode jdk_52_method_4_code 29 = .ok (.iconst 1, 1) := by decide +kernel
theorem d_jdk_52_method_4_30 : decode jdk_52_method_4_code 30 = .ok (.ishl, 1) := by decide +kernel
theorem d_jdk_52_method_4_31 : decode jdk_52_method_4_code 31 = .ok (.istore_n 1, 1) := by decide +kernel
theorem d_jdk_52_method_4_32 : decode jdk_52_method_4_code 32 = .ok (.aload_n 0, 1) := by decide +kernel
theorem d_jdk_52_method_4_33 : decode jdk_52_method_4_code 33 = .ok (.iload_n 1, 1) := by decide +kernel
theorem d_jdk_52_method_4_34 : decode jdk_52_method_4_code 34 = .ok (.iinc 1 1, 3) := by decide +kernel
theorem d_jdk_52_method_4_37 : decode jdk_52_method_4_code 37 = .ok (.iload_n 2, 1) := by decide +kernel
theorem d_jdk_52_method_4_38 : decode jdk_52_method_4_code 38 = .ok (.getstatic 59, 3) := by decide +kernel
theorem d_jdk_52_method_4_41 : decode jdk_52_method_4_code 41 = .ok (.ishr, 1) := by decide +kernel
theorem d_jdk_52_method_4_42 : decode jdk_52_method_4_code 42 = .ok (.i2b, 1) := by decide +kernel
theorem d_jdk_52_method_4_43 : decode jdk_52_method_4_code 43 = .ok (.bastore, 1) := by decide +kernel
theorem d_jdk_52_method_4_44 : decode jdk_52_method_4_code 44 = .ok (.aload_n 0, 1) := by decide +kernel
theorem d_jdk_52_method_4_45 : decode jdk_52_method_4_code 45 = .ok (.iload_n 1, 1) := by decide +kernel
theorem d_jdk_52_method_4_46 : decode jdk_52_method_4_code 46 = .ok (.iload_n 2, 1) := by decide +kernel
theorem d_jdk_52_method_4_47 : decode jdk_52_method_4_code 47 = .ok (.getstatic 63, 3) := by decide +kernel
theorem d_jdk_52_method_4_50 : decode jdk_52_method_4_code 50 = .ok (.ishr, 1) := by decide +kernel
theorem d_jdk_52_method_4_51 : decode jdk_52_method_4_code 51 = .ok (.i2b, 1) := by decide +kernel
theorem d_jdk_52_method_4_52 : decode jdk_52_method_4_code 52 = .ok (.bastore, 1) := by decide +kernel
theorem d_jdk_52_method_4_53 : decode jdk_52_method_4_code 53 = .ok (.return_, 1) := by decide +kernel
theorem ef_rmPc10 (m : MethodId) (x0 : Addr) (x1 : Int32) (x2 : Int32) : entryFrame m #[(.ref x0), (.int x1), (.int x2)] 3 = mkF m 0 #[.val (.ref x0), .val (.int x1), .val (.int x2)] [] := by first | (simp [entryFrame, mkF, argsToLocals, Value.category]; done) | rfl
set_option maxRecDepth 65536 in
set_option maxHeartbeats 40000000 in
theorem rmPc10 (l : Launch) (Z : State) (a0 : Array Value) (hw : ∀ d ∈ tables_1, d.before a0 Z = true) (y0 y1 : Int32) (a1 : Addr) (c0 : Int32) (h0 : Heap) (O0 : Ext Z.heap h0) (S_ua : Sta Z Z.heap "java/lang/StringUTF16" "$assertionsDisabled" "Z" (.int (1 : Int32))) (S_uh : Sta Z Z.heap "java/lang/StringUTF16" "HI_BYTE_SHIFT" "I" (.int (0 : Int32))) (S_ul : Sta Z Z.heap "java/lang/StringUTF16" "LO_BYTE_SHIFT" "I" (.int (8 : Int32))) (Y1 : Ary Z h0 a1 .byte [(.int y0), (.int y1)]) (fr1 : Z.heap.size ≤ a1) :
    Ctr l Z (⟨"java/lang/StringUTF16", "putChar", "([BII)V"⟩ : MethodName) jdk_52_method_4_code 3 none [] ({ frames := 0, cells := 0, slots := 0, locals := 0 } : Room) #[(.ref a1), (.int (0 : Int32)), (.int c0)] h0 (fun v h L => v = none ∧ Fr Z.heap.size L ∧ Keep h0 h [a1] ∧ Ary Z h a1 .byte [(.int ((c0 >>> ((0 : Int32) &&& 31)).toInt8.toInt32)), (.int ((c0 >>> ((8 : Int32) &&& 31)).toInt8.toInt32))]) := by
  refine ctr (plainFor_of_name pn_4) ?_
  intro p e s m below meth c s₁ hx hby hml hown hnm hret hlocks hZ X0 e0
  have N0 := Fr.nil Z.heap.size
  have hsz : ∀ {Ls : Array Slot}, Ls.size = 3 → Ls.size = c.maxLocals := fun q => q.trans hml.symm
  have K0 := Keep.refl h0 [a1]
  refine goE (ef_rmPc10 m (a1) ((0 : Int32)) (c0)) ?_
  show Goes p e below _ (s₁.setTop (mkF m 0 #[.val (.ref a1), .val (.int (0 : Int32)), .val (.int c0)] []))
  obtain ⟨Tt1, Xt1, et1, stt1⟩ := getS2 X0 hx hZ hown (host := "") (Or.inl (hw _ (List.mem_of_getElem? (i := 130) rfl))) Via.refl e0 (S_ua.ext O0) (g := (mkF m 0 #[.val (.ref a1), .val (.int (0 : Int32)), .val (.int c0)] [])) rfl (hb hby d_jdk_52_method_4_0)
  refine go stt1 ?_
  show Goes p e below _ (Tt1.setTop (mkF m 3 #[.val (.ref a1), .val (.int (0 : Int32)), .val (.int c0)] [(.int (1 : Int32))]))
  refine gIfY Xt1 hx (hb hby d_jdk_52_method_4_3) (pc' := 28) (XT.i0_ne_t (by decide)) (by decide) (by decide) ?_
  show Goes p e below _ (Tt1.setTop (mkF m 28 #[.val (.ref a1), .val (.int (0 : Int32)), .val (.int c0)] []))
  refine gIloadN Xt1 hx (hb hby d_jdk_52_method_4_28) rfl ?_
  refine gIconst Xt1 hx (hb hby d_jdk_52_method_4_29) (v := (1 : Int32)) rfl ?_
  refine gIshl Xt1 hx (hb hby d_jdk_52_method_4_30) ?_
  show Goes p e below _ (Tt1.setTop (mkF m 31 #[.val (.ref a1), .val (.int (0 : Int32)), .val (.int c0)] [(.int ((0 : Int32) <<< ((1 : Int32) &&& 31)))]))
  rw [show ((0 : Int32) <<< ((1 : Int32) &&& 31)) = (0 : Int32) from by decide]
  show Goes p e below _ (Tt1.setTop (mkF m 31 #[.val (.ref a1), .val (.int (0 : Int32)), .val (.int c0)] [(.int (0 : Int32))]))
  refine gIstoreN Xt1 hx (hb hby d_jdk_52_method_4_31) (l' := #[.val (.ref a1), .val (.int (0 : Int32)), .val (.int c0)]) rfl ?_
  refine gAloadN Xt1 hx (hb hby d_jdk_52_method_4_32) rfl rfl ?_
  refine gIloadN Xt1 hx (hb hby d_jdk_52_method_4_33) rfl ?_
  refine gIinc Xt1 hx (hb hby d_jdk_52_method_4_34) (v := (1 : Int32)) rfl rfl (l' := #[.val (.ref a1), .val (.int (1 : Int32)), .val (.int c0)]) rfl ?_
  refine gIloadN Xt1 hx (hb hby d_jdk_52_method_4_37) rfl ?_
  obtain ⟨Tt2, Xt2, et2, stt2⟩ := getS2 Xt1 hx hZ hown (host := "") (Or.inl (hw _ (List.mem_of_getElem? (i := 131) rfl))) Via.refl et1 (S_uh.ext O0) (g := (mkF m 38 #[.val (.ref a1), .val (.int (1 : Int32)), .val (.int c0)] [(.int c0), (.int (0 : Int32)), (.ref a1)])) rfl (hb hby d_jdk_52_method_4_38)
  refine go stt2 ?_
  show Goes p e below _ (Tt2.setTop (mkF m 41 #[.val (.ref a1), .val (.int (1 : Int32)), .val (.int c0)] [(.int (0 : Int32)), (.int c0), (.int (0 : Int32)), (.ref a1)]))
  refine gIshr Xt2 hx (hb hby d_jdk_52_method_4_41) ?_
  refine gI2b Xt2 hx (hb hby d_jdk_52_method_4_42) ?_
  refine goBastore Xt2 hx hZ et2 Y1 (hb hby d_jdk_52_method_4_43) (by decide) rfl (fun Tt3 ht3 Xt3 et3 Wt3 => ?_)
  have N4 := Fr.snoc Xt3 N0 fr1
  replace Y1 : Ary Z ht3 a1 .byte [(.int ((c0 >>> ((0 : Int32) &&& 31)).toInt8.toInt32)), (.int y1)] := Y1.set Wt3 (by rw [narb]; rfl)
  have O5 : Ext Z.heap ht3 := extW O0 Wt3 fr1
  have K6 := K0.wr Wt3 (Or.inl (by simp))
  show Goes p e below _ (Tt3.setTop (mkF m 44 #[.val (.ref a1), .val (.int (1 : Int32)), .val (.int c0)] []))
  refine gAloadN Xt3 hx (hb hby d_jdk_52_method_4_44) rfl rfl ?_
  refine gIloadN Xt3 hx (hb hby d_jdk_52_method_4_45) rfl ?_
  refine gIloadN Xt3 hx (hb hby d_jdk_52_method_4_46) rfl ?_
  obtain ⟨Tt7, Xt7, et7, stt7⟩ := getS2 Xt3 hx hZ hown (host := "") (Or.inl (hw _ (List.mem_of_getElem? (i := 132) rfl))) Via.refl et3 (S_ul.ext O5) (g := (mkF m 47 #[.val (.ref a1), .val (.int (1 : Int32)), .val (.int c0)] [(.int c0), (.int (1 : Int32)), (.ref a1)])) rfl (hb hby d_jdk_52_method_4_47)
  refine go stt7 ?_
  show Goes p e below _ (Tt7.setTop (mkF m 50 #[.val (.ref a1), .val (.int (1 : Int32)), .val (.int c0)] [(.int (8 : Int32)), (.int c0), (.int (1 : Int32)), (.ref a1)]))
  refine gIshr Xt7 hx (hb hby d_jdk_52_method_4_50) ?_
  refine gI2b Xt7 hx (hb hby d_jdk_52_method_4_51) ?_
  refine goBastore Xt7 hx hZ et7 Y1 (hb hby d_jdk_52_method_4_52) (by decide) rfl (fun Tt8 ht8 Xt8 et8 Wt8 => ?_)
  have N9 := Fr.snoc Xt8 N4 fr1
  replace Y1 : Ary Z ht8 a1 .byte [(.int ((c0 >>> ((0 : Int32) &&& 31)).toInt8.toInt32)), (.int ((c0 >>> ((8 : Int32) &&& 31)).toInt8.toInt32))] := Y1.set Wt8 (by rw [narb]; rfl)
  have O10 : Ext Z.heap ht8 := extW O5 Wt8 fr1
  have K11 := K6.wr Wt8 (Or.inl (by simp))
  show Goes p e below _ (Tt8.setTop (mkF m 53 #[.val (.ref a1), .val (.int (1 : Int32)), .val (.int c0)] []))
  exact goRet0 Xt8 hx hret hlocks (hb hby d_jdk_52_method_4_53) (by decide) (by decide) et8 (⟨rfl, N9, K11, Y1⟩)
theorem d_jdk_52_method_5_0 : decode jdk_52_method_5_code 0 = .ok (.getstatic 44, 3) := by decide +kernel
theorem d_jdk_52_method_5_3 : decode jdk_52_method_5_code 3 = .ok (.ifCond .ne 25, 3) := by decide +kernel
theorem d_jdk_52_method_5_28 : decode jdk_52_method_5_code 28 = .ok (.iload_n 1, 1) := by decide +kernel
theorem d_jdk_52_method_5_29 : decode jdk_52_method_5_code 29 = .ok (.iconst 1, 1) := by decide +kernel
theorem d_jdk_52_method_5_30 : decode jdk_52_method_5_code 30 = .ok (.ishl, 1) := by decide +kernel
theorem d_jdk_52_method_5_31 : decode jdk_52_method_5_code 31 = .ok (.istore_n 1, 1) := by decide +kernel
theorem d_jdk_52_method_5_32 : decode jdk_52_method_5_code 32 = .ok (.aload_n 0, 1) := by decide +kernel
theorem d_jdk_52_method_5_33 : decode jdk_52_method_5_code 33 = .ok (.iload_n 1, 1) := by decide +kernel
theorem d_jdk_52_method_5_34 : decode jdk_52_method_5_code 34 = .ok (.iinc 1 1, 3) := by decide +kernel
theorem d_jdk_52_method_5_37 : decode jdk_52_method_5_code 37 = .ok (.baload, 1) := by decide +kernel
theorem d_jdk_52_method_5_38 : decode jdk_52_method_5_code 38 = .ok (.sipush 255, 3) := by decide +kernel
theorem d_jdk_52_method_5_41 : decode jdk_52_method_5_code 41 = .ok (.iand, 1) := by decide +kernel
theorem d_jdk_52_method_5_42 : decode jdk_52_method_5_code 42 = .ok (.getstatic 59, 3) := by decide +kernel
theorem d_jdk_52_method_5_45 : decode jdk_52_method_5_code 45 = .ok (.ishl, 1) := by decide +kernel
theorem d_jdk_52_method_5_46 : decode jdk_52_method_5_code 46 = .ok (.aload_n 0, 1) := by decide +kernel
theorem d_jdk_52_method_5_47 : decode jdk_52_method_5_code 47 = .ok (.iload_n 1, 1) := by decide +kernel
theorem d_jdk_52_method_5_48 : decode jdk_52_method_5_code 48 = .ok (.baload, 1) := by decide +kernel
theorem d_jdk_52_method_5_49 : decode jdk_52_method_5_code 49 = .ok (.sipush 255, 3) := by decide +kernel
theorem d_jdk_52_method_5_52 : decode jdk_52_method_5_code 52 = .ok (.iand, 1) := by decide +kernel
theorem d_jdk_52_method_5_53 : decode jdk_52_method_5_code 53 = .ok (.getstatic 63, 3) := by decide +kernel
theorem d_jdk_52_method_5_56 : decode jdk_52_method_5_code 56 = .ok (.ishl, 1) := by decide +kernel
theorem d_jdk_52_method_5_57 : decode jdk_52_method_5_code 57 = .ok (.ior, 1) := by decide +kernel
theorem d_jdk_52_method_5_58 : decode jdk_52_method_5_code 58 = .ok (.i2c, 1) := by decide +kernel
theorem d_jdk_52_method_5_59 : decode jdk_52_method_5_code 59 = .ok (.ireturn, 1) := by decide +kernel
theorem ef_rmGc10 (m : MethodId) (x0 : Addr) (x1 : Int32) : entryFrame m #[(.ref x0), (.int x1)] 2 = mkF m 0 #[.val (.ref x0), .val (.int x1)] [] := by first | (simp [entryFrame, mkF, argsToLocals, Value.category]; done) | rfl
set_option maxRecDepth 65536 in
set_option maxHeartbeats 40000000 in
theorem rmGc10 (l : Launch) (Z : State) (a0 : Array Value) (hw : ∀ d ∈ tables_1, d.before a0 Z = true) (y0 y1 : Int32) (a1 : Addr) (h0 : Heap) (O0 : Ext Z.heap h0) (S_ua : Sta Z Z.heap "java/lang/StringUTF16" "$assertionsDisabled" "Z" (.int (1 : Int32))) (S_uh : Sta Z Z.heap "java/lang/StringUTF16" "HI_BYTE_SHIFT" "I" (.int (0 : Int32))) (S_ul : Sta Z Z.heap "java/lang/StringUTF16" "LO_BYTE_SHIFT" "I" (.int (8 : Int32))) (Y1 : Ary Z h0 a1 .byte [(.int y0), (.int y1)]) :
    Ctr l Z (⟨"java/lang/StringUTF16", "getChar", "([BI)C"⟩ : MethodName) jdk_52_method_5_code 2 (some .char) [] ({ frames := 0, cells := 0, slots := 0, locals := 0 } : Room) #[(.ref a1), (.int (0 : Int32))] h0 (fun v h L => v = some (.int (own_gc y0 y1)) ∧ Fr Z.heap.size L ∧ h = h0) := by
  refine ctr (plainFor_of_name pn_4) ?_
  intro p e s m below meth c s₁ hx hby hml hown hnm hret hlocks hZ X0 e0
  have N0 := Fr.nil Z.heap.size
  have hsz : ∀ {Ls : Array Slot}, Ls.size = 2 → Ls.size = c.maxLocals := fun q => q.trans hml.symm
  refine goE (ef_rmGc10 m (a1) ((0 : Int32))) ?_
  show Goes p e below _ (s₁.setTop (mkF m 0 #[.val (.ref a1), .val (.int (0 : Int32))] []))
  obtain ⟨Tt1, Xt1, et1, stt1⟩ := getS2 X0 hx hZ hown (host := "") (Or.inl (hw _ (List.mem_of_getElem? (i := 130) rfl))) Via.refl e0 (S_ua.ext O0) (g := (mkF m 0 #[.val (.ref a1), .val (.int (0 : Int32))] [])) rfl (hb hby d_jdk_52_method_5_0)
  refine go stt1 ?_
  show Goes p e below _ (Tt1.setTop (mkF m 3 #[.val (.ref a1), .val (.int (0 : Int32))] [(.int (1 : Int32))]))
  refine gIfY Xt1 hx (hb hby d_jdk_52_method_5_3) (pc' := 28) (XT.i0_ne_t (by decide)) (by decide) (by decide) ?_
  show Goes p e below _ (Tt1.setTop (mkF m 28 #[.val (.ref a1), .val (.int (0 : Int32))] []))
  refine gIloadN Xt1 hx (hb hby d_jdk_52_method_5_28) rfl ?_
  refine gIconst Xt1 hx (hb hby d_jdk_52_method_5_29) (v := (1 : Int32)) rfl ?_
  refine gIshl Xt1 hx (hb hby d_jdk_52_method_5_30) ?_
  show Goes p e below _ (Tt1.setTop (mkF m 31 #[.val (.ref a1), .val (.int (0 : Int32))] [(.int ((0 : Int32) <<< ((1 : Int32) &&& 31)))]))
  rw [show ((0 : Int32) <<< ((1 : Int32) &&& 31)) = (0 : Int32) from by decide]
  show Goes p e below _ (Tt1.setTop (mkF m 31 #[.val (.ref a1), .val (.int (0 : Int32))] [(.int (0 : Int32))]))
  refine gIstoreN Xt1 hx (hb hby d_jdk_52_method_5_31) (l' := #[.val (.ref a1), .val (.int (0 : Int32))]) rfl ?_
  refine gAloadN Xt1 hx (hb hby d_jdk_52_method_5_32) rfl rfl ?_
  refine gIloadN Xt1 hx (hb hby d_jdk_52_method_5_33) rfl ?_
  refine gIinc Xt1 hx (hb hby d_jdk_52_method_5_34) (v := (1 : Int32)) rfl rfl (l' := #[.val (.ref a1), .val (.int (1 : Int32))]) rfl ?_
  refine goBaload Xt1 hx hZ et1 Y1 (x := y0) (hb hby d_jdk_52_method_5_37) (by decide) rfl ?_
  refine gSipush Xt1 hx (hb hby d_jdk_52_method_5_38) (v := (255 : Int32)) rfl ?_
  refine gIand Xt1 hx (hb hby d_jdk_52_method_5_41) ?_
  show Goes p e below _ (Tt1.setTop (mkF m 42 #[.val (.ref a1), .val (.int (1 : Int32))] [(.int (y0 &&& (255 : Int32)))]))
  obtain ⟨Tt2, Xt2, et2, stt2⟩ := getS2 Xt1 hx hZ hown (host := "") (Or.inl (hw _ (List.mem_of_getElem? (i := 131) rfl))) Via.refl et1 (S_uh.ext O0) (g := (mkF m 42 #[.val (.ref a1), .val (.int (1 : Int32))] [(.int (y0 &&& (255 : Int32)))])) rfl (hb hby d_jdk_52_method_5_42)
  refine go stt2 ?_
  show Goes p e below _ (Tt2.setTop (mkF m 45 #[.val (.ref a1), .val (.int (1 : Int32))] [(.int (0 : Int32)), (.int (y0 &&& (255 : Int32)))]))
  refine gIshl Xt2 hx (hb hby d_jdk_52_method_5_45) ?_
  refine gAloadN Xt2 hx (hb hby d_jdk_52_method_5_46) rfl rfl ?_
  refine gIloadN Xt2 hx (hb hby d_jdk_52_method_5_47) rfl ?_
  refine goBaload Xt2 hx hZ et2 Y1 (x := y1) (hb hby d_jdk_52_method_5_48) (by decide) rfl ?_
  refine gSipush Xt2 hx (hb hby d_jdk_52_method_5_49) (v := (255 : Int32)) rfl ?_
  refine gIand Xt2 hx (hb hby d_jdk_52_method_5_52) ?_
  obtain ⟨Tt3, Xt3, et3, stt3⟩ := getS2 Xt2 hx hZ hown (host := "") (Or.inl (hw _ (List.mem_of_getElem? (i := 132) rfl))) Via.refl et2 (S_ul.ext O0) (g := (mkF m 53 #[.val (.ref a1), .val (.int (1 : Int32))] [(.int (y1 &&& (255 : Int32))), (.int ((y0 &&& (255 : Int32)) <<< ((0 : Int32) &&& 31)))])) rfl (hb hby d_jdk_52_method_5_53)
  refine go stt3 ?_
  show Goes p e below _ (Tt3.setTop (mkF m 56 #[.val (.ref a1), .val (.int (1 : Int32))] [(.int (8 : Int32)), (.int (y1 &&& (255 : Int32))), (.int ((y0 &&& (255 : Int32)) <<< ((0 : Int32) &&& 31)))]))
  refine gIshl Xt3 hx (hb hby d_jdk_52_method_5_56) ?_
  refine gIor Xt3 hx (hb hby d_jdk_52_method_5_57) ?_
  refine gI2c Xt3 hx (hb hby d_jdk_52_method_5_58) ?_
  exact goRetN Xt3 hx (t := .char) hret hlocks (by simp) (hb hby d_jdk_52_method_5_59) (z' := ((((y0 &&& (255 : Int32)) <<< ((0 : Int32) &&& 31)) ||| ((y1 &&& (255 : Int32)) <<< ((8 : Int32) &&& 31))).toUInt32.toUInt16.toUInt32.toInt32)) (narc _) (by decide) (by decide) et3 (⟨rfl, N0, rfl⟩)
theorem d_jdk_52_method_14_0 : decode jdk_52_method_14_code 0 = .ok (.iload_n 2, 1) := by decide +kernel
theorem pd_8 : parseMethodDescriptor "(I)[B" = some ⟨[.int], some (.array .byte)⟩ := by decide +kernel
theorem d_jdk_52_method_14_1 : decode jdk_52_method_14_code 1 = .ok (.invokestatic 107, 3) := by decide +kernel
theorem d_jdk_52_method_14_4 : decode jdk_52_method_14_code 4 = .ok (.astore_n 3, 1) := by decide +kernel
theorem d_jdk_52_method_14_5 : decode jdk_52_method_14_code 5 = .ok (.iconst 0, 1) := by decide +kernel
theorem d_jdk_52_method_14_6 : decode jdk_52_method_14_code 6 = .ok (.istore 4, 2) := by decide +kernel
theorem d_jdk_52_method_14_8 : decode jdk_52_method_14_code 8 = .ok (.iload 4, 2) := by decide +kernel
theorem d_jdk_52_method_14_10 : decode jdk_52_method_14_code 10 = .ok (.iload_n 2, 1) := by decide +kernel
theorem d_jdk_52_method_14_11 : decode jdk_52_method_14_code 11 = .ok (.if_icmp .ge 21, 3) := by decide +kernel
theorem d_jdk_52_method_14_14 : decode jdk_52_method_14_code 14 = .ok (.aload_n 3, 1) := by decide +kernel
theorem d_jdk_52_method_14_15 : decode jdk_52_method_14_code 15 = .ok (.iload 4, 2) := by decide +kernel
theorem d_jdk_52_method_14_17 : decode jdk_52_method_14_code 17 = .ok (.aload_n 0, 1) := by decide +kernel
theorem d_jdk_52_method_14_18 : decode jdk_52_method_14_code 18 = .ok (.iload_n 1, 1) := by decide +kernel
theorem d_jdk_52_method_14_19 : decode jdk_52_method_14_code 19 = .ok (.caload, 1) := by decide +kernel
theorem pd_9 : parseMethodDescriptor "([BII)V" = some ⟨[(.array .byte), .int, .int], none⟩ := by decide +kernel
theorem d_jdk_52_method_14_20 : decode jdk_52_method_14_code 20 = .ok (.invokestatic 111, 3) := by decide +kernel
theorem d_jdk_52_method_14_23 : decode jdk_52_method_14_code 23 = .ok (.iinc 1 1, 3) := by decide +kernel
theorem d_jdk_52_method_14_26 : decode jdk_52_method_14_code 26 = .ok (.iinc 4 1, 3) := by decide +kernel
theorem d_jdk_52_method_14_29 : decode jdk_52_method_14_code 29 = .ok (.goto (-21), 3) := by decide +kernel
theorem d_jdk_52_method_14_32 : decode jdk_52_method_14_code 32 = .ok (.aload_n 3, 1) := by decide +kernel
theorem d_jdk_52_method_14_33 : decode jdk_52_method_14_code 33 = .ok (.areturn, 1) := by decide +kernel
theorem ef_rmTb1 (m : MethodId) (x0 : Addr) (x1 : Int32) (x2 : Int32) : entryFrame m #[(.ref x0), (.int x1), (.int x2)] 5 = mkF m 0 #[.val (.ref x0), .val (.int x1), .val (.int x2), .unset, .unset] [] := by first | (simp [entryFrame, mkF, argsToLocals, Value.category]; done) | rfl
set_option maxRecDepth 65536 in
set_option maxHeartbeats 40000000 in
theorem rmTb1 (l : Launch) (Z : State) (a0 : Array Value) (hw : ∀ d ∈ tables_1, d.before a0 Z = true) (c0 : Int32) (a1 : Addr) (h0 : Heap) (O0 : Ext Z.heap h0) (S_ua : Sta Z Z.heap "java/lang/StringUTF16" "$assertionsDisabled" "Z" (.int (1 : Int32))) (S_uh : Sta Z Z.heap "java/lang/StringUTF16" "HI_BYTE_SHIFT" "I" (.int (0 : Int32))) (S_ul : Sta Z Z.heap "java/lang/StringUTF16" "LO_BYTE_SHIFT" "I" (.int (8 : Int32))) (Y1 : Ary Z h0 a1 .char [(.int c0)]) :
    Ctr l Z (⟨"java/lang/StringUTF16", "toBytes", "([CII)[B"⟩ : MethodName) jdk_52_method_14_code 5 (some (.array .byte)) [] ({ frames := 2, cells := 1, slots := 2, locals := 24 } : Room) #[(.ref a1), (.int (0 : Int32)), (.int (1 : Int32))] h0 (fun v h L => ∃ u, v = some (.ref u) ∧ Fr Z.heap.size L ∧ Keep h0 h [] ∧ h0.size ≤ u ∧ Ary Z h u .byte [(.int ((c0 >>> ((0 : Int32) &&& 31)).toInt8.toInt32)), (.int ((c0 >>> ((8 : Int32) &&& 31)).toInt8.toInt32))]) := by
  refine ctr (plainFor_of_name pn_4) ?_
  intro p e s m below meth c s₁ hx hby hml hown hnm hret hlocks hZ X0 e0
  have N0 := Fr.nil Z.heap.size
  have hsz : ∀ {Ls : Array Slot}, Ls.size = 5 → Ls.size = c.maxLocals := fun q => q.trans hml.symm
  have K0 := Keep.refl h0 []
  refine goE (ef_rmTb1 m (a1) ((0 : Int32)) ((1 : Int32))) ?_
  show Goes p e below _ (s₁.setTop (mkF m 0 #[.val (.ref a1), .val (.int (0 : Int32)), .val (.int (1 : Int32)), .unset, .unset] []))
  refine gIloadN X0 hx (hb hby d_jdk_52_method_14_0) rfl ?_
  have lt_a1_t1 := Y1.lt
  refine goCallS X0 hx hZ hown (hw _ (List.mem_of_getElem? (i := 120) rfl)) (hw _ (List.mem_of_getElem? (i := 121) rfl)) (hw _ (List.mem_of_getElem? (i := 42) rfl)) (hw _ (List.mem_of_getElem? (i := 122) rfl)) (by decide) (rmNf1 l Z a0 hw h0 O0) 0 (by decide) (by decide) e0 (hsz rfl) [(.int (1 : Int32))] [] pd_8 rfl rfl rfl (Nat.le_of_eq rfl) (hb hby d_jdk_52_method_14_1) (by decide) (by decide) (fun Tt1 vt1 Lt1 Xt1 qt1 => ?_)
  obtain ⟨ht1, et1⟩ : ∃ z, Tt1.heap = z := ⟨_, rfl⟩
  rw [et1] at qt1
  obtain ⟨u, rfl, N2, Kct1, pu, Yu⟩ := qt1
  have N3 := Fr.app N0 N2
  replace Y1 := Y1.keep Kct1 nin0
  have O4 : Ext Z.heap ht1 := extK O0 Kct1 all0
  have K5 := K0.trans Kct1 all0
  have ne_a1_u : a1 ≠ u := Nat.ne_of_lt (Nat.lt_of_lt_of_le lt_a1_t1 pu)
  have fr_u : Z.heap.size ≤ u := Nat.le_trans O0.1 pu
  have pa_u : h0.size ≤ u := Nat.le_trans K0.1 pu
  show Goes p e below _ (Tt1.setTop (mkF m 4 #[.val (.ref a1), .val (.int (0 : Int32)), .val (.int (1 : Int32)), .unset, .unset] [(.ref u)]))
  refine gAstoreN Xt1 hx (hb hby d_jdk_52_method_14_4) rfl (l' := #[.val (.ref a1), .val (.int (0 : Int32)), .val (.int (1 : Int32)), .val (.ref u), .unset]) rfl ?_
  refine gIconst Xt1 hx (hb hby d_jdk_52_method_14_5) (v := (0 : Int32)) rfl ?_
  refine gIstore Xt1 hx (hb hby d_jdk_52_method_14_6) (l' := #[.val (.ref a1), .val (.int (0 : Int32)), .val (.int (1 : Int32)), .val (.ref u), .val (.int (0 : Int32))]) rfl ?_
  refine gIload Xt1 hx (hb hby d_jdk_52_method_14_8) rfl ?_
  refine gIloadN Xt1 hx (hb hby d_jdk_52_method_14_10) rfl ?_
  refine gIcmpN Xt1 hx (hb hby d_jdk_52_method_14_11) (XT.ii_ge_f (by decide)) ?_
  show Goes p e below _ (Tt1.setTop (mkF m 14 #[.val (.ref a1), .val (.int (0 : Int32)), .val (.int (1 : Int32)), .val (.ref u), .val (.int (0 : Int32))] []))
  refine gAloadN Xt1 hx (hb hby d_jdk_52_method_14_14) rfl rfl ?_
  refine gIload Xt1 hx (hb hby d_jdk_52_method_14_15) rfl ?_
  refine gAloadN Xt1 hx (hb hby d_jdk_52_method_14_17) rfl rfl ?_
  refine gIloadN Xt1 hx (hb hby d_jdk_52_method_14_18) rfl ?_
  refine goCaload Xt1 hx hZ et1 Y1 (x := c0) (hb hby d_jdk_52_method_14_19) (by decide) rfl ?_
  refine goCallS Xt1 hx hZ hown (hw _ (List.mem_of_getElem? (i := 127) rfl)) (hw _ (List.mem_of_getElem? (i := 128) rfl)) (hw _ (List.mem_of_getElem? (i := 42) rfl)) (hw _ (List.mem_of_getElem? (i := 129) rfl)) (by decide) (rmPc10 l Z a0 hw (0 : Int32) (0 : Int32) u c0 ht1 O4 S_ua S_uh S_ul Yu fr_u) 0 (by decide) (by decide) et1 (hsz rfl) [(.ref u), (.int (0 : Int32)), (.int c0)] [] pd_9 rfl rfl rfl (Nat.le_of_eq rfl) (hb hby d_jdk_52_method_14_20) (by decide) (by decide) (fun Tt6 vt6 Lt6 Xt6 qt6 => ?_)
  obtain ⟨ht6, et6⟩ : ∃ z, Tt6.heap = z := ⟨_, rfl⟩
  rw [et6] at qt6
  obtain ⟨rfl, N7, Kct6, Yu⟩ := qt6
  have N8 := Fr.app N3 N7
  replace Y1 := Y1.keep Kct6 (ninS ne_a1_u nin0)
  have O9 : Ext Z.heap ht6 := extK O4 Kct6 (allS fr_u all0)
  have K10 := K5.trans Kct6 (allS (Or.inr pa_u) all0)
  show Goes p e below _ (Tt6.setTop (mkF m 23 #[.val (.ref a1), .val (.int (0 : Int32)), .val (.int (1 : Int32)), .val (.ref u), .val (.int (0 : Int32))] []))
  refine gIinc Xt6 hx (hb hby d_jdk_52_method_14_23) (v := (1 : Int32)) rfl rfl (l' := #[.val (.ref a1), .val (.int (1 : Int32)), .val (.int (1 : Int32)), .val (.ref u), .val (.int (0 : Int32))]) rfl ?_
  refine gIinc Xt6 hx (hb hby d_jdk_52_method_14_26) (v := (1 : Int32)) rfl rfl (l' := #[.val (.ref a1), .val (.int (1 : Int32)), .val (.int (1 : Int32)), .val (.ref u), .val (.int (1 : Int32))]) rfl ?_
  refine gGoto Xt6 hx (hb hby d_jdk_52_method_14_29) (pc' := 8) (by decide) (by decide) ?_
  show Goes p e below _ (Tt6.setTop (mkF m 8 #[.val (.ref a1), .val (.int (1 : Int32)), .val (.int (1 : Int32)), .val (.ref u), .val (.int (1 : Int32))] []))
  refine gIload Xt6 hx (hb hby d_jdk_52_method_14_8) rfl ?_
  refine gIloadN Xt6 hx (hb hby d_jdk_52_method_14_10) rfl ?_
  refine gIcmpY Xt6 hx (hb hby d_jdk_52_method_14_11) (pc' := 32) (XT.ii_ge_t (by decide)) (by decide) (by decide) ?_
  show Goes p e below _ (Tt6.setTop (mkF m 32 #[.val (.ref a1), .val (.int (1 : Int32)), .val (.int (1 : Int32)), .val (.ref u), .val (.int (1 : Int32))] []))
  refine gAloadN Xt6 hx (hb hby d_jdk_52_method_14_32) rfl rfl ?_
  exact goRetA Xt6 hx hret hlocks rfl rfl (hb hby d_jdk_52_method_14_33) (by decide) (by decide) et6 (⟨u, rfl, N8, K10, pa_u, Yu⟩)
theorem d_jdk_52_method_16_0 : decode jdk_52_method_16_code 0 = .ok (.iload_n 2, 1) := by decide +kernel
theorem d_jdk_52_method_16_1 : decode jdk_52_method_16_code 1 = .ok (.newarray .byte, 2) := by decide +kernel
theorem d_jdk_52_method_16_3 : decode jdk_52_method_16_code 3 = .ok (.astore_n 3, 1) := by decide +kernel
theorem d_jdk_52_method_16_4 : decode jdk_52_method_16_code 4 = .ok (.aload_n 0, 1) := by decide +kernel
theorem d_jdk_52_method_16_5 : decode jdk_52_method_16_code 5 = .ok (.iload_n 1, 1) := by decide +kernel
theorem d_jdk_52_method_16_6 : decode jdk_52_method_16_code 6 = .ok (.aload_n 3, 1) := by decide +kernel
theorem d_jdk_52_method_16_7 : decode jdk_52_method_16_code 7 = .ok (.iconst 0, 1) := by decide +kernel
theorem d_jdk_52_method_16_8 : decode jdk_52_method_16_code 8 = .ok (.iload_n 2, 1) := by decide +kernel
theorem pd_10 : parseMethodDescriptor "([CI[BII)I" = some ⟨[(.array .char), .int, (.array .byte), .int, .int], some .int⟩ := by decide +kernel
theorem d_jdk_52_method_16_9 : decode jdk_52_method_16_code 9 = .ok (.invokestatic 115, 3) := by decide +kernel
theorem d_jdk_52_method_16_12 : decode jdk_52_method_16_code 12 = .ok (.istore 4, 2) := by decide +kernel
theorem d_jdk_52_method_16_14 : decode jdk_52_method_16_code 14 = .ok (.iload 4, 2) := by decide +kernel
theorem d_jdk_52_method_16_16 : decode jdk_52_method_16_code 16 = .ok (.iload_n 2, 1) := by decide +kernel
theorem d_jdk_52_method_16_17 : decode jdk_52_method_16_code 17 = .ok (.if_icmp .eq 40, 3) := by decide +kernel
theorem d_jdk_52_method_16_57 : decode jdk_52_method_16_code 57 = .ok (.aload_n 3, 1) := by decide +kernel
theorem d_jdk_52_method_16_58 : decode jdk_52_method_16_code 58 = .ok (.areturn, 1) := by decide +kernel
theorem d_jdk_52_method_16_20 : decode jdk_52_method_16_code 20 = .ok (.aload_n 0, 1) := by decide +kernel
theorem d_jdk_52_method_16_21 : decode jdk_52_method_16_code 21 = .ok (.iload_n 1, 1) := by decide +kernel
theorem d_jdk_52_method_16_22 : decode jdk_52_method_16_code 22 = .ok (.iload_n 2, 1) := by decide +kernel
theorem pd_11 : parseMethodDescriptor "([CII)[B" = some ⟨[(.array .char), .int, .int], some (.array .byte)⟩ := by decide +kernel
theorem d_jdk_52_method_16_23 : decode jdk_52_method_16_code 23 = .ok (.invokestatic 119, 3) := by decide +kernel
theorem d_jdk_52_method_16_26 : decode jdk_52_method_16_code 26 = .ok (.astore 5, 2) := by decide +kernel
theorem d_jdk_52_method_16_28 : decode jdk_52_method_16_code 28 = .ok (.aload 5, 2) := by decide +kernel
theorem d_jdk_52_method_16_30 : decode jdk_52_method_16_code 30 = .ok (.iload 4, 2) := by decide +kernel
theorem pd_12 : parseMethodDescriptor "([BI)C" = some ⟨[(.array .byte), .int], some .char⟩ := by decide +kernel
theorem d_jdk_52_method_16_32 : decode jdk_52_method_16_code 32 = .ok (.invokestatic 71, 3) := by decide +kernel
theorem d_jdk_52_method_16_35 : decode jdk_52_method_16_code 35 = .ok (.sipush 255, 3) := by decide +kernel
theorem d_jdk_52_method_16_38 : decode jdk_52_method_16_code 38 = .ok (.if_icmp .gt 16, 3) := by decide +kernel
theorem d_jdk_52_method_16_54 : decode jdk_52_method_16_code 54 = .ok (.aload 5, 2) := by decide +kernel
theorem d_jdk_52_method_16_56 : decode jdk_52_method_16_code 56 = .ok (.areturn, 1) := by decide +kernel
theorem ef_rmSb1 (m : MethodId) (x0 : Addr) (x1 : Int32) (x2 : Int32) : entryFrame m #[(.ref x0), (.int x1), (.int x2)] 6 = mkF m 0 #[.val (.ref x0), .val (.int x1), .val (.int x2), .unset, .unset, .unset] [] := by first | (simp [entryFrame, mkF, argsToLocals, Value.category]; done) | rfl
set_option maxRecDepth 65536 in
set_option maxHeartbeats 40000000 in
theorem rmSb1 (l : Launch) (Z : State) (a0 : Array Value) (hw : ∀ d ∈ tables_1, d.before a0 Z = true) (c0 : Int32) (a1 : Addr) (h0 : Heap) (O0 : Ext Z.heap h0) (S_ua : Sta Z Z.heap "java/lang/StringUTF16" "$assertionsDisabled" "Z" (.int (1 : Int32))) (S_uh : Sta Z Z.heap "java/lang/StringUTF16" "HI_BYTE_SHIFT" "I" (.int (0 : Int32))) (S_ul : Sta Z Z.heap "java/lang/StringUTF16" "LO_BYTE_SHIFT" "I" (.int (8 : Int32))) (Y1 : Ary Z h0 a1 .char [(.int c0)]) (q0_0 : ¬ c0 < 0) (q1_0 : ¬ (65535 : Int32) < c0) :
    Ctr l Z (⟨"java/lang/StringUTF16", "compress", "([CII)[B"⟩ : MethodName) jdk_52_method_16_code 6 (some (.array .byte)) [] ({ frames := 3, cells := 2, slots := 3, locals := 40 } : Room) #[(.ref a1), (.int (0 : Int32)), (.int (1 : Int32))] h0 (fun v h L => ∃ u, v = some (.ref u) ∧ Fr Z.heap.size L ∧ Keep h0 h [] ∧ h0.size ≤ u ∧ (((¬ (255 : Int32) < c0) ∧ Ary Z h u .byte [(.int (c0.toInt8.toInt32))]) ∨ Ary Z h u .byte [(.int ((c0 >>> ((0 : Int32) &&& 31)).toInt8.toInt32)), (.int ((c0 >>> ((8 : Int32) &&& 31)).toInt8.toInt32))])) := by
  refine ctr (plainFor_of_name pn_4) ?_
  intro p e s m below meth c s₁ hx hby hml hown hnm hret hlocks hZ X0 e0
  have N0 := Fr.nil Z.heap.size
  have hsz : ∀ {Ls : Array Slot}, Ls.size = 6 → Ls.size = c.maxLocals := fun q => q.trans hml.symm
  have K0 := Keep.refl h0 []
  refine goE (ef_rmSb1 m (a1) ((0 : Int32)) ((1 : Int32))) ?_
  show Goes p e below _ (s₁.setTop (mkF m 0 #[.val (.ref a1), .val (.int (0 : Int32)), .val (.int (1 : Int32)), .unset, .unset, .unset] []))
  refine gIloadN X0 hx (hb hby d_jdk_52_method_16_0) rfl ?_
  obtain ⟨Tt1, ht1, kt1, Xt1, et1, Et1, At1, stt1⟩ := newP X0 hx hZ (hw _ (List.mem_of_getElem? (i := 23) rfl)) e0 (g := (mkF m 1 #[.val (.ref a1), .val (.int (0 : Int32)), .val (.int (1 : Int32)), .unset, .unset, .unset] [(.int (1 : Int32))])) rfl (hb hby d_jdk_52_method_16_1) rfl (by decide) (cap := 1) (by decide) (by decide) (by decide) (by decide)
  obtain ⟨ob2, gob2⟩ : ∃ z, z = h0.size := ⟨_, rfl⟩
  rw [← gob2] at At1 stt1
  refine go stt1 ?_
  have ne_a1_ob2 : a1 ≠ ob2 := Nat.ne_of_lt (gob2 ▸ Y1.lt)
  have fr_ob2 : Z.heap.size ≤ ob2 := gob2 ▸ O0.1
  have pa_ob2 : h0.size ≤ ob2 := gob2 ▸ K0.1
  replace Y1 := Y1.ext Et1
  have O3 : Ext Z.heap ht1 := extT O0 Et1
  have K4 := K0.ext Et1
  have Y_ob2 : Ary Z ht1 ob2 .byte [(.int (0 : Int32))] := Ary.new At1 rfl (by decide)
  show Goes p e below _ (Tt1.setTop (mkF m 3 #[.val (.ref a1), .val (.int (0 : Int32)), .val (.int (1 : Int32)), .unset, .unset, .unset] [(.ref ob2)]))
  refine gAstoreN Xt1 hx (hb hby d_jdk_52_method_16_3) rfl (l' := #[.val (.ref a1), .val (.int (0 : Int32)), .val (.int (1 : Int32)), .val (.ref ob2), .unset, .unset]) rfl ?_
  refine gAloadN Xt1 hx (hb hby d_jdk_52_method_16_4) rfl rfl ?_
  refine gIloadN Xt1 hx (hb hby d_jdk_52_method_16_5) rfl ?_
  refine gAloadN Xt1 hx (hb hby d_jdk_52_method_16_6) rfl rfl ?_
  refine gIconst Xt1 hx (hb hby d_jdk_52_method_16_7) (v := (0 : Int32)) rfl ?_
  refine gIloadN Xt1 hx (hb hby d_jdk_52_method_16_8) rfl ?_
  refine goCallS Xt1 hx hZ hown (hw _ (List.mem_of_getElem? (i := 44) rfl)) (hw _ (List.mem_of_getElem? (i := 45) rfl)) (hw _ (List.mem_of_getElem? (i := 42) rfl)) (hw _ (List.mem_of_getElem? (i := 46) rfl)) (by decide) (rmSa1 l Z a0 hw c0 a1 ob2 ht1 O3 Y1 Y_ob2 ne_a1_ob2 fr_ob2) 0 (by decide) (by decide) et1 (hsz rfl) [(.ref a1), (.int (0 : Int32)), (.ref ob2), (.int (0 : Int32)), (.int (1 : Int32))] [] pd_10 rfl rfl rfl (Nat.le_of_eq rfl) (hb hby d_jdk_52_method_16_9) (by decide) (by decide) (fun Tt5 vt5 Lt5 Xt5 qt5 => ?_)
  obtain ⟨ht5, et5⟩ : ∃ z, Tt5.heap = z := ⟨_, rfl⟩
  rw [et5] at qt5
  obtain ⟨r_, rfl, N6, Kct5, alt⟩ := qt5
  have N7 := Fr.app N0 N6
  replace Y1 := Y1.keep Kct5 (ninS ne_a1_ob2 nin0)
  have O8 : Ext Z.heap ht5 := extK O3 Kct5 (allS fr_ob2 all0)
  have K9 := K4.trans Kct5 (allS (Or.inr pa_ob2) all0)
  show Goes p e below _ (Tt5.setTop (mkF m 12 #[.val (.ref a1), .val (.int (0 : Int32)), .val (.int (1 : Int32)), .val (.ref ob2), .unset, .unset] [(.int r_)]))
  rcases alt with ⟨rfl, ok, Yb⟩ | ⟨rfl, o0⟩
  · show Goes p e below _ (Tt5.setTop (mkF m 12 #[.val (.ref a1), .val (.int (0 : Int32)), .val (.int (1 : Int32)), .val (.ref ob2), .unset, .unset] [(.int (1 : Int32))]))
    refine gIstore Xt5 hx (hb hby d_jdk_52_method_16_12) (l' := #[.val (.ref a1), .val (.int (0 : Int32)), .val (.int (1 : Int32)), .val (.ref ob2), .val (.int (1 : Int32)), .unset]) rfl ?_
    refine gIload Xt5 hx (hb hby d_jdk_52_method_16_14) rfl ?_
    refine gIloadN Xt5 hx (hb hby d_jdk_52_method_16_16) rfl ?_
    refine gIcmpY Xt5 hx (hb hby d_jdk_52_method_16_17) (pc' := 57) (XT.ii_eq_t rfl) (by decide) (by decide) ?_
    show Goes p e below _ (Tt5.setTop (mkF m 57 #[.val (.ref a1), .val (.int (0 : Int32)), .val (.int (1 : Int32)), .val (.ref ob2), .val (.int (1 : Int32)), .unset] []))
    refine gAloadN Xt5 hx (hb hby d_jdk_52_method_16_57) rfl rfl ?_
    exact goRetA Xt5 hx hret hlocks rfl rfl (hb hby d_jdk_52_method_16_58) (by decide) (by decide) et5 (⟨ob2, rfl, N7, K9, pa_ob2, Or.inl ⟨ok, Yb⟩⟩)
  · show Goes p e below _ (Tt5.setTop (mkF m 12 #[.val (.ref a1), .val (.int (0 : Int32)), .val (.int (1 : Int32)), .val (.ref ob2), .unset, .unset] [(.int (0 : Int32))]))
    refine gIstore Xt5 hx (hb hby d_jdk_52_method_16_12) (l' := #[.val (.ref a1), .val (.int (0 : Int32)), .val (.int (1 : Int32)), .val (.ref ob2), .val (.int (0 : Int32)), .unset]) rfl ?_
    refine gIload Xt5 hx (hb hby d_jdk_52_method_16_14) rfl ?_
    refine gIloadN Xt5 hx (hb hby d_jdk_52_method_16_16) rfl ?_
    refine gIcmpN Xt5 hx (hb hby d_jdk_52_method_16_17) (XT.ii_eq_f (by decide)) ?_
    show Goes p e below _ (Tt5.setTop (mkF m 20 #[.val (.ref a1), .val (.int (0 : Int32)), .val (.int (1 : Int32)), .val (.ref ob2), .val (.int (0 : Int32)), .unset] []))
    refine gAloadN Xt5 hx (hb hby d_jdk_52_method_16_20) rfl rfl ?_
    refine gIloadN Xt5 hx (hb hby d_jdk_52_method_16_21) rfl ?_
    refine gIloadN Xt5 hx (hb hby d_jdk_52_method_16_22) rfl ?_
    have lt_a1_t10 := Y1.lt
    refine goCallS Xt5 hx hZ hown (hw _ (List.mem_of_getElem? (i := 117) rfl)) (hw _ (List.mem_of_getElem? (i := 118) rfl)) (hw _ (List.mem_of_getElem? (i := 42) rfl)) (hw _ (List.mem_of_getElem? (i := 119) rfl)) (by decide) (rmTb1 l Z a0 hw c0 a1 ht5 O8 S_ua S_uh S_ul Y1) 0 (by decide) (by decide) et5 (hsz rfl) [(.ref a1), (.int (0 : Int32)), (.int (1 : Int32))] [] pd_11 rfl rfl rfl (Nat.le_of_eq rfl) (hb hby d_jdk_52_method_16_23) (by decide) (by decide) (fun Tt10 vt10 Lt10 Xt10 qt10 => ?_)
    obtain ⟨ht10, et10⟩ : ∃ z, Tt10.heap = z := ⟨_, rfl⟩
    rw [et10] at qt10
    obtain ⟨u, rfl, N11, Kct10, pu, Yu⟩ := qt10
    have N12 := Fr.app N7 N11
    replace Y1 := Y1.keep Kct10 nin0
    have O13 : Ext Z.heap ht10 := extK O8 Kct10 all0
    have K14 := K9.trans Kct10 all0
    have ne_a1_u : a1 ≠ u := Nat.ne_of_lt (Nat.lt_of_lt_of_le lt_a1_t10 pu)
    have fr_u : Z.heap.size ≤ u := Nat.le_trans O8.1 pu
    have pa_u : h0.size ≤ u := Nat.le_trans K9.1 pu
    show Goes p e below _ (Tt10.setTop (mkF m 26 #[.val (.ref a1), .val (.int (0 : Int32)), .val (.int (1 : Int32)), .val (.ref ob2), .val (.int (0 : Int32)), .unset] [(.ref u)]))
    refine gAstore Xt10 hx (hb hby d_jdk_52_method_16_26) rfl (l' := #[.val (.ref a1), .val (.int (0 : Int32)), .val (.int (1 : Int32)), .val (.ref ob2), .val (.int (0 : Int32)), .val (.ref u)]) rfl ?_
    refine gAload Xt10 hx (hb hby d_jdk_52_method_16_28) rfl rfl ?_
    refine gIload Xt10 hx (hb hby d_jdk_52_method_16_30) rfl ?_
    refine goCallS Xt10 hx hZ hown (hw _ (List.mem_of_getElem? (i := 133) rfl)) (hw _ (List.mem_of_getElem? (i := 134) rfl)) (hw _ (List.mem_of_getElem? (i := 42) rfl)) (hw _ (List.mem_of_getElem? (i := 135) rfl)) (by decide) (rmGc10 l Z a0 hw ((c0 >>> ((0 : Int32) &&& 31)).toInt8.toInt32) ((c0 >>> ((8 : Int32) &&& 31)).toInt8.toInt32) u ht10 O13 S_ua S_uh S_ul Yu) 0 (by decide) (by decide) et10 (hsz rfl) [(.ref u), (.int (0 : Int32))] [] pd_12 rfl rfl rfl (Nat.le_of_eq rfl) (hb hby d_jdk_52_method_16_32) (by decide) (by decide) (fun Tt15 vt15 Lt15 Xt15 qt15 => ?_)
    obtain ⟨rfl, N16, et15⟩ := qt15
    have N17 := Fr.app N12 N16
    show Goes p e below _ (Tt15.setTop (mkF m 35 #[.val (.ref a1), .val (.int (0 : Int32)), .val (.int (1 : Int32)), .val (.ref ob2), .val (.int (0 : Int32)), .val (.ref u)] [(.int (own_gc ((c0 >>> ((0 : Int32) &&& 31)).toInt8.toInt32) ((c0 >>> ((8 : Int32) &&& 31)).toInt8.toInt32)))]))
    rw [own_gcc q0_0 q1_0]
    show Goes p e below _ (Tt15.setTop (mkF m 35 #[.val (.ref a1), .val (.int (0 : Int32)), .val (.int (1 : Int32)), .val (.ref ob2), .val (.int (0 : Int32)), .val (.ref u)] [(.int c0)]))
    refine gSipush Xt15 hx (hb hby d_jdk_52_method_16_35) (v := (255 : Int32)) rfl ?_
    refine gIcmpY Xt15 hx (hb hby d_jdk_52_method_16_38) (pc' := 54) (XT.ii_gt_t o0) (by decide) (by decide) ?_
    show Goes p e below _ (Tt15.setTop (mkF m 54 #[.val (.ref a1), .val (.int (0 : Int32)), .val (.int (1 : Int32)), .val (.ref ob2), .val (.int (0 : Int32)), .val (.ref u)] []))
    refine gAload Xt15 hx (hb hby d_jdk_52_method_16_54) rfl rfl ?_
    exact goRetA Xt15 hx hret hlocks rfl rfl (hb hby d_jdk_52_method_16_56) (by decide) (by decide) et15 (⟨u, rfl, N17, K14, pa_u, Or.inr Yu⟩)
theorem d_jdk_52_method_15_0 : decode jdk_52_method_15_code 0 = .ok (.iload_n 1, 1) := by decide +kernel
theorem d_jdk_52_method_15_1 : decode jdk_52_method_15_code 1 = .ok (.aload_n 0, 1) := by decide +kernel
theorem d_jdk_52_method_15_2 : decode jdk_52_method_15_code 2 = .ok (.arraylength, 1) := by decide +kernel
theorem d_jdk_52_method_15_3 : decode jdk_52_method_15_code 3 = .ok (.isub, 1) := by decide +kernel
theorem d_jdk_52_method_15_4 : decode jdk_52_method_15_code 4 = .ok (.bipush 31, 2) := by decide +kernel
theorem d_jdk_52_method_15_6 : decode jdk_52_method_15_code 6 = .ok (.iushr, 1) := by decide +kernel
theorem d_jdk_52_method_15_7 : decode jdk_52_method_15_code 7 = .ok (.i2b, 1) := by decide +kernel
theorem d_jdk_52_method_15_8 : decode jdk_52_method_15_code 8 = .ok (.ireturn, 1) := by decide +kernel
theorem ef_rmSc1 (m : MethodId) (x0 : Addr) (x1 : Int32) : entryFrame m #[(.ref x0), (.int x1)] 2 = mkF m 0 #[.val (.ref x0), .val (.int x1)] [] := by first | (simp [entryFrame, mkF, argsToLocals, Value.category]; done) | rfl
set_option maxRecDepth 65536 in
set_option maxHeartbeats 40000000 in
theorem rmSc1 (l : Launch) (Z : State) (a0 : Array Value) (hw : ∀ d ∈ tables_1, d.before a0 Z = true) (c0 : Int32) (a1 : Addr) (h0 : Heap) (O0 : Ext Z.heap h0) (Y1 : Ary Z h0 a1 .byte [(.int (c0.toInt8.toInt32))]) :
    Ctr l Z (⟨"java/lang/StringUTF16", "coderFromArrayLen", "([BI)B"⟩ : MethodName) jdk_52_method_15_code 2 (some .byte) [] ({ frames := 0, cells := 0, slots := 0, locals := 0 } : Room) #[(.ref a1), (.int (1 : Int32))] h0 (fun v h L => v = some (.int (0 : Int32)) ∧ Fr Z.heap.size L ∧ h = h0) := by
  refine ctr (plainFor_of_name pn_4) ?_
  intro p e s m below meth c s₁ hx hby hml hown hnm hret hlocks hZ X0 e0
  have N0 := Fr.nil Z.heap.size
  have hsz : ∀ {Ls : Array Slot}, Ls.size = 2 → Ls.size = c.maxLocals := fun q => q.trans hml.symm
  refine goE (ef_rmSc1 m (a1) ((1 : Int32))) ?_
  show Goes p e below _ (s₁.setTop (mkF m 0 #[.val (.ref a1), .val (.int (1 : Int32))] []))
  refine gIloadN X0 hx (hb hby d_jdk_52_method_15_0) rfl ?_
  refine gAloadN X0 hx (hb hby d_jdk_52_method_15_1) rfl rfl ?_
  refine goAlen X0 hx hZ e0 Y1 (n := (1 : Int32)) (hb hby d_jdk_52_method_15_2) rfl ?_
  refine gIsub X0 hx (hb hby d_jdk_52_method_15_3) ?_
  refine gBipush X0 hx (hb hby d_jdk_52_method_15_4) (v := (31 : Int32)) rfl ?_
  refine gIushr X0 hx (hb hby d_jdk_52_method_15_6) ?_
  refine gI2b X0 hx (hb hby d_jdk_52_method_15_7) ?_
  show Goes p e below _ (s₁.setTop (mkF m 8 #[.val (.ref a1), .val (.int (1 : Int32))] [(.int ((XT.ushr (0 : Int32) (31 : Int32)).toInt8.toInt32))]))
  exact goRetN X0 hx (t := .byte) hret hlocks (by simp) (hb hby d_jdk_52_method_15_8) (z' := (0 : Int32)) (by decide) (by decide) (by decide) e0 (⟨rfl, N0, rfl⟩)
theorem ef_rmSe1 (m : MethodId) (x0 : Addr) (x1 : Int32) : entryFrame m #[(.ref x0), (.int x1)] 2 = mkF m 0 #[.val (.ref x0), .val (.int x1)] [] := by first | (simp [entryFrame, mkF, argsToLocals, Value.category]; done) | rfl
set_option maxRecDepth 65536 in
set_option maxHeartbeats 40000000 in
theorem rmSe1 (l : Launch) (Z : State) (a0 : Array Value) (hw : ∀ d ∈ tables_1, d.before a0 Z = true) (c0 : Int32) (a1 : Addr) (h0 : Heap) (O0 : Ext Z.heap h0) (Y1 : Ary Z h0 a1 .byte [(.int ((c0 >>> ((0 : Int32) &&& 31)).toInt8.toInt32)), (.int ((c0 >>> ((8 : Int32) &&& 31)).toInt8.toInt32))]) :
    Ctr l Z (⟨"java/lang/StringUTF16", "coderFromArrayLen", "([BI)B"⟩ : MethodName) jdk_52_method_15_code 2 (some .byte) [] ({ frames := 0, cells := 0, slots := 0, locals := 0 } : Room) #[(.ref a1), (.int (1 : Int32))] h0 (fun v h L => v = some (.int (1 : Int32)) ∧ Fr Z.heap.size L ∧ h = h0) := by
  refine ctr (plainFor_of_name pn_4) ?_
  intro p e s m below meth c s₁ hx hby hml hown hnm hret hlocks hZ X0 e0
  have N0 := Fr.nil Z.heap.size
  have hsz : ∀ {Ls : Array Slot}, Ls.size = 2 → Ls.size = c.maxLocals := fun q => q.trans hml.symm
  refine goE (ef_rmSe1 m (a1) ((1 : Int32))) ?_
  show Goes p e below _ (s₁.setTop (mkF m 0 #[.val (.ref a1), .val (.int (1 : Int32))] []))
  refine gIloadN X0 hx (hb hby d_jdk_52_method_15_0) rfl ?_
  refine gAloadN X0 hx (hb hby d_jdk_52_method_15_1) rfl rfl ?_
  refine goAlen X0 hx hZ e0 Y1 (n := (2 : Int32)) (hb hby d_jdk_52_method_15_2) rfl ?_
  refine gIsub X0 hx (hb hby d_jdk_52_method_15_3) ?_
  refine gBipush X0 hx (hb hby d_jdk_52_method_15_4) (v := (31 : Int32)) rfl ?_
  refine gIushr X0 hx (hb hby d_jdk_52_method_15_6) ?_
  refine gI2b X0 hx (hb hby d_jdk_52_method_15_7) ?_
  show Goes p e below _ (s₁.setTop (mkF m 8 #[.val (.ref a1), .val (.int (1 : Int32))] [(.int ((XT.ushr (-1 : Int32) (31 : Int32)).toInt8.toInt32))]))
  exact goRetN X0 hx (t := .byte) hret hlocks (by simp) (hb hby d_jdk_52_method_15_8) (z' := (1 : Int32)) (by decide) (by decide) (by decide) e0 (⟨rfl, N0, rfl⟩)
theorem d_jdk_42_method_149_0 : decode jdk_42_method_149_code 0 = .ok (.aload_n 0, 1) := by decide +kernel
theorem d_jdk_42_method_149_1 : decode jdk_42_method_149_code 1 = .ok (.invokespecial 1, 3) := by decide +kernel
theorem d_jdk_42_method_149_4 : decode jdk_42_method_149_code 4 = .ok (.iload_n 3, 1) := by decide +kernel
theorem d_jdk_42_method_149_5 : decode jdk_42_method_149_code 5 = .ok (.ifCond .ne 22, 3) := by decide +kernel
theorem d_jdk_42_method_149_27 : decode jdk_42_method_149_code 27 = .ok (.getstatic 38, 3) := by decide +kernel
theorem d_jdk_42_method_149_30 : decode jdk_42_method_149_code 30 = .ok (.ifCond .eq 28, 3) := by decide +kernel
theorem d_jdk_42_method_149_33 : decode jdk_42_method_149_code 33 = .ok (.aload_n 1, 1) := by decide +kernel
theorem d_jdk_42_method_149_34 : decode jdk_42_method_149_code 34 = .ok (.iload_n 2, 1) := by decide +kernel
theorem d_jdk_42_method_149_35 : decode jdk_42_method_149_code 35 = .ok (.iload_n 3, 1) := by decide +kernel
theorem d_jdk_42_method_149_36 : decode jdk_42_method_149_code 36 = .ok (.invokestatic 177, 3) := by decide +kernel
theorem d_jdk_42_method_149_39 : decode jdk_42_method_149_code 39 = .ok (.astore 5, 2) := by decide +kernel
theorem d_jdk_42_method_149_41 : decode jdk_42_method_149_code 41 = .ok (.aload_n 0, 1) := by decide +kernel
theorem d_jdk_42_method_149_42 : decode jdk_42_method_149_code 42 = .ok (.aload 5, 2) := by decide +kernel
theorem d_jdk_42_method_149_44 : decode jdk_42_method_149_code 44 = .ok (.iload_n 3, 1) := by decide +kernel
theorem pd_13 : parseMethodDescriptor "([BI)B" = some ⟨[(.array .byte), .int], some .byte⟩ := by decide +kernel
theorem d_jdk_42_method_149_45 : decode jdk_42_method_149_code 45 = .ok (.invokestatic 47, 3) := by decide +kernel
theorem d_jdk_42_method_149_48 : decode jdk_42_method_149_code 48 = .ok (.putfield 15, 3) := by decide +kernel
theorem d_jdk_42_method_149_51 : decode jdk_42_method_149_code 51 = .ok (.aload_n 0, 1) := by decide +kernel
theorem d_jdk_42_method_149_52 : decode jdk_42_method_149_code 52 = .ok (.aload 5, 2) := by decide +kernel
theorem d_jdk_42_method_149_54 : decode jdk_42_method_149_code 54 = .ok (.putfield 9, 3) := by decide +kernel
theorem d_jdk_42_method_149_57 : decode jdk_42_method_149_code 57 = .ok (.return_, 1) := by decide +kernel
theorem ef_rmSd1 (m : MethodId) (x0 : Addr) (x1 : Addr) (x2 : Int32) (x3 : Int32) : entryFrame m #[(.ref x0), (.ref x1), (.int x2), (.int x3), .null] 6 = mkF m 0 #[.val (.ref x0), .val (.ref x1), .val (.int x2), .val (.int x3), .val .null, .unset] [] := by first | (simp [entryFrame, mkF, argsToLocals, Value.category]; done) | rfl
set_option maxRecDepth 65536 in
set_option maxHeartbeats 40000000 in
theorem rmSd1 (l : Launch) (Z : State) (a0 : Array Value) (hw : ∀ d ∈ tables_1, d.before a0 Z = true) (cs : Int32) (c0 : Int32) (a1 : Addr) (a2 : Addr) (h0 : Heap) (O0 : Ext Z.heap h0) (S_cs : Sta Z Z.heap "java/lang/String" "COMPACT_STRINGS" "Z" (.int cs)) (hcs : ¬ cs = 0) (S_ua : Sta Z Z.heap "java/lang/StringUTF16" "$assertionsDisabled" "Z" (.int (1 : Int32))) (S_uh : Sta Z Z.heap "java/lang/StringUTF16" "HI_BYTE_SHIFT" "I" (.int (0 : Int32))) (S_ul : Sta Z Z.heap "java/lang/StringUTF16" "LO_BYTE_SHIFT" "I" (.int (8 : Int32))) (E1 : Exa Z h0 a1 "java/lang/String") (F1 : Fld Z h0 a1 "java/lang/String" "value" "[B" .null) (F2 : Fld Z h0 a1 "java/lang/String" "coder" "B" (.int (0 : Int32))) (Y2 : Ary Z h0 a2 .char [(.int c0)]) (ne : a1 ≠ a2) (fr1 : Z.heap.size ≤ a1) (q0_0 : ¬ c0 < 0) (q1_0 : ¬ (65535 : Int32) < c0) :
    Ctr l Z (⟨"java/lang/String", "<init>", "([CIILjava/lang/Void;)V"⟩ : MethodName) jdk_42_method_149_code 6 none [] ({ frames := 4, cells := 2, slots := 3, locals := 57 } : Room) #[(.ref a1), (.ref a2), (.int (0 : Int32)), (.int (1 : Int32)), .null] h0 (fun v h L => v = none ∧ Fr Z.heap.size L ∧ Keep h0 h [a1] ∧ ∃ u, h0.size ≤ u ∧ Fld Z h a1 "java/lang/String" "value" "[B" (.ref u) ∧ ((Fld Z h a1 "java/lang/String" "coder" "B" (.int (0 : Int32)) ∧ (¬ (255 : Int32) < c0) ∧ Ary Z h u .byte [(.int (c0.toInt8.toInt32))]) ∨ (Fld Z h a1 "java/lang/String" "coder" "B" (.int (1 : Int32)) ∧ Ary Z h u .byte [(.int ((c0 >>> ((0 : Int32) &&& 31)).toInt8.toInt32)), (.int ((c0 >>> ((8 : Int32) &&& 31)).toInt8.toInt32))]))) := by
  refine ctr (plainFor_of_name pn_1) ?_
  intro p e s m below meth c s₁ hx hby hml hown hnm hret hlocks hZ X0 e0
  have N0 := Fr.nil Z.heap.size
  have hsz : ∀ {Ls : Array Slot}, Ls.size = 6 → Ls.size = c.maxLocals := fun q => q.trans hml.symm
  have K0 := Keep.refl h0 [a1]
  refine goE (ef_rmSd1 m (a1) (a2) ((0 : Int32)) ((1 : Int32))) ?_
  show Goes p e below _ (s₁.setTop (mkF m 0 #[.val (.ref a1), .val (.ref a2), .val (.int (0 : Int32)), .val (.int (1 : Int32)), .val .null, .unset] []))
  refine gAloadN X0 hx (hb hby d_jdk_42_method_149_0) rfl rfl ?_
  obtain ⟨Tt1, Xt1, et1, stt1⟩ := initO X0 hx hZ hown (hw _ (List.mem_of_getElem? (i := 19) rfl)) (hw _ (List.mem_of_getElem? (i := 20) rfl)) (hw _ (List.mem_of_getElem? (i := 21) rfl)) e0 (g := (mkF m 1 #[.val (.ref a1), .val (.ref a2), .val (.int (0 : Int32)), .val (.int (1 : Int32)), .val .null, .unset] [(.ref a1)])) rfl (by rw [hml]; rfl) rfl (hb hby d_jdk_42_method_149_1) (by decide) (W := 0) (Nat.le_of_eq rfl) (by decide)
  refine go stt1 ?_
  show Goes p e below _ (Tt1.setTop (mkF m 4 #[.val (.ref a1), .val (.ref a2), .val (.int (0 : Int32)), .val (.int (1 : Int32)), .val .null, .unset] []))
  refine gIloadN Xt1 hx (hb hby d_jdk_42_method_149_4) rfl ?_
  refine gIfY Xt1 hx (hb hby d_jdk_42_method_149_5) (pc' := 27) (XT.i0_ne_t (by decide)) (by decide) (by decide) ?_
  show Goes p e below _ (Tt1.setTop (mkF m 27 #[.val (.ref a1), .val (.ref a2), .val (.int (0 : Int32)), .val (.int (1 : Int32)), .val .null, .unset] []))
  obtain ⟨Tt2, Xt2, et2, stt2⟩ := getS2 Xt1 hx hZ hown (host := "") (Or.inl (hw _ (List.mem_of_getElem? (i := 39) rfl))) Via.refl et1 (S_cs.ext O0) (g := (mkF m 27 #[.val (.ref a1), .val (.ref a2), .val (.int (0 : Int32)), .val (.int (1 : Int32)), .val .null, .unset] [])) rfl (hb hby d_jdk_42_method_149_27)
  refine go stt2 ?_
  show Goes p e below _ (Tt2.setTop (mkF m 30 #[.val (.ref a1), .val (.ref a2), .val (.int (0 : Int32)), .val (.int (1 : Int32)), .val .null, .unset] [(.int cs)]))
  refine gIfN Xt2 hx (hb hby d_jdk_42_method_149_30) (XT.i0_eq_f hcs) ?_
  show Goes p e below _ (Tt2.setTop (mkF m 33 #[.val (.ref a1), .val (.ref a2), .val (.int (0 : Int32)), .val (.int (1 : Int32)), .val .null, .unset] []))
  refine gAloadN Xt2 hx (hb hby d_jdk_42_method_149_33) rfl rfl ?_
  refine gIloadN Xt2 hx (hb hby d_jdk_42_method_149_34) rfl ?_
  refine gIloadN Xt2 hx (hb hby d_jdk_42_method_149_35) rfl ?_
  have lt_a1_t3 := E1.lt
  have lt_a2_t3 := Y2.lt
  refine goCallS Xt2 hx hZ hown (hw _ (List.mem_of_getElem? (i := 40) rfl)) (hw _ (List.mem_of_getElem? (i := 41) rfl)) (hw _ (List.mem_of_getElem? (i := 42) rfl)) (hw _ (List.mem_of_getElem? (i := 43) rfl)) (by decide) (rmSb1 l Z a0 hw c0 a2 h0 O0 S_ua S_uh S_ul Y2 q0_0 q1_0) 0 (by decide) (by decide) et2 (hsz rfl) [(.ref a2), (.int (0 : Int32)), (.int (1 : Int32))] [] pd_11 rfl rfl rfl (Nat.le_of_eq rfl) (hb hby d_jdk_42_method_149_36) (by decide) (by decide) (fun Tt3 vt3 Lt3 Xt3 qt3 => ?_)
  obtain ⟨ht3, et3⟩ : ∃ z, Tt3.heap = z := ⟨_, rfl⟩
  rw [et3] at qt3
  obtain ⟨u, rfl, N4, Kct3, pu, alt⟩ := qt3
  have N5 := Fr.app N0 N4
  replace E1 := E1.keep Kct3
  replace F1 := F1.keep Kct3 nin0
  replace F2 := F2.keep Kct3 nin0
  replace Y2 := Y2.keep Kct3 nin0
  have O6 : Ext Z.heap ht3 := extK O0 Kct3 all0
  have K7 := K0.trans Kct3 all0
  have ne_a1_u : a1 ≠ u := Nat.ne_of_lt (Nat.lt_of_lt_of_le lt_a1_t3 pu)
  have ne_a2_u : a2 ≠ u := Nat.ne_of_lt (Nat.lt_of_lt_of_le lt_a2_t3 pu)
  have fr_u : Z.heap.size ≤ u := Nat.le_trans O0.1 pu
  have pa_u : h0.size ≤ u := Nat.le_trans K0.1 pu
  show Goes p e below _ (Tt3.setTop (mkF m 39 #[.val (.ref a1), .val (.ref a2), .val (.int (0 : Int32)), .val (.int (1 : Int32)), .val .null, .unset] [(.ref u)]))
  rcases alt with ⟨ok, Yu⟩ | Yu
  · refine gAstore Xt3 hx (hb hby d_jdk_42_method_149_39) rfl (l' := #[.val (.ref a1), .val (.ref a2), .val (.int (0 : Int32)), .val (.int (1 : Int32)), .val .null, .val (.ref u)]) rfl ?_
    refine gAloadN Xt3 hx (hb hby d_jdk_42_method_149_41) rfl rfl ?_
    refine gAload Xt3 hx (hb hby d_jdk_42_method_149_42) rfl rfl ?_
    refine gIloadN Xt3 hx (hb hby d_jdk_42_method_149_44) rfl ?_
    refine goCallS Xt3 hx hZ hown (hw _ (List.mem_of_getElem? (i := 47) rfl)) (hw _ (List.mem_of_getElem? (i := 48) rfl)) (hw _ (List.mem_of_getElem? (i := 42) rfl)) (hw _ (List.mem_of_getElem? (i := 49) rfl)) (by decide) (rmSc1 l Z a0 hw c0 u ht3 O6 Yu) 1 (by decide) (by decide) et3 (hsz rfl) [(.ref u), (.int (1 : Int32))] [(.ref a1)] pd_13 rfl rfl rfl (Nat.le_of_eq rfl) (hb hby d_jdk_42_method_149_45) (by decide) (by decide) (fun Tt8 vt8 Lt8 Xt8 qt8 => ?_)
    obtain ⟨rfl, N9, et8⟩ := qt8
    have N10 := Fr.app N5 N9
    show Goes p e below _ (Tt8.setTop (mkF m 48 #[.val (.ref a1), .val (.ref a2), .val (.int (0 : Int32)), .val (.int (1 : Int32)), .val .null, .val (.ref u)] [(.int (0 : Int32)), (.ref a1)]))
    obtain ⟨Tt11, ht11, Xt11, et11, Wt11, stt11⟩ := putF Xt8 hx hZ hown (host := "") (Or.inl (hw _ (List.mem_of_getElem? (i := 29) rfl))) Via.refl et8 F2 E1 (Or.inr ⟨(hw _ (List.mem_of_getElem? (i := 25) rfl)), rfl, hnm⟩) (hw _ (List.mem_of_getElem? (i := 9) rfl)) (ty := .byte) (by decide) rfl rfl (g := (mkF m 48 #[.val (.ref a1), .val (.ref a2), .val (.int (0 : Int32)), .val (.int (1 : Int32)), .val .null, .val (.ref u)] [(.int (0 : Int32)), (.ref a1)])) rfl rfl (hb hby d_jdk_42_method_149_48)
    refine go stt11 ?_
    have N12 := Fr.snoc Xt11 N10 fr1
    replace F2 := F2.same Wt11
    replace E1 := E1.wr Wt11
    replace F1 := F1.other Wt11 (Or.inr (slot_ne (Or.inr (hw _ (List.mem_of_getElem? (i := 24) rfl))) (Or.inr (hw _ (List.mem_of_getElem? (i := 25) rfl))) (by decide) (t := (.array .byte)) (by decide) (t' := .byte) (by decide)))
    replace Y2 := Y2.other Wt11 (Ne.symm ne)
    replace Yu := Yu.other Wt11 (Ne.symm ne_a1_u)
    have O13 : Ext Z.heap ht11 := extW O6 Wt11 fr1
    have K14 := K7.wr Wt11 (Or.inl (by simp))
    show Goes p e below _ (Tt11.setTop (mkF m 51 #[.val (.ref a1), .val (.ref a2), .val (.int (0 : Int32)), .val (.int (1 : Int32)), .val .null, .val (.ref u)] []))
    refine gAloadN Xt11 hx (hb hby d_jdk_42_method_149_51) rfl rfl ?_
    refine gAload Xt11 hx (hb hby d_jdk_42_method_149_52) rfl rfl ?_
    obtain ⟨Tt15, ht15, Xt15, et15, Wt15, stt15⟩ := putF Xt11 hx hZ hown (host := "") (Or.inl (hw _ (List.mem_of_getElem? (i := 28) rfl))) Via.refl et11 F1 E1 (Or.inr ⟨(hw _ (List.mem_of_getElem? (i := 24) rfl)), rfl, hnm⟩) (hw _ (List.mem_of_getElem? (i := 9) rfl)) (ty := (.array .byte)) (by decide) rfl rfl (g := (mkF m 54 #[.val (.ref a1), .val (.ref a2), .val (.int (0 : Int32)), .val (.int (1 : Int32)), .val .null, .val (.ref u)] [(.ref u), (.ref a1)])) rfl rfl (hb hby d_jdk_42_method_149_54)
    refine go stt15 ?_
    have N16 := Fr.snoc Xt15 N12 fr1
    replace F1 := F1.same Wt15
    replace E1 := E1.wr Wt15
    replace F2 := F2.other Wt15 (Or.inr (slot_ne (Or.inr (hw _ (List.mem_of_getElem? (i := 25) rfl))) (Or.inr (hw _ (List.mem_of_getElem? (i := 24) rfl))) (by decide) (t := .byte) (by decide) (t' := (.array .byte)) (by decide)))
    replace Y2 := Y2.other Wt15 (Ne.symm ne)
    replace Yu := Yu.other Wt15 (Ne.symm ne_a1_u)
    have O17 : Ext Z.heap ht15 := extW O13 Wt15 fr1
    have K18 := K14.wr Wt15 (Or.inl (by simp))
    show Goes p e below _ (Tt15.setTop (mkF m 57 #[.val (.ref a1), .val (.ref a2), .val (.int (0 : Int32)), .val (.int (1 : Int32)), .val .null, .val (.ref u)] []))
    exact goRet0 Xt15 hx hret hlocks (hb hby d_jdk_42_method_149_57) (by decide) (by decide) et15 (⟨rfl, N16, K18, u, pa_u, F1, Or.inl ⟨F2, ok, Yu⟩⟩)
  · refine gAstore Xt3 hx (hb hby d_jdk_42_method_149_39) rfl (l' := #[.val (.ref a1), .val (.ref a2), .val (.int (0 : Int32)), .val (.int (1 : Int32)), .val .null, .val (.ref u)]) rfl ?_
    refine gAloadN Xt3 hx (hb hby d_jdk_42_method_149_41) rfl rfl ?_
    refine gAload Xt3 hx (hb hby d_jdk_42_method_149_42) rfl rfl ?_
    refine gIloadN Xt3 hx (hb hby d_jdk_42_method_149_44) rfl ?_
    refine goCallS Xt3 hx hZ hown (hw _ (List.mem_of_getElem? (i := 47) rfl)) (hw _ (List.mem_of_getElem? (i := 48) rfl)) (hw _ (List.mem_of_getElem? (i := 42) rfl)) (hw _ (List.mem_of_getElem? (i := 49) rfl)) (by decide) (rmSe1 l Z a0 hw c0 u ht3 O6 Yu) 1 (by decide) (by decide) et3 (hsz rfl) [(.ref u), (.int (1 : Int32))] [(.ref a1)] pd_13 rfl rfl rfl (Nat.le_of_eq rfl) (hb hby d_jdk_42_method_149_45) (by decide) (by decide) (fun Tt19 vt19 Lt19 Xt19 qt19 => ?_)
    obtain ⟨rfl, N20, et19⟩ := qt19
    have N21 := Fr.app N5 N20
    show Goes p e below _ (Tt19.setTop (mkF m 48 #[.val (.ref a1), .val (.ref a2), .val (.int (0 : Int32)), .val (.int (1 : Int32)), .val .null, .val (.ref u)] [(.int (1 : Int32)), (.ref a1)]))
    obtain ⟨Tt22, ht22, Xt22, et22, Wt22, stt22⟩ := putF Xt19 hx hZ hown (host := "") (Or.inl (hw _ (List.mem_of_getElem? (i := 29) rfl))) Via.refl et19 F2 E1 (Or.inr ⟨(hw _ (List.mem_of_getElem? (i := 25) rfl)), rfl, hnm⟩) (hw _ (List.mem_of_getElem? (i := 9) rfl)) (ty := .byte) (by decide) rfl rfl (g := (mkF m 48 #[.val (.ref a1), .val (.ref a2), .val (.int (0 : Int32)), .val (.int (1 : Int32)), .val .null, .val (.ref u)] [(.int (1 : Int32)), (.ref a1)])) rfl rfl (hb hby d_jdk_42_method_149_48)
    refine go stt22 ?_
    have N23 := Fr.snoc Xt22 N21 fr1
    replace F2 := F2.same Wt22
    replace E1 := E1.wr Wt22
    replace F1 := F1.other Wt22 (Or.inr (slot_ne (Or.inr (hw _ (List.mem_of_getElem? (i := 24) rfl))) (Or.inr (hw _ (List.mem_of_getElem? (i := 25) rfl))) (by decide) (t := (.array .byte)) (by decide) (t' := .byte) (by decide)))
    replace Y2 := Y2.other Wt22 (Ne.symm ne)
    replace Yu := Yu.other Wt22 (Ne.symm ne_a1_u)
    have O24 : Ext Z.heap ht22 := extW O6 Wt22 fr1
    have K25 := K7.wr Wt22 (Or.inl (by simp))
    show Goes p e below _ (Tt22.setTop (mkF m 51 #[.val (.ref a1), .val (.ref a2), .val (.int (0 : Int32)), .val (.int (1 : Int32)), .val .null, .val (.ref u)] []))
    refine gAloadN Xt22 hx (hb hby d_jdk_42_method_149_51) rfl rfl ?_
    refine gAload Xt22 hx (hb hby d_jdk_42_method_149_52) rfl rfl ?_
    obtain ⟨Tt26, ht26, Xt26, et26, Wt26, stt26⟩ := putF Xt22 hx hZ hown (host := "") (Or.inl (hw _ (List.mem_of_getElem? (i := 28) rfl))) Via.refl et22 F1 E1 (Or.inr ⟨(hw _ (List.mem_of_getElem? (i := 24) rfl)), rfl, hnm⟩) (hw _ (List.mem_of_getElem? (i := 9) rfl)) (ty := (.array .byte)) (by decide) rfl rfl (g := (mkF m 54 #[.val (.ref a1), .val (.ref a2), .val (.int (0 : Int32)), .val (.int (1 : Int32)), .val .null, .val (.ref u)] [(.ref u), (.ref a1)])) rfl rfl (hb hby d_jdk_42_method_149_54)
    refine go stt26 ?_
    have N27 := Fr.snoc Xt26 N23 fr1
    replace F1 := F1.same Wt26
    replace E1 := E1.wr Wt26
    replace F2 := F2.other Wt26 (Or.inr (slot_ne (Or.inr (hw _ (List.mem_of_getElem? (i := 25) rfl))) (Or.inr (hw _ (List.mem_of_getElem? (i := 24) rfl))) (by decide) (t := .byte) (by decide) (t' := (.array .byte)) (by decide)))
    replace Y2 := Y2.other Wt26 (Ne.symm ne)
    replace Yu := Yu.other Wt26 (Ne.symm ne_a1_u)
    have O28 : Ext Z.heap ht26 := extW O24 Wt26 fr1
    have K29 := K25.wr Wt26 (Or.inl (by simp))
    show Goes p e below _ (Tt26.setTop (mkF m 57 #[.val (.ref a1), .val (.ref a2), .val (.int (0 : Int32)), .val (.int (1 : Int32)), .val .null, .val (.ref u)] []))
    exact goRet0 Xt26 hx hret hlocks (hb hby d_jdk_42_method_149_57) (by decide) (by decide) et26 (⟨rfl, N27, K29, u, pa_u, F1, Or.inr ⟨F2, Yu⟩⟩)
theorem d_jdk_42_method_3_0 : decode jdk_42_method_3_code 0 = .ok (.aload_n 0, 1) := by decide +kernel
theorem d_jdk_42_method_3_1 : decode jdk_42_method_3_code 1 = .ok (.aload_n 1, 1) := by decide +kernel
theorem d_jdk_42_method_3_2 : decode jdk_42_method_3_code 2 = .ok (.iconst 0, 1) := by decide +kernel
theorem d_jdk_42_method_3_3 : decode jdk_42_method_3_code 3 = .ok (.aload_n 1, 1) := by decide +kernel
theorem d_jdk_42_method_3_4 : decode jdk_42_method_3_code 4 = .ok (.arraylength, 1) := by decide +kernel
theorem d_jdk_42_method_3_5 : decode jdk_42_method_3_code 5 = .ok (.aconst_null, 1) := by decide +kernel
theorem pd_14 : parseMethodDescriptor "([CIILjava/lang/Void;)V" = some ⟨[(.array .char), .int, .int, (.object "java/lang/Void")], none⟩ := by decide +kernel
theorem d_jdk_42_method_3_6 : decode jdk_42_method_3_code 6 = .ok (.invokespecial 27, 3) := by decide +kernel
theorem d_jdk_42_method_3_9 : decode jdk_42_method_3_code 9 = .ok (.return_, 1) := by decide +kernel
theorem ef_rmS1 (m : MethodId) (x0 : Addr) (x1 : Addr) : entryFrame m #[(.ref x0), (.ref x1)] 2 = mkF m 0 #[.val (.ref x0), .val (.ref x1)] [] := by first | (simp [entryFrame, mkF, argsToLocals, Value.category]; done) | rfl
set_option maxRecDepth 65536 in
set_option maxHeartbeats 40000000 in
theorem rmS1 (l : Launch) (Z : State) (a0 : Array Value) (hw : ∀ d ∈ tables_1, d.before a0 Z = true) (cs : Int32) (c0 : Int32) (a1 : Addr) (a2 : Addr) (h0 : Heap) (O0 : Ext Z.heap h0) (S_cs : Sta Z Z.heap "java/lang/String" "COMPACT_STRINGS" "Z" (.int cs)) (hcs : ¬ cs = 0) (S_ua : Sta Z Z.heap "java/lang/StringUTF16" "$assertionsDisabled" "Z" (.int (1 : Int32))) (S_uh : Sta Z Z.heap "java/lang/StringUTF16" "HI_BYTE_SHIFT" "I" (.int (0 : Int32))) (S_ul : Sta Z Z.heap "java/lang/StringUTF16" "LO_BYTE_SHIFT" "I" (.int (8 : Int32))) (E1 : Exa Z h0 a1 "java/lang/String") (F1 : Fld Z h0 a1 "java/lang/String" "value" "[B" .null) (F2 : Fld Z h0 a1 "java/lang/String" "coder" "B" (.int (0 : Int32))) (Y2 : Ary Z h0 a2 .char [(.int c0)]) (ne : a1 ≠ a2) (fr1 : Z.heap.size ≤ a1) (q0_0 : ¬ c0 < 0) (q1_0 : ¬ (65535 : Int32) < c0) :
    Ctr l Z (⟨"java/lang/String", "<init>", "([C)V"⟩ : MethodName) jdk_42_method_3_code 2 none [] ({ frames := 5, cells := 2, slots := 3, locals := 74 } : Room) #[(.ref a1), (.ref a2)] h0 (fun v h L => v = none ∧ Fr Z.heap.size L ∧ Keep h0 h [a1] ∧ ∃ u, h0.size ≤ u ∧ Fld Z h a1 "java/lang/String" "value" "[B" (.ref u) ∧ ((Fld Z h a1 "java/lang/String" "coder" "B" (.int (0 : Int32)) ∧ (¬ (255 : Int32) < c0) ∧ Ary Z h u .byte [(.int (c0.toInt8.toInt32))]) ∨ (Fld Z h a1 "java/lang/String" "coder" "B" (.int (1 : Int32)) ∧ Ary Z h u .byte [(.int ((c0 >>> ((0 : Int32) &&& 31)).toInt8.toInt32)), (.int ((c0 >>> ((8 : Int32) &&& 31)).toInt8.toInt32))]))) := by
  refine ctr (plainFor_of_name pn_1) ?_
  intro p e s m below meth c s₁ hx hby hml hown hnm hret hlocks hZ X0 e0
  have N0 := Fr.nil Z.heap.size
  have hsz : ∀ {Ls : Array Slot}, Ls.size = 2 → Ls.size = c.maxLocals := fun q => q.trans hml.symm
  have K0 := Keep.refl h0 [a1]
  refine goE (ef_rmS1 m (a1) (a2)) ?_
  show Goes p e below _ (s₁.setTop (mkF m 0 #[.val (.ref a1), .val (.ref a2)] []))
  refine gAloadN X0 hx (hb hby d_jdk_42_method_3_0) rfl rfl ?_
  refine gAloadN X0 hx (hb hby d_jdk_42_method_3_1) rfl rfl ?_
  refine gIconst X0 hx (hb hby d_jdk_42_method_3_2) (v := (0 : Int32)) rfl ?_
  refine gAloadN X0 hx (hb hby d_jdk_42_method_3_3) rfl rfl ?_
  refine goAlen X0 hx hZ e0 Y2 (n := (1 : Int32)) (hb hby d_jdk_42_method_3_4) rfl ?_
  refine gAnull X0 hx (hb hby d_jdk_42_method_3_5) ?_
  have lt_a1_t1 := E1.lt
  have lt_a2_t1 := Y2.lt
  refine goCallI X0 hx hZ rfl hown (hw _ (List.mem_of_getElem? (i := 15) rfl)) (hw _ (List.mem_of_getElem? (i := 16) rfl)) (hw _ (List.mem_of_getElem? (i := 10) rfl)) (hw _ (List.mem_of_getElem? (i := 18) rfl)) (by decide) (rmSd1 l Z a0 hw cs c0 a1 a2 h0 O0 S_cs hcs S_ua S_uh S_ul E1 F1 F2 Y2 ne fr1 q0_0 q1_0) 0 (by decide) (by decide) e0 (hsz rfl) a1 [(.ref a2), (.int (0 : Int32)), (.int (1 : Int32)), .null] [] pd_14 rfl rfl rfl (Nat.le_of_eq rfl) (hb hby d_jdk_42_method_3_6) (by decide) (by decide) (fun Tt1 vt1 Lt1 Xt1 qt1 => ?_)
  obtain ⟨ht1, et1⟩ : ∃ z, Tt1.heap = z := ⟨_, rfl⟩
  rw [et1] at qt1
  obtain ⟨rfl, N2, Kct1, u, pu, Gv, Ga⟩ := qt1
  have N3 := Fr.app N0 N2
  replace E1 := E1.keep Kct1
  replace Y2 := Y2.keep Kct1 (ninS (Ne.symm ne) nin0)
  have O4 : Ext Z.heap ht1 := extK O0 Kct1 (allS fr1 all0)
  have K5 := K0.trans Kct1 (allS (Or.inl (by simp)) all0)
  have ne_a1_u : a1 ≠ u := Nat.ne_of_lt (Nat.lt_of_lt_of_le lt_a1_t1 pu)
  have ne_a2_u : a2 ≠ u := Nat.ne_of_lt (Nat.lt_of_lt_of_le lt_a2_t1 pu)
  have fr_u : Z.heap.size ≤ u := Nat.le_trans O0.1 pu
  have pa_u : h0.size ≤ u := Nat.le_trans K0.1 pu
  show Goes p e below _ (Tt1.setTop (mkF m 9 #[.val (.ref a1), .val (.ref a2)] []))
  exact goRet0 Xt1 hx hret hlocks (hb hby d_jdk_42_method_3_9) (by decide) (by decide) et1 (⟨rfl, N3, K5, u, pu, Gv, Ga⟩)
theorem d_method_4_0 : decode method_4_code 0 = .ok (.iload_n 0, 1) := by decide +kernel
theorem d_method_4_1 : decode method_4_code 1 = .ok (.ifCond .ne 14, 3) := by decide +kernel
theorem d_method_4_15 : decode method_4_code 15 = .ok (.iload_n 0, 1) := by decide +kernel
theorem d_method_4_16 : decode method_4_code 16 = .ok (.iconst 1, 1) := by decide +kernel
theorem d_method_4_17 : decode method_4_code 17 = .ok (.if_icmp .ne 18, 3) := by decide +kernel
theorem d_method_4_20 : decode method_4_code 20 = .ok (.new 9, 3) := by decide +kernel
theorem d_method_4_23 : decode method_4_code 23 = .ok (.dup, 1) := by decide +kernel
theorem d_method_4_24 : decode method_4_code 24 = .ok (.iconst 1, 1) := by decide +kernel
theorem d_method_4_25 : decode method_4_code 25 = .ok (.newarray .char, 2) := by decide +kernel
theorem d_method_4_27 : decode method_4_code 27 = .ok (.dup, 1) := by decide +kernel
theorem d_method_4_28 : decode method_4_code 28 = .ok (.iconst 0, 1) := by decide +kernel
theorem d_method_4_29 : decode method_4_code 29 = .ok (.iload_n 1, 1) := by decide +kernel
theorem d_method_4_30 : decode method_4_code 30 = .ok (.castore, 1) := by decide +kernel
theorem pd_15 : parseMethodDescriptor "([C)V" = some ⟨[(.array .char)], none⟩ := by decide +kernel
theorem d_method_4_31 : decode method_4_code 31 = .ok (.invokespecial 11, 3) := by decide +kernel
theorem d_method_4_34 : decode method_4_code 34 = .ok (.areturn, 1) := by decide +kernel
theorem pn_5 : plainName "com/example/rolegate/rolegate/HttpSyntaxIsTokenPinLaw" = true := by first | (simp [plainName, overriddenIn]; done) | decide +kernel
theorem ef_rmBd1 (m : MethodId) (x0 : Int32) (x1 : Int32) (x2 : Int32) (x3 : Int32) : entryFrame m #[(.int x0), (.int x1), (.int x2), (.int x3)] 4 = mkF m 0 #[.val (.int x0), .val (.int x1), .val (.int x2), .val (.int x3)] [] := by first | (simp [entryFrame, mkF, argsToLocals, Value.category]; done) | rfl
set_option maxRecDepth 65536 in
set_option maxHeartbeats 40000000 in
theorem rmBd1 (l : Launch) (Z : State) (a0 : Array Value) (hw : ∀ d ∈ tables_1, d.before a0 Z = true) (cs : Int32) (c0 : Int32) (c1 : Int32) (c2 : Int32) (h0 : Heap) (O0 : Ext Z.heap h0) (S_cs : Sta Z Z.heap "java/lang/String" "COMPACT_STRINGS" "Z" (.int cs)) (hcs : ¬ cs = 0) (S_ua : Sta Z Z.heap "java/lang/StringUTF16" "$assertionsDisabled" "Z" (.int (1 : Int32))) (S_uh : Sta Z Z.heap "java/lang/StringUTF16" "HI_BYTE_SHIFT" "I" (.int (0 : Int32))) (S_ul : Sta Z Z.heap "java/lang/StringUTF16" "LO_BYTE_SHIFT" "I" (.int (8 : Int32))) (nc0 : nar .char c0 = c0) (q0_0 : ¬ c0 < 0) (q1_0 : ¬ (65535 : Int32) < c0) :
    Ctr l Z (⟨"com/example/rolegate/rolegate/HttpSyntaxIsTokenPinLaw", "build", "(ICCC)Ljava/lang/String;"⟩ : MethodName) method_4_code 4 (some (.object "java/lang/String")) [] ({ frames := 6, cells := 4, slots := 8, locals := 88 } : Room) #[(.int (1 : Int32)), (.int c0), (.int c1), (.int c2)] h0 (fun v h L => ∃ b_, v = some (.ref b_) ∧ Fr Z.heap.size L ∧ Keep h0 h [] ∧ Exa Z h b_ "java/lang/String" ∧ ∃ u, Fld Z h b_ "java/lang/String" "value" "[B" (.ref u) ∧ ((Fld Z h b_ "java/lang/String" "coder" "B" (.int (0 : Int32)) ∧ (¬ (255 : Int32) < c0) ∧ Ary Z h u .byte [(.int (c0.toInt8.toInt32))]) ∨ (Fld Z h b_ "java/lang/String" "coder" "B" (.int (1 : Int32)) ∧ Ary Z h u .byte [(.int ((c0 >>> ((0 : Int32) &&& 31)).toInt8.toInt32)), (.int ((c0 >>> ((8 : Int32) &&& 31)).toInt8.toInt32))]))) := by
  refine ctr (plainFor_of_name pn_5) ?_
  intro p e s m below meth c s₁ hx hby hml hown hnm hret hlocks hZ X0 e0
  have N0 := Fr.nil Z.heap.size
  have hsz : ∀ {Ls : Array Slot}, Ls.size = 4 → Ls.size = c.maxLocals := fun q => q.trans hml.symm
  have K0 := Keep.refl h0 []
  refine goE (ef_rmBd1 m ((1 : Int32)) (c0) (c1) (c2)) ?_
  show Goes p e below _ (s₁.setTop (mkF m 0 #[.val (.int (1 : Int32)), .val (.int c0), .val (.int c1), .val (.int c2)] []))
  refine gIloadN X0 hx (hb hby d_method_4_0) rfl ?_
  refine gIfY X0 hx (hb hby d_method_4_1) (pc' := 15) (XT.i0_ne_t (by decide)) (by decide) (by decide) ?_
  show Goes p e below _ (s₁.setTop (mkF m 15 #[.val (.int (1 : Int32)), .val (.int c0), .val (.int c1), .val (.int c2)] []))
  refine gIloadN X0 hx (hb hby d_method_4_15) rfl ?_
  refine gIconst X0 hx (hb hby d_method_4_16) (v := (1 : Int32)) rfl ?_
  refine gIcmpN X0 hx (hb hby d_method_4_17) (XT.ii_ne_f rfl) ?_
  show Goes p e below _ (s₁.setTop (mkF m 20 #[.val (.int (1 : Int32)), .val (.int c0), .val (.int c1), .val (.int c2)] []))
  obtain ⟨Tt1, ht1, Xt1, et1, Et1, At1, Dt1, -, stt1⟩ := newO X0 hx hZ hown (hw _ (List.mem_of_getElem? (i := 8) rfl)) (hw _ (List.mem_of_getElem? (i := 9) rfl)) (hw _ (List.mem_of_getElem? (i := 10) rfl)) e0 (g := (mkF m 20 #[.val (.int (1 : Int32)), .val (.int c0), .val (.int c1), .val (.int c2)] [])) rfl (hb hby d_method_4_20) (by decide) (by decide)
  obtain ⟨ob2, gob2⟩ : ∃ z, z = h0.size := ⟨_, rfl⟩
  rw [← gob2] at At1 Dt1 stt1
  refine go stt1 ?_
  have fr_ob2 : Z.heap.size ≤ ob2 := gob2 ▸ O0.1
  have pa_ob2 : h0.size ≤ ob2 := gob2 ▸ K0.1
  have O3 : Ext Z.heap ht1 := extT O0 Et1
  have K4 := K0.ext Et1
  have F_value_ob2 : Fld Z ht1 ob2 "java/lang/String" "value" "[B" .null := Dt1 (Or.inr (hw _ (List.mem_of_getElem? (i := 24) rfl))) (ty := (.array .byte)) (by decide)
  have F_coder_ob2 : Fld Z ht1 ob2 "java/lang/String" "coder" "B" (.int (0 : Int32)) := Dt1 (Or.inr (hw _ (List.mem_of_getElem? (i := 25) rfl))) (ty := .byte) (by decide)
  show Goes p e below _ (Tt1.setTop (mkF m 23 #[.val (.int (1 : Int32)), .val (.int c0), .val (.int c1), .val (.int c2)] [(.ref ob2)]))
  refine gDup Xt1 hx (hb hby d_method_4_23) rfl ?_
  refine gIconst Xt1 hx (hb hby d_method_4_24) (v := (1 : Int32)) rfl ?_
  obtain ⟨Tt5, ht5, kt5, Xt5, et5, Et5, At5, stt5⟩ := newP Xt1 hx hZ (hw _ (List.mem_of_getElem? (i := 11) rfl)) et1 (g := (mkF m 25 #[.val (.int (1 : Int32)), .val (.int c0), .val (.int c1), .val (.int c2)] [(.int (1 : Int32)), (.ref ob2), (.ref ob2)])) rfl (hb hby d_method_4_25) rfl (by decide) (cap := 1) (by decide) (by decide) (by decide) (by decide)
  obtain ⟨ob6, gob6⟩ : ∃ z, z = ht1.size := ⟨_, rfl⟩
  rw [← gob6] at At5 stt5
  refine go stt5 ?_
  have ne_ob2_ob6 : ob2 ≠ ob6 := Nat.ne_of_lt (gob6 ▸ At1.lt)
  have fr_ob6 : Z.heap.size ≤ ob6 := gob6 ▸ O3.1
  have pa_ob6 : h0.size ≤ ob6 := gob6 ▸ K4.1
  replace At1 := At1.ext Et5
  replace F_value_ob2 := F_value_ob2.ext Et5
  replace F_coder_ob2 := F_coder_ob2.ext Et5
  have O7 : Ext Z.heap ht5 := extT O3 Et5
  have K8 := K4.ext Et5
  have Y_ob6 : Ary Z ht5 ob6 .char [(.int (0 : Int32))] := Ary.new At5 rfl (by decide)
  show Goes p e below _ (Tt5.setTop (mkF m 27 #[.val (.int (1 : Int32)), .val (.int c0), .val (.int c1), .val (.int c2)] [(.ref ob6), (.ref ob2), (.ref ob2)]))
  refine gDup Xt5 hx (hb hby d_method_4_27) rfl ?_
  refine gIconst Xt5 hx (hb hby d_method_4_28) (v := (0 : Int32)) rfl ?_
  refine gIloadN Xt5 hx (hb hby d_method_4_29) rfl ?_
  refine goCastore Xt5 hx hZ et5 Y_ob6 (hb hby d_method_4_30) (by decide) rfl (fun Tt9 ht9 Xt9 et9 Wt9 => ?_)
  have N10 := Fr.snoc Xt9 N0 fr_ob6
  replace Y_ob6 : Ary Z ht9 ob6 .char [(.int c0)] := Y_ob6.set Wt9 (by rw [nc0]; rfl)
  replace At1 := At1.wr Wt9
  replace F_value_ob2 := F_value_ob2.other Wt9 (Or.inl ne_ob2_ob6)
  replace F_coder_ob2 := F_coder_ob2.other Wt9 (Or.inl ne_ob2_ob6)
  have O11 : Ext Z.heap ht9 := extW O7 Wt9 fr_ob6
  have K12 := K8.wr Wt9 (Or.inr pa_ob6)
  show Goes p e below _ (Tt9.setTop (mkF m 31 #[.val (.int (1 : Int32)), .val (.int c0), .val (.int c1), .val (.int c2)] [(.ref ob6), (.ref ob2), (.ref ob2)]))
  refine goCallI Xt9 hx hZ rfl hown (hw _ (List.mem_of_getElem? (i := 12) rfl)) (hw _ (List.mem_of_getElem? (i := 13) rfl)) (hw _ (List.mem_of_getElem? (i := 10) rfl)) (hw _ (List.mem_of_getElem? (i := 14) rfl)) (by decide) (rmS1 l Z a0 hw cs c0 ob2 ob6 ht9 O11 S_cs hcs S_ua S_uh S_ul At1 F_value_ob2 F_coder_ob2 Y_ob6 ne_ob2_ob6 fr_ob2 q0_0 q1_0) 1 (by decide) (by decide) et9 (hsz rfl) ob2 [(.ref ob6)] [(.ref ob2)] pd_15 rfl rfl rfl (Nat.le_of_eq rfl) (hb hby d_method_4_31) (by decide) (by decide) (fun Tt13 vt13 Lt13 Xt13 qt13 => ?_)
  obtain ⟨ht13, et13⟩ : ∃ z, Tt13.heap = z := ⟨_, rfl⟩
  rw [et13] at qt13
  obtain ⟨rfl, N14, Kct13, u, pu, Gv, Ga⟩ := qt13
  have N15 := Fr.app N10 N14
  replace At1 := At1.keep Kct13
  replace Y_ob6 := Y_ob6.keep Kct13 (ninS (Ne.symm ne_ob2_ob6) nin0)
  have O16 : Ext Z.heap ht13 := extK O11 Kct13 (allS fr_ob2 all0)
  have K17 := K12.trans Kct13 (allS (Or.inr pa_ob2) all0)
  show Goes p e below _ (Tt13.setTop (mkF m 34 #[.val (.int (1 : Int32)), .val (.int c0), .val (.int c1), .val (.int c2)] [(.ref ob2)]))
  exact goRetA Xt13 hx hret hlocks rfl rfl (hb hby d_method_4_34) (by decide) (by decide) et13 (⟨ob2, rfl, N15, K17, At1, u, Gv, Ga⟩)
theorem d_jdk_42_method_55_0 : decode jdk_42_method_55_code 0 = .ok (.aload_n 0, 1) := by decide +kernel
theorem d_jdk_42_method_55_1 : decode jdk_42_method_55_code 1 = .ok (.getfield 9, 3) := by decide +kernel
theorem d_jdk_42_method_55_4 : decode jdk_42_method_55_code 4 = .ok (.arraylength, 1) := by decide +kernel
theorem d_jdk_42_method_55_5 : decode jdk_42_method_55_code 5 = .ok (.ifCond .ne 7, 3) := by decide +kernel
theorem d_jdk_42_method_55_12 : decode jdk_42_method_55_code 12 = .ok (.iconst 0, 1) := by decide +kernel
theorem d_jdk_42_method_55_13 : decode jdk_42_method_55_code 13 = .ok (.ireturn, 1) := by decide +kernel
theorem ef_rmXe10 (m : MethodId) (x0 : Addr) : entryFrame m #[(.ref x0)] 1 = mkF m 0 #[.val (.ref x0)] [] := by first | (simp [entryFrame, mkF, argsToLocals, Value.category]; done) | rfl
set_option maxRecDepth 65536 in
set_option maxHeartbeats 40000000 in
theorem rmXe10 (l : Launch) (Z : State) (a0 : Array Value) (hw : ∀ d ∈ tables_1, d.before a0 Z = true) (u : Addr) (cs : Int32) (c0 : Int32) (a1 : Addr) (h0 : Heap) (O0 : Ext Z.heap h0) (S_cs : Sta Z Z.heap "java/lang/String" "COMPACT_STRINGS" "Z" (.int cs)) (hcs : ¬ cs = 0) (E1 : Exa Z h0 a1 "java/lang/String") (V1 : Fld Z h0 a1 "java/lang/String" "value" "[B" (.ref u)) (C1 : Fld Z h0 a1 "java/lang/String" "coder" "B" (.int (0 : Int32))) (Y1 : Ary Z h0 u .byte [(.int (c0.toInt8.toInt32))]) :
    Ctr l Z (⟨"java/lang/String", "isEmpty", "()Z"⟩ : MethodName) jdk_42_method_55_code 1 (some .boolean) [] ({ frames := 0, cells := 0, slots := 0, locals := 0 } : Room) #[(.ref a1)] h0 (fun v h L => v = some (.int 0) ∧ Fr Z.heap.size L ∧ h = h0) := by
  refine ctr (plainFor_of_name pn_1) ?_
  intro p e s m below meth c s₁ hx hby hml hown hnm hret hlocks hZ X0 e0
  have N0 := Fr.nil Z.heap.size
  have hsz : ∀ {Ls : Array Slot}, Ls.size = 1 → Ls.size = c.maxLocals := fun q => q.trans hml.symm
  refine goE (ef_rmXe10 m (a1)) ?_
  show Goes p e below _ (s₁.setTop (mkF m 0 #[.val (.ref a1)] []))
  refine gAloadN X0 hx (hb hby d_jdk_42_method_55_0) rfl rfl ?_
  obtain ⟨Tt1, Xt1, et1, stt1⟩ := getF X0 hx hZ hown (host := "") (Or.inl (hw _ (List.mem_of_getElem? (i := 28) rfl))) Via.refl e0 V1 (g := (mkF m 1 #[.val (.ref a1)] [(.ref a1)])) rfl rfl (hb hby d_jdk_42_method_55_1)
  refine go stt1 ?_
  show Goes p e below _ (Tt1.setTop (mkF m 4 #[.val (.ref a1)] [(.ref u)]))
  refine goAlen Xt1 hx hZ et1 Y1 (n := (1 : Int32)) (hb hby d_jdk_42_method_55_4) rfl ?_
  refine gIfY Xt1 hx (hb hby d_jdk_42_method_55_5) (pc' := 12) (XT.i0_ne_t (by decide)) (by decide) (by decide) ?_
  show Goes p e below _ (Tt1.setTop (mkF m 12 #[.val (.ref a1)] []))
  refine gIconst Xt1 hx (hb hby d_jdk_42_method_55_12) (v := (0 : Int32)) rfl ?_
  exact goRetN Xt1 hx (t := .boolean) hret hlocks (by simp) (hb hby d_jdk_42_method_55_13) (z' := (0 : Int32)) rfl (by decide) (by decide) et1 (⟨rfl, N0, rfl⟩)
theorem ef_rmXc10 (m : MethodId) (x0 : Addr) : entryFrame m #[(.ref x0)] 1 = mkF m 0 #[.val (.ref x0)] [] := by first | (simp [entryFrame, mkF, argsToLocals, Value.category]; done) | rfl
set_option maxRecDepth 65536 in
set_option maxHeartbeats 40000000 in
theorem rmXc10 (l : Launch) (Z : State) (a0 : Array Value) (hw : ∀ d ∈ tables_1, d.before a0 Z = true) (u : Addr) (cs : Int32) (c0 : Int32) (a1 : Addr) (h0 : Heap) (O0 : Ext Z.heap h0) (S_cs : Sta Z Z.heap "java/lang/String" "COMPACT_STRINGS" "Z" (.int cs)) (hcs : ¬ cs = 0) (E1 : Exa Z h0 a1 "java/lang/String") (V1 : Fld Z h0 a1 "java/lang/String" "value" "[B" (.ref u)) (C1 : Fld Z h0 a1 "java/lang/String" "coder" "B" (.int (0 : Int32))) (Y1 : Ary Z h0 u .byte [(.int (c0.toInt8.toInt32))]) :
    Ctr l Z (⟨"java/lang/String", "coder", "()B"⟩ : MethodName) jdk_42_method_152_code 1 (some .byte) [] ({ frames := 0, cells := 0, slots := 0, locals := 0 } : Room) #[(.ref a1)] h0 (fun v h L => v = some (.int (0 : Int32)) ∧ Fr Z.heap.size L ∧ h = h0) := by
  refine ctr (plainFor_of_name pn_1) ?_
  intro p e s m below meth c s₁ hx hby hml hown hnm hret hlocks hZ X0 e0
  have N0 := Fr.nil Z.heap.size
  have hsz : ∀ {Ls : Array Slot}, Ls.size = 1 → Ls.size = c.maxLocals := fun q => q.trans hml.symm
  refine goE (ef_rmXc10 m (a1)) ?_
  show Goes p e below _ (s₁.setTop (mkF m 0 #[.val (.ref a1)] []))
  obtain ⟨Tt1, Xt1, et1, stt1⟩ := getS2 X0 hx hZ hown (host := "") (Or.inl (hw _ (List.mem_of_getElem? (i := 39) rfl))) Via.refl e0 (S_cs.ext O0) (g := (mkF m 0 #[.val (.ref a1)] [])) rfl (hb hby d_jdk_42_method_152_0)
  refine go stt1 ?_
  show Goes p e below _ (Tt1.setTop (mkF m 3 #[.val (.ref a1)] [(.int cs)]))
  refine gIfN Xt1 hx (hb hby d_jdk_42_method_152_3) (XT.i0_eq_f hcs) ?_
  show Goes p e below _ (Tt1.setTop (mkF m 6 #[.val (.ref a1)] []))
  refine gAloadN Xt1 hx (hb hby d_jdk_42_method_152_6) rfl rfl ?_
  obtain ⟨Tt2, Xt2, et2, stt2⟩ := getF Xt1 hx hZ hown (host := "") (Or.inl (hw _ (List.mem_of_getElem? (i := 29) rfl))) Via.refl et1 C1 (g := (mkF m 7 #[.val (.ref a1)] [(.ref a1)])) rfl rfl (hb hby d_jdk_42_method_152_7)
  refine go stt2 ?_
  show Goes p e below _ (Tt2.setTop (mkF m 10 #[.val (.ref a1)] [(.int (0 : Int32))]))
  refine gGoto Xt2 hx (hb hby d_jdk_42_method_152_10) (pc' := 14) (by decide) (by decide) ?_
  show Goes p e below _ (Tt2.setTop (mkF m 14 #[.val (.ref a1)] [(.int (0 : Int32))]))
  exact goRetN Xt2 hx (t := .byte) hret hlocks (by simp) (hb hby d_jdk_42_method_152_14) (z' := (0 : Int32)) rfl (by decide) (by decide) et2 (⟨rfl, N0, rfl⟩)
theorem ef_rmXl10 (m : MethodId) (x0 : Addr) : entryFrame m #[(.ref x0)] 1 = mkF m 0 #[.val (.ref x0)] [] := by first | (simp [entryFrame, mkF, argsToLocals, Value.category]; done) | rfl
set_option maxRecDepth 65536 in
set_option maxHeartbeats 40000000 in
theorem rmXl10 (l : Launch) (Z : State) (a0 : Array Value) (hw : ∀ d ∈ tables_1, d.before a0 Z = true) (u : Addr) (cs : Int32) (c0 : Int32) (a1 : Addr) (h0 : Heap) (O0 : Ext Z.heap h0) (S_cs : Sta Z Z.heap "java/lang/String" "COMPACT_STRINGS" "Z" (.int cs)) (hcs : ¬ cs = 0) (E1 : Exa Z h0 a1 "java/lang/String") (V1 : Fld Z h0 a1 "java/lang/String" "value" "[B" (.ref u)) (C1 : Fld Z h0 a1 "java/lang/String" "coder" "B" (.int (0 : Int32))) (Y1 : Ary Z h0 u .byte [(.int (c0.toInt8.toInt32))]) :
    Ctr l Z (⟨"java/lang/String", "length", "()I"⟩ : MethodName) jdk_42_method_54_code 1 (some .int) [] ({ frames := 1, cells := 0, slots := 0, locals := 13 } : Room) #[(.ref a1)] h0 (fun v h L => v = some (.int (1 : Int32)) ∧ Fr Z.heap.size L ∧ h = h0) := by
  refine ctr (plainFor_of_name pn_1) ?_
  intro p e s m below meth c s₁ hx hby hml hown hnm hret hlocks hZ X0 e0
  have N0 := Fr.nil Z.heap.size
  have hsz : ∀ {Ls : Array Slot}, Ls.size = 1 → Ls.size = c.maxLocals := fun q => q.trans hml.symm
  refine goE (ef_rmXl10 m (a1)) ?_
  show Goes p e below _ (s₁.setTop (mkF m 0 #[.val (.ref a1)] []))
  refine gAloadN X0 hx (hb hby d_jdk_42_method_54_0) rfl rfl ?_
  obtain ⟨Tt1, Xt1, et1, stt1⟩ := getF X0 hx hZ hown (host := "") (Or.inl (hw _ (List.mem_of_getElem? (i := 28) rfl))) Via.refl e0 V1 (g := (mkF m 1 #[.val (.ref a1)] [(.ref a1)])) rfl rfl (hb hby d_jdk_42_method_54_1)
  refine go stt1 ?_
  show Goes p e below _ (Tt1.setTop (mkF m 4 #[.val (.ref a1)] [(.ref u)]))
  refine goAlen Xt1 hx hZ et1 Y1 (n := (1 : Int32)) (hb hby d_jdk_42_method_54_4) rfl ?_
  refine gAloadN Xt1 hx (hb hby d_jdk_42_method_54_5) rfl rfl ?_
  refine goCallV Xt1 hx hZ hown (hw _ (List.mem_of_getElem? (i := 58) rfl)) (hw _ (List.mem_of_getElem? (i := 59) rfl)) (hw _ (List.mem_of_getElem? (i := 61) rfl)) (hw _ (List.mem_of_getElem? (i := 60) rfl)) (hw _ (List.mem_of_getElem? (i := 10) rfl)) (hw _ (List.mem_of_getElem? (i := 62) rfl)) (by decide) (rmXc10 l Z a0 hw u cs c0 a1 h0 O0 S_cs hcs E1 V1 C1 Y1) 1 (by decide) (by decide) et1 E1 (hsz rfl) [] [(.int (1 : Int32))] pd_3 rfl rfl rfl (Nat.le_of_eq rfl) (hb hby d_jdk_42_method_54_6) (by decide) (by decide) (fun Tt2 vt2 Lt2 Xt2 qt2 => ?_)
  obtain ⟨rfl, N3, et2⟩ := qt2
  have N4 := Fr.app N0 N3
  show Goes p e below _ (Tt2.setTop (mkF m 9 #[.val (.ref a1)] [(.int (0 : Int32)), (.int (1 : Int32))]))
  refine gIshr Xt2 hx (hb hby d_jdk_42_method_54_9) ?_
  exact goRetI Xt2 hx hret hlocks (hb hby d_jdk_42_method_54_10) (by decide) (by decide) et2 (⟨congrArg (fun z => some (Value.int z)) (by decide), N4, rfl⟩)
theorem ef_rmXi10 (m : MethodId) (x0 : Addr) : entryFrame m #[(.ref x0)] 1 = mkF m 0 #[.val (.ref x0)] [] := by first | (simp [entryFrame, mkF, argsToLocals, Value.category]; done) | rfl
set_option maxRecDepth 65536 in
set_option maxHeartbeats 40000000 in
theorem rmXi10 (l : Launch) (Z : State) (a0 : Array Value) (hw : ∀ d ∈ tables_1, d.before a0 Z = true) (u : Addr) (cs : Int32) (c0 : Int32) (a1 : Addr) (h0 : Heap) (O0 : Ext Z.heap h0) (S_cs : Sta Z Z.heap "java/lang/String" "COMPACT_STRINGS" "Z" (.int cs)) (hcs : ¬ cs = 0) (E1 : Exa Z h0 a1 "java/lang/String") (V1 : Fld Z h0 a1 "java/lang/String" "value" "[B" (.ref u)) (C1 : Fld Z h0 a1 "java/lang/String" "coder" "B" (.int (0 : Int32))) (Y1 : Ary Z h0 u .byte [(.int (c0.toInt8.toInt32))]) :
    Ctr l Z (⟨"java/lang/String", "isLatin1", "()Z"⟩ : MethodName) jdk_42_method_154_code 1 (some .boolean) [] ({ frames := 0, cells := 0, slots := 0, locals := 0 } : Room) #[(.ref a1)] h0 (fun v h L => v = some (.int (1 : Int32)) ∧ Fr Z.heap.size L ∧ h = h0) := by
  refine ctr (plainFor_of_name pn_1) ?_
  intro p e s m below meth c s₁ hx hby hml hown hnm hret hlocks hZ X0 e0
  have N0 := Fr.nil Z.heap.size
  have hsz : ∀ {Ls : Array Slot}, Ls.size = 1 → Ls.size = c.maxLocals := fun q => q.trans hml.symm
  refine goE (ef_rmXi10 m (a1)) ?_
  show Goes p e below _ (s₁.setTop (mkF m 0 #[.val (.ref a1)] []))
  obtain ⟨Tt1, Xt1, et1, stt1⟩ := getS2 X0 hx hZ hown (host := "") (Or.inl (hw _ (List.mem_of_getElem? (i := 39) rfl))) Via.refl e0 (S_cs.ext O0) (g := (mkF m 0 #[.val (.ref a1)] [])) rfl (hb hby d_jdk_42_method_154_0)
  refine go stt1 ?_
  show Goes p e below _ (Tt1.setTop (mkF m 3 #[.val (.ref a1)] [(.int cs)]))
  refine gIfN Xt1 hx (hb hby d_jdk_42_method_154_3) (XT.i0_eq_f hcs) ?_
  show Goes p e below _ (Tt1.setTop (mkF m 6 #[.val (.ref a1)] []))
  refine gAloadN Xt1 hx (hb hby d_jdk_42_method_154_6) rfl rfl ?_
  obtain ⟨Tt2, Xt2, et2, stt2⟩ := getF Xt1 hx hZ hown (host := "") (Or.inl (hw _ (List.mem_of_getElem? (i := 29) rfl))) Via.refl et1 C1 (g := (mkF m 7 #[.val (.ref a1)] [(.ref a1)])) rfl rfl (hb hby d_jdk_42_method_154_7)
  refine go stt2 ?_
  show Goes p e below _ (Tt2.setTop (mkF m 10 #[.val (.ref a1)] [(.int (0 : Int32))]))
  refine gIfN Xt2 hx (hb hby d_jdk_42_method_154_10) (XT.i0_ne_f (by decide)) ?_
  show Goes p e below _ (Tt2.setTop (mkF m 13 #[.val (.ref a1)] []))
  refine gIconst Xt2 hx (hb hby d_jdk_42_method_154_13) (v := (1 : Int32)) rfl ?_
  refine gGoto Xt2 hx (hb hby d_jdk_42_method_154_14) (pc' := 18) (by decide) (by decide) ?_
  show Goes p e below _ (Tt2.setTop (mkF m 18 #[.val (.ref a1)] [(.int (1 : Int32))]))
  exact goRetN Xt2 hx (t := .boolean) hret hlocks (by simp) (hb hby d_jdk_42_method_154_18) (z' := (1 : Int32)) rfl (by decide) (by decide) et2 (⟨rfl, N0, rfl⟩)
theorem d_jdk_43_method_2_0 : decode jdk_43_method_2_code 0 = .ok (.iload_n 1, 1) := by decide +kernel
theorem d_jdk_43_method_2_1 : decode jdk_43_method_2_code 1 = .ok (.aload_n 0, 1) := by decide +kernel
theorem d_jdk_43_method_2_2 : decode jdk_43_method_2_code 2 = .ok (.arraylength, 1) := by decide +kernel
theorem pd_16 : parseMethodDescriptor "(II)V" = some ⟨[.int, .int], none⟩ := by decide +kernel
theorem d_jdk_43_method_2_3 : decode jdk_43_method_2_code 3 = .ok (.invokestatic 9, 3) := by decide +kernel
theorem d_jdk_43_method_2_6 : decode jdk_43_method_2_code 6 = .ok (.aload_n 0, 1) := by decide +kernel
theorem d_jdk_43_method_2_7 : decode jdk_43_method_2_code 7 = .ok (.iload_n 1, 1) := by decide +kernel
theorem d_jdk_43_method_2_8 : decode jdk_43_method_2_code 8 = .ok (.baload, 1) := by decide +kernel
theorem d_jdk_43_method_2_9 : decode jdk_43_method_2_code 9 = .ok (.sipush 255, 3) := by decide +kernel
theorem d_jdk_43_method_2_12 : decode jdk_43_method_2_code 12 = .ok (.iand, 1) := by decide +kernel
theorem d_jdk_43_method_2_13 : decode jdk_43_method_2_code 13 = .ok (.i2c, 1) := by decide +kernel
theorem d_jdk_43_method_2_14 : decode jdk_43_method_2_code 14 = .ok (.ireturn, 1) := by decide +kernel
theorem ef_rmLc10 (m : MethodId) (x0 : Addr) (x1 : Int32) : entryFrame m #[(.ref x0), (.int x1)] 2 = mkF m 0 #[.val (.ref x0), .val (.int x1)] [] := by first | (simp [entryFrame, mkF, argsToLocals, Value.category]; done) | rfl
set_option maxRecDepth 65536 in
set_option maxHeartbeats 40000000 in
theorem rmLc10 (l : Launch) (Z : State) (a0 : Array Value) (hw : ∀ d ∈ tables_1, d.before a0 Z = true) (fm : Value) (c0 : Int32) (u : Addr) (h0 : Heap) (O0 : Ext Z.heap h0) (S_fm : Sta Z Z.heap "jdk/internal/util/Preconditions" "SIOOBE_FORMATTER" "Ljava/util/function/BiFunction;" fm) (rf : fm.isRef = true) (Y1 : Ary Z h0 u .byte [(.int (c0.toInt8.toInt32))]) (g0 : ¬ c0 < 0) (g1 : ¬ (255 : Int32) < c0) :
    Ctr l Z (⟨"java/lang/StringLatin1", "charAt", "([BI)C"⟩ : MethodName) jdk_43_method_2_code 2 (some .char) [] ({ frames := 2, cells := 0, slots := 0, locals := 27 } : Room) #[(.ref u), (.int (0 : Int32))] h0 (fun v h L => v = some (.int c0) ∧ Fr Z.heap.size L ∧ h = h0) := by
  refine ctr (plainFor_of_name pn_0) ?_
  intro p e s m below meth c s₁ hx hby hml hown hnm hret hlocks hZ X0 e0
  have N0 := Fr.nil Z.heap.size
  have hsz : ∀ {Ls : Array Slot}, Ls.size = 2 → Ls.size = c.maxLocals := fun q => q.trans hml.symm
  refine goE (ef_rmLc10 m (u) ((0 : Int32))) ?_
  show Goes p e below _ (s₁.setTop (mkF m 0 #[.val (.ref u), .val (.int (0 : Int32))] []))
  refine gIloadN X0 hx (hb hby d_jdk_43_method_2_0) rfl ?_
  refine gAloadN X0 hx (hb hby d_jdk_43_method_2_1) rfl rfl ?_
  refine goAlen X0 hx hZ e0 Y1 (n := (1 : Int32)) (hb hby d_jdk_43_method_2_2) rfl ?_
  refine goCallS X0 hx hZ hown (hw _ (List.mem_of_getElem? (i := 77) rfl)) (hw _ (List.mem_of_getElem? (i := 78) rfl)) (hw _ (List.mem_of_getElem? (i := 10) rfl)) (hw _ (List.mem_of_getElem? (i := 79) rfl)) (by decide) (rmCk l Z a0 hw fm (0 : Int32) (1 : Int32) h0 O0 S_fm rf (by decide) (by decide)) 0 (by decide) (by decide) e0 (hsz rfl) [(.int (0 : Int32)), (.int (1 : Int32))] [] pd_16 rfl rfl rfl (Nat.le_of_eq rfl) (hb hby d_jdk_43_method_2_3) (by decide) (by decide) (fun Tt1 vt1 Lt1 Xt1 qt1 => ?_)
  obtain ⟨rfl, N2, et1⟩ := qt1
  have N3 := Fr.app N0 N2
  show Goes p e below _ (Tt1.setTop (mkF m 6 #[.val (.ref u), .val (.int (0 : Int32))] []))
  refine gAloadN Xt1 hx (hb hby d_jdk_43_method_2_6) rfl rfl ?_
  refine gIloadN Xt1 hx (hb hby d_jdk_43_method_2_7) rfl ?_
  refine goBaload Xt1 hx hZ et1 Y1 (x := (c0.toInt8.toInt32)) (hb hby d_jdk_43_method_2_8) (by decide) rfl ?_
  refine gSipush Xt1 hx (hb hby d_jdk_43_method_2_9) (v := (255 : Int32)) rfl ?_
  refine gIand Xt1 hx (hb hby d_jdk_43_method_2_12) ?_
  refine gI2c Xt1 hx (hb hby d_jdk_43_method_2_13) ?_
  exact goRetN Xt1 hx (t := .char) hret hlocks (by simp) (hb hby d_jdk_43_method_2_14) (z' := c0) ((narc _).trans (own_lc g0 g1)) (by decide) (by decide) et1 (⟨rfl, N3, rfl⟩)
theorem d_jdk_42_method_56_0 : decode jdk_42_method_56_code 0 = .ok (.aload_n 0, 1) := by decide +kernel
theorem d_jdk_42_method_56_1 : decode jdk_42_method_56_code 1 = .ok (.invokevirtual 492, 3) := by decide +kernel
theorem d_jdk_42_method_56_4 : decode jdk_42_method_56_code 4 = .ok (.ifCond .eq 12, 3) := by decide +kernel
theorem d_jdk_42_method_56_7 : decode jdk_42_method_56_code 7 = .ok (.aload_n 0, 1) := by decide +kernel
theorem d_jdk_42_method_56_8 : decode jdk_42_method_56_code 8 = .ok (.getfield 9, 3) := by decide +kernel
theorem d_jdk_42_method_56_11 : decode jdk_42_method_56_code 11 = .ok (.iload_n 1, 1) := by decide +kernel
theorem d_jdk_42_method_56_12 : decode jdk_42_method_56_code 12 = .ok (.invokestatic 495, 3) := by decide +kernel
theorem d_jdk_42_method_56_15 : decode jdk_42_method_56_code 15 = .ok (.ireturn, 1) := by decide +kernel
theorem ef_rmXa100 (m : MethodId) (x0 : Addr) (x1 : Int32) : entryFrame m #[(.ref x0), (.int x1)] 2 = mkF m 0 #[.val (.ref x0), .val (.int x1)] [] := by first | (simp [entryFrame, mkF, argsToLocals, Value.category]; done) | rfl
set_option maxRecDepth 65536 in
set_option maxHeartbeats 40000000 in
theorem rmXa100 (l : Launch) (Z : State) (a0 : Array Value) (hw : ∀ d ∈ tables_1, d.before a0 Z = true) (fm : Value) (u : Addr) (cs : Int32) (c0 : Int32) (a1 : Addr) (h0 : Heap) (O0 : Ext Z.heap h0) (S_cs : Sta Z Z.heap "java/lang/String" "COMPACT_STRINGS" "Z" (.int cs)) (hcs : ¬ cs = 0) (E1 : Exa Z h0 a1 "java/lang/String") (V1 : Fld Z h0 a1 "java/lang/String" "value" "[B" (.ref u)) (C1 : Fld Z h0 a1 "java/lang/String" "coder" "B" (.int (0 : Int32))) (Y1 : Ary Z h0 u .byte [(.int (c0.toInt8.toInt32))]) (S_fm : Sta Z Z.heap "jdk/internal/util/Preconditions" "SIOOBE_FORMATTER" "Ljava/util/function/BiFunction;" fm) (rf : fm.isRef = true) (g0 : ¬ c0 < 0) (g1 : ¬ (255 : Int32) < c0) (nc : nar .char c0 = c0) :
    Ctr l Z (⟨"java/lang/String", "charAt", "(I)C"⟩ : MethodName) jdk_42_method_56_code 2 (some .char) [] ({ frames := 4, cells := 0, slots := 0, locals := 53 } : Room) #[(.ref a1), (.int (0 : Int32))] h0 (fun v h L => v = some (.int c0) ∧ Fr Z.heap.size L ∧ h = h0) := by
  refine ctr (plainFor_of_name pn_1) ?_
  intro p e s m below meth c s₁ hx hby hml hown hnm hret hlocks hZ X0 e0
  have N0 := Fr.nil Z.heap.size
  have hsz : ∀ {Ls : Array Slot}, Ls.size = 2 → Ls.size = c.maxLocals := fun q => q.trans hml.symm
  refine goE (ef_rmXa100 m (a1) ((0 : Int32))) ?_
  show Goes p e below _ (s₁.setTop (mkF m 0 #[.val (.ref a1), .val (.int (0 : Int32))] []))
  refine gAloadN X0 hx (hb hby d_jdk_42_method_56_0) rfl rfl ?_
  refine goCallV X0 hx hZ hown (hw _ (List.mem_of_getElem? (i := 68) rfl)) (hw _ (List.mem_of_getElem? (i := 69) rfl)) (hw _ (List.mem_of_getElem? (i := 71) rfl)) (hw _ (List.mem_of_getElem? (i := 70) rfl)) (hw _ (List.mem_of_getElem? (i := 10) rfl)) (hw _ (List.mem_of_getElem? (i := 72) rfl)) (by decide) (rmXi10 l Z a0 hw u cs c0 a1 h0 O0 S_cs hcs E1 V1 C1 Y1) 0 (by decide) (by decide) e0 E1 (hsz rfl) [] [] pd_4 rfl rfl rfl (Nat.le_of_eq rfl) (hb hby d_jdk_42_method_56_1) (by decide) (by decide) (fun Tt1 vt1 Lt1 Xt1 qt1 => ?_)
  obtain ⟨rfl, N2, et1⟩ := qt1
  have N3 := Fr.app N0 N2
  show Goes p e below _ (Tt1.setTop (mkF m 4 #[.val (.ref a1), .val (.int (0 : Int32))] [(.int (1 : Int32))]))
  refine gIfN Xt1 hx (hb hby d_jdk_42_method_56_4) (XT.i0_eq_f (by decide)) ?_
  show Goes p e below _ (Tt1.setTop (mkF m 7 #[.val (.ref a1), .val (.int (0 : Int32))] []))
  refine gAloadN Xt1 hx (hb hby d_jdk_42_method_56_7) rfl rfl ?_
  obtain ⟨Tt4, Xt4, et4, stt4⟩ := getF Xt1 hx hZ hown (host := "") (Or.inl (hw _ (List.mem_of_getElem? (i := 28) rfl))) Via.refl et1 V1 (g := (mkF m 8 #[.val (.ref a1), .val (.int (0 : Int32))] [(.ref a1)])) rfl rfl (hb hby d_jdk_42_method_56_8)
  refine go stt4 ?_
  show Goes p e below _ (Tt4.setTop (mkF m 11 #[.val (.ref a1), .val (.int (0 : Int32))] [(.ref u)]))
  refine gIloadN Xt4 hx (hb hby d_jdk_42_method_56_11) rfl ?_
  refine goCallS Xt4 hx hZ hown (hw _ (List.mem_of_getElem? (i := 73) rfl)) (hw _ (List.mem_of_getElem? (i := 74) rfl)) (hw _ (List.mem_of_getElem? (i := 75) rfl)) (hw _ (List.mem_of_getElem? (i := 76) rfl)) (by decide) (rmLc10 l Z a0 hw fm c0 u h0 O0 S_fm rf Y1 g0 g1) 0 (by decide) (by decide) et4 (hsz rfl) [(.ref u), (.int (0 : Int32))] [] pd_12 rfl rfl rfl (Nat.le_of_eq rfl) (hb hby d_jdk_42_method_56_12) (by decide) (by decide) (fun Tt5 vt5 Lt5 Xt5 qt5 => ?_)
  obtain ⟨rfl, N6, et5⟩ := qt5
  have N7 := Fr.app N3 N6
  show Goes p e below _ (Tt5.setTop (mkF m 15 #[.val (.ref a1), .val (.int (0 : Int32))] [(.int c0)]))
  exact goRetN Xt5 hx (t := .char) hret hlocks (by simp) (hb hby d_jdk_42_method_56_15) (z' := c0) nc (by decide) (by decide) et5 (⟨rfl, N7, rfl⟩)
theorem ef_rmXe11 (m : MethodId) (x0 : Addr) : entryFrame m #[(.ref x0)] 1 = mkF m 0 #[.val (.ref x0)] [] := by first | (simp [entryFrame, mkF, argsToLocals, Value.category]; done) | rfl
set_option maxRecDepth 65536 in
set_option maxHeartbeats 40000000 in
theorem rmXe11 (l : Launch) (Z : State) (a0 : Array Value) (hw : ∀ d ∈ tables_1, d.before a0 Z = true) (u : Addr) (cs : Int32) (c0 : Int32) (a1 : Addr) (h0 : Heap) (O0 : Ext Z.heap h0) (S_cs : Sta Z Z.heap "java/lang/String" "COMPACT_STRINGS" "Z" (.int cs)) (hcs : ¬ cs = 0) (E1 : Exa Z h0 a1 "java/lang/String") (V1 : Fld Z h0 a1 "java/lang/String" "value" "[B" (.ref u)) (C1 : Fld Z h0 a1 "java/lang/String" "coder" "B" (.int (1 : Int32))) (Y1 : Ary Z h0 u .byte [(.int ((c0 >>> ((0 : Int32) &&& 31)).toInt8.toInt32)), (.int ((c0 >>> ((8 : Int32) &&& 31)).toInt8.toInt32))]) :
    Ctr l Z (⟨"java/lang/String", "isEmpty", "()Z"⟩ : MethodName) jdk_42_method_55_code 1 (some .boolean) [] ({ frames := 0, cells := 0, slots := 0, locals := 0 } : Room) #[(.ref a1)] h0 (fun v h L => v = some (.int 0) ∧ Fr Z.heap.size L ∧ h = h0) := by
  refine ctr (plainFor_of_name pn_1) ?_
  intro p e s m below meth c s₁ hx hby hml hown hnm hret hlocks hZ X0 e0
  have N0 := Fr.nil Z.heap.size
  have hsz : ∀ {Ls : Array Slot}, Ls.size = 1 → Ls.size = c.maxLocals := fun q => q.trans hml.symm
  refine goE (ef_rmXe11 m (a1)) ?_
  show Goes p e below _ (s₁.setTop (mkF m 0 #[.val (.ref a1)] []))
  refine gAloadN X0 hx (hb hby d_jdk_42_method_55_0) rfl rfl ?_
  obtain ⟨Tt1, Xt1, et1, stt1⟩ := getF X0 hx hZ hown (host := "") (Or.inl (hw _ (List.mem_of_getElem? (i := 28) rfl))) Via.refl e0 V1 (g := (mkF m 1 #[.val (.ref a1)] [(.ref a1)])) rfl rfl (hb hby d_jdk_42_method_55_1)
  refine go stt1 ?_
  show Goes p e below _ (Tt1.setTop (mkF m 4 #[.val (.ref a1)] [(.ref u)]))
  refine goAlen Xt1 hx hZ et1 Y1 (n := (2 : Int32)) (hb hby d_jdk_42_method_55_4) rfl ?_
  refine gIfY Xt1 hx (hb hby d_jdk_42_method_55_5) (pc' := 12) (XT.i0_ne_t (by decide)) (by decide) (by decide) ?_
  show Goes p e below _ (Tt1.setTop (mkF m 12 #[.val (.ref a1)] []))
  refine gIconst Xt1 hx (hb hby d_jdk_42_method_55_12) (v := (0 : Int32)) rfl ?_
  exact goRetN Xt1 hx (t := .boolean) hret hlocks (by simp) (hb hby d_jdk_42_method_55_13) (z' := (0 : Int32)) rfl (by decide) (by decide) et1 (⟨rfl, N0, rfl⟩)
theorem ef_rmXc11 (m : MethodId) (x0 : Addr) : entryFrame m #[(.ref x0)] 1 = mkF m 0 #[.val (.ref x0)] [] := by first | (simp [entryFrame, mkF, argsToLocals, Value.category]; done) | rfl
set_option maxRecDepth 65536 in
set_option maxHeartbeats 40000000 in
theorem rmXc11 (l : Launch) (Z : State) (a0 : Array Value) (hw : ∀ d ∈ tables_1, d.before a0 Z = true) (u : Addr) (cs : Int32) (c0 : Int32) (a1 : Addr) (h0 : Heap) (O0 : Ext Z.heap h0) (S_cs : Sta Z Z.heap "java/lang/String" "COMPACT_STRINGS" "Z" (.int cs)) (hcs : ¬ cs = 0) (E1 : Exa Z h0 a1 "java/lang/String") (V1 : Fld Z h0 a1 "java/lang/String" "value" "[B" (.ref u)) (C1 : Fld Z h0 a1 "java/lang/String" "coder" "B" (.int (1 : Int32))) (Y1 : Ary Z h0 u .byte [(.int ((c0 >>> ((0 : Int32) &&& 31)).toInt8.toInt32)), (.int ((c0 >>> ((8 : Int32) &&& 31)).toInt8.toInt32))]) :
    Ctr l Z (⟨"java/lang/String", "coder", "()B"⟩ : MethodName) jdk_42_method_152_code 1 (some .byte) [] ({ frames := 0, cells := 0, slots := 0, locals := 0 } : Room) #[(.ref a1)] h0 (fun v h L => v = some (.int (1 : Int32)) ∧ Fr Z.heap.size L ∧ h = h0) := by
  refine ctr (plainFor_of_name pn_1) ?_
  intro p e s m below meth c s₁ hx hby hml hown hnm hret hlocks hZ X0 e0
  have N0 := Fr.nil Z.heap.size
  have hsz : ∀ {Ls : Array Slot}, Ls.size = 1 → Ls.size = c.maxLocals := fun q => q.trans hml.symm
  refine goE (ef_rmXc11 m (a1)) ?_
  show Goes p e below _ (s₁.setTop (mkF m 0 #[.val (.ref a1)] []))
  obtain ⟨Tt1, Xt1, et1, stt1⟩ := getS2 X0 hx hZ hown (host := "") (Or.inl (hw _ (List.mem_of_getElem? (i := 39) rfl))) Via.refl e0 (S_cs.ext O0) (g := (mkF m 0 #[.val (.ref a1)] [])) rfl (hb hby d_jdk_42_method_152_0)
  refine go stt1 ?_
  show Goes p e below _ (Tt1.setTop (mkF m 3 #[.val (.ref a1)] [(.int cs)]))
  refine gIfN Xt1 hx (hb hby d_jdk_42_method_152_3) (XT.i0_eq_f hcs) ?_
  show Goes p e below _ (Tt1.setTop (mkF m 6 #[.val (.ref a1)] []))
  refine gAloadN Xt1 hx (hb hby d_jdk_42_method_152_6) rfl rfl ?_
  obtain ⟨Tt2, Xt2, et2, stt2⟩ := getF Xt1 hx hZ hown (host := "") (Or.inl (hw _ (List.mem_of_getElem? (i := 29) rfl))) Via.refl et1 C1 (g := (mkF m 7 #[.val (.ref a1)] [(.ref a1)])) rfl rfl (hb hby d_jdk_42_method_152_7)
  refine go stt2 ?_
  show Goes p e below _ (Tt2.setTop (mkF m 10 #[.val (.ref a1)] [(.int (1 : Int32))]))
  refine gGoto Xt2 hx (hb hby d_jdk_42_method_152_10) (pc' := 14) (by decide) (by decide) ?_
  show Goes p e below _ (Tt2.setTop (mkF m 14 #[.val (.ref a1)] [(.int (1 : Int32))]))
  exact goRetN Xt2 hx (t := .byte) hret hlocks (by simp) (hb hby d_jdk_42_method_152_14) (z' := (1 : Int32)) rfl (by decide) (by decide) et2 (⟨rfl, N0, rfl⟩)
theorem ef_rmXl11 (m : MethodId) (x0 : Addr) : entryFrame m #[(.ref x0)] 1 = mkF m 0 #[.val (.ref x0)] [] := by first | (simp [entryFrame, mkF, argsToLocals, Value.category]; done) | rfl
set_option maxRecDepth 65536 in
set_option maxHeartbeats 40000000 in
theorem rmXl11 (l : Launch) (Z : State) (a0 : Array Value) (hw : ∀ d ∈ tables_1, d.before a0 Z = true) (u : Addr) (cs : Int32) (c0 : Int32) (a1 : Addr) (h0 : Heap) (O0 : Ext Z.heap h0) (S_cs : Sta Z Z.heap "java/lang/String" "COMPACT_STRINGS" "Z" (.int cs)) (hcs : ¬ cs = 0) (E1 : Exa Z h0 a1 "java/lang/String") (V1 : Fld Z h0 a1 "java/lang/String" "value" "[B" (.ref u)) (C1 : Fld Z h0 a1 "java/lang/String" "coder" "B" (.int (1 : Int32))) (Y1 : Ary Z h0 u .byte [(.int ((c0 >>> ((0 : Int32) &&& 31)).toInt8.toInt32)), (.int ((c0 >>> ((8 : Int32) &&& 31)).toInt8.toInt32))]) :
    Ctr l Z (⟨"java/lang/String", "length", "()I"⟩ : MethodName) jdk_42_method_54_code 1 (some .int) [] ({ frames := 1, cells := 0, slots := 0, locals := 13 } : Room) #[(.ref a1)] h0 (fun v h L => v = some (.int (1 : Int32)) ∧ Fr Z.heap.size L ∧ h = h0) := by
  refine ctr (plainFor_of_name pn_1) ?_
  intro p e s m below meth c s₁ hx hby hml hown hnm hret hlocks hZ X0 e0
  have N0 := Fr.nil Z.heap.size
  have hsz : ∀ {Ls : Array Slot}, Ls.size = 1 → Ls.size = c.maxLocals := fun q => q.trans hml.symm
  refine goE (ef_rmXl11 m (a1)) ?_
  show Goes p e below _ (s₁.setTop (mkF m 0 #[.val (.ref a1)] []))
  refine gAloadN X0 hx (hb hby d_jdk_42_method_54_0) rfl rfl ?_
  obtain ⟨Tt1, Xt1, et1, stt1⟩ := getF X0 hx hZ hown (host := "") (Or.inl (hw _ (List.mem_of_getElem? (i := 28) rfl))) Via.refl e0 V1 (g := (mkF m 1 #[.val (.ref a1)] [(.ref a1)])) rfl rfl (hb hby d_jdk_42_method_54_1)
  refine go stt1 ?_
  show Goes p e below _ (Tt1.setTop (mkF m 4 #[.val (.ref a1)] [(.ref u)]))
  refine goAlen Xt1 hx hZ et1 Y1 (n := (2 : Int32)) (hb hby d_jdk_42_method_54_4) rfl ?_
  refine gAloadN Xt1 hx (hb hby d_jdk_42_method_54_5) rfl rfl ?_
  refine goCallV Xt1 hx hZ hown (hw _ (List.mem_of_getElem? (i := 58) rfl)) (hw _ (List.mem_of_getElem? (i := 59) rfl)) (hw _ (List.mem_of_getElem? (i := 61) rfl)) (hw _ (List.mem_of_getElem? (i := 60) rfl)) (hw _ (List.mem_of_getElem? (i := 10) rfl)) (hw _ (List.mem_of_getElem? (i := 62) rfl)) (by decide) (rmXc11 l Z a0 hw u cs c0 a1 h0 O0 S_cs hcs E1 V1 C1 Y1) 1 (by decide) (by decide) et1 E1 (hsz rfl) [] [(.int (2 : Int32))] pd_3 rfl rfl rfl (Nat.le_of_eq rfl) (hb hby d_jdk_42_method_54_6) (by decide) (by decide) (fun Tt2 vt2 Lt2 Xt2 qt2 => ?_)
  obtain ⟨rfl, N3, et2⟩ := qt2
  have N4 := Fr.app N0 N3
  show Goes p e below _ (Tt2.setTop (mkF m 9 #[.val (.ref a1)] [(.int (1 : Int32)), (.int (2 : Int32))]))
  refine gIshr Xt2 hx (hb hby d_jdk_42_method_54_9) ?_
  exact goRetI Xt2 hx hret hlocks (hb hby d_jdk_42_method_54_10) (by decide) (by decide) et2 (⟨congrArg (fun z => some (Value.int z)) (by decide), N4, rfl⟩)
theorem d_jdk_42_method_154_17 : decode jdk_42_method_154_code 17 = .ok (.iconst 0, 1) := by decide +kernel
theorem ef_rmXi11 (m : MethodId) (x0 : Addr) : entryFrame m #[(.ref x0)] 1 = mkF m 0 #[.val (.ref x0)] [] := by first | (simp [entryFrame, mkF, argsToLocals, Value.category]; done) | rfl
set_option maxRecDepth 65536 in
set_option maxHeartbeats 40000000 in
theorem rmXi11 (l : Launch) (Z : State) (a0 : Array Value) (hw : ∀ d ∈ tables_1, d.before a0 Z = true) (u : Addr) (cs : Int32) (c0 : Int32) (a1 : Addr) (h0 : Heap) (O0 : Ext Z.heap h0) (S_cs : Sta Z Z.heap "java/lang/String" "COMPACT_STRINGS" "Z" (.int cs)) (hcs : ¬ cs = 0) (E1 : Exa Z h0 a1 "java/lang/String") (V1 : Fld Z h0 a1 "java/lang/String" "value" "[B" (.ref u)) (C1 : Fld Z h0 a1 "java/lang/String" "coder" "B" (.int (1 : Int32))) (Y1 : Ary Z h0 u .byte [(.int ((c0 >>> ((0 : Int32) &&& 31)).toInt8.toInt32)), (.int ((c0 >>> ((8 : Int32) &&& 31)).toInt8.toInt32))]) :
    Ctr l Z (⟨"java/lang/String", "isLatin1", "()Z"⟩ : MethodName) jdk_42_method_154_code 1 (some .boolean) [] ({ frames := 0, cells := 0, slots := 0, locals := 0 } : Room) #[(.ref a1)] h0 (fun v h L => v = some (.int (0 : Int32)) ∧ Fr Z.heap.size L ∧ h = h0) := by
  refine ctr (plainFor_of_name pn_1) ?_
  intro p e s m below meth c s₁ hx hby hml hown hnm hret hlocks hZ X0 e0
  have N0 := Fr.nil Z.heap.size
  have hsz : ∀ {Ls : Array Slot}, Ls.size = 1 → Ls.size = c.maxLocals := fun q => q.trans hml.symm
  refine goE (ef_rmXi11 m (a1)) ?_
  show Goes p e below _ (s₁.setTop (mkF m 0 #[.val (.ref a1)] []))
  obtain ⟨Tt1, Xt1, et1, stt1⟩ := getS2 X0 hx hZ hown (host := "") (Or.inl (hw _ (List.mem_of_getElem? (i := 39) rfl))) Via.refl e0 (S_cs.ext O0) (g := (mkF m 0 #[.val (.ref a1)] [])) rfl (hb hby d_jdk_42_method_154_0)
  refine go stt1 ?_
  show Goes p e below _ (Tt1.setTop (mkF m 3 #[.val (.ref a1)] [(.int cs)]))
  refine gIfN Xt1 hx (hb hby d_jdk_42_method_154_3) (XT.i0_eq_f hcs) ?_
  show Goes p e below _ (Tt1.setTop (mkF m 6 #[.val (.ref a1)] []))
  refine gAloadN Xt1 hx (hb hby d_jdk_42_method_154_6) rfl rfl ?_
  obtain ⟨Tt2, Xt2, et2, stt2⟩ := getF Xt1 hx hZ hown (host := "") (Or.inl (hw _ (List.mem_of_getElem? (i := 29) rfl))) Via.refl et1 C1 (g := (mkF m 7 #[.val (.ref a1)] [(.ref a1)])) rfl rfl (hb hby d_jdk_42_method_154_7)
  refine go stt2 ?_
  show Goes p e below _ (Tt2.setTop (mkF m 10 #[.val (.ref a1)] [(.int (1 : Int32))]))
  refine gIfY Xt2 hx (hb hby d_jdk_42_method_154_10) (pc' := 17) (XT.i0_ne_t (by decide)) (by decide) (by decide) ?_
  show Goes p e below _ (Tt2.setTop (mkF m 17 #[.val (.ref a1)] []))
  refine gIconst Xt2 hx (hb hby d_jdk_42_method_154_17) (v := (0 : Int32)) rfl ?_
  exact goRetN Xt2 hx (t := .boolean) hret hlocks (by simp) (hb hby d_jdk_42_method_154_18) (z' := (0 : Int32)) rfl (by decide) (by decide) et2 (⟨rfl, N0, rfl⟩)
theorem d_jdk_52_method_6_0 : decode jdk_52_method_6_code 0 = .ok (.aload_n 0, 1) := by decide +kernel
theorem d_jdk_52_method_6_1 : decode jdk_52_method_6_code 1 = .ok (.arraylength, 1) := by decide +kernel
theorem d_jdk_52_method_6_2 : decode jdk_52_method_6_code 2 = .ok (.iconst 1, 1) := by decide +kernel
theorem d_jdk_52_method_6_3 : decode jdk_52_method_6_code 3 = .ok (.ishr, 1) := by decide +kernel
theorem d_jdk_52_method_6_4 : decode jdk_52_method_6_code 4 = .ok (.ireturn, 1) := by decide +kernel
theorem ef_rmUl1 (m : MethodId) (x0 : Addr) : entryFrame m #[(.ref x0)] 1 = mkF m 0 #[.val (.ref x0)] [] := by first | (simp [entryFrame, mkF, argsToLocals, Value.category]; done) | rfl
set_option maxRecDepth 65536 in
set_option maxHeartbeats 40000000 in
theorem rmUl1 (l : Launch) (Z : State) (a0 : Array Value) (hw : ∀ d ∈ tables_1, d.before a0 Z = true) (c0 : Int32) (u : Addr) (h0 : Heap) (O0 : Ext Z.heap h0) (Y1 : Ary Z h0 u .byte [(.int ((c0 >>> ((0 : Int32) &&& 31)).toInt8.toInt32)), (.int ((c0 >>> ((8 : Int32) &&& 31)).toInt8.toInt32))]) :
    Ctr l Z (⟨"java/lang/StringUTF16", "length", "([B)I"⟩ : MethodName) jdk_52_method_6_code 1 (some .int) [] ({ frames := 0, cells := 0, slots := 0, locals := 0 } : Room) #[(.ref u)] h0 (fun v h L => v = some (.int (1 : Int32)) ∧ Fr Z.heap.size L ∧ h = h0) := by
  refine ctr (plainFor_of_name pn_4) ?_
  intro p e s m below meth c s₁ hx hby hml hown hnm hret hlocks hZ X0 e0
  have N0 := Fr.nil Z.heap.size
  have hsz : ∀ {Ls : Array Slot}, Ls.size = 1 → Ls.size = c.maxLocals := fun q => q.trans hml.symm
  refine goE (ef_rmUl1 m (u)) ?_
  show Goes p e below _ (s₁.setTop (mkF m 0 #[.val (.ref u)] []))
  refine gAloadN X0 hx (hb hby d_jdk_52_method_6_0) rfl rfl ?_
  refine goAlen X0 hx hZ e0 Y1 (n := (2 : Int32)) (hb hby d_jdk_52_method_6_1) rfl ?_
  refine gIconst X0 hx (hb hby d_jdk_52_method_6_2) (v := (1 : Int32)) rfl ?_
  refine gIshr X0 hx (hb hby d_jdk_52_method_6_3) ?_
  exact goRetI X0 hx hret hlocks (hb hby d_jdk_52_method_6_4) (by decide) (by decide) e0 (⟨congrArg (fun z => some (Value.int z)) (by decide), N0, rfl⟩)
theorem d_jdk_52_method_91_0 : decode jdk_52_method_91_code 0 = .ok (.iload_n 0, 1) := by decide +kernel
theorem d_jdk_52_method_91_1 : decode jdk_52_method_91_code 1 = .ok (.aload_n 1, 1) := by decide +kernel
theorem pd_17 : parseMethodDescriptor "([B)I" = some ⟨[(.array .byte)], some .int⟩ := by decide +kernel
theorem d_jdk_52_method_91_2 : decode jdk_52_method_91_code 2 = .ok (.invokestatic 48, 3) := by decide +kernel
theorem d_jdk_52_method_91_5 : decode jdk_52_method_91_code 5 = .ok (.invokestatic 414, 3) := by decide +kernel
theorem d_jdk_52_method_91_8 : decode jdk_52_method_91_code 8 = .ok (.return_, 1) := by decide +kernel
theorem ef_rmUk1 (m : MethodId) (x0 : Int32) (x1 : Addr) : entryFrame m #[(.int x0), (.ref x1)] 2 = mkF m 0 #[.val (.int x0), .val (.ref x1)] [] := by first | (simp [entryFrame, mkF, argsToLocals, Value.category]; done) | rfl
set_option maxRecDepth 65536 in
set_option maxHeartbeats 40000000 in
theorem rmUk1 (l : Launch) (Z : State) (a0 : Array Value) (hw : ∀ d ∈ tables_1, d.before a0 Z = true) (fm : Value) (c0 : Int32) (i_ : Int32) (u : Addr) (h0 : Heap) (O0 : Ext Z.heap h0) (S_fm : Sta Z Z.heap "jdk/internal/util/Preconditions" "SIOOBE_FORMATTER" "Ljava/util/function/BiFunction;" fm) (rf : fm.isRef = true) (Y1 : Ary Z h0 u .byte [(.int ((c0 >>> ((0 : Int32) &&& 31)).toInt8.toInt32)), (.int ((c0 >>> ((8 : Int32) &&& 31)).toInt8.toInt32))]) (k1 : ¬ i_ < 0) (k2 : i_ < (1 : Int32)) :
    Ctr l Z (⟨"java/lang/StringUTF16", "checkIndex", "(I[B)V"⟩ : MethodName) jdk_52_method_91_code 2 none [] ({ frames := 2, cells := 0, slots := 0, locals := 27 } : Room) #[(.int i_), (.ref u)] h0 (fun v h L => v = none ∧ Fr Z.heap.size L ∧ h = h0) := by
  refine ctr (plainFor_of_name pn_4) ?_
  intro p e s m below meth c s₁ hx hby hml hown hnm hret hlocks hZ X0 e0
  have N0 := Fr.nil Z.heap.size
  have hsz : ∀ {Ls : Array Slot}, Ls.size = 2 → Ls.size = c.maxLocals := fun q => q.trans hml.symm
  refine goE (ef_rmUk1 m (i_) (u)) ?_
  show Goes p e below _ (s₁.setTop (mkF m 0 #[.val (.int i_), .val (.ref u)] []))
  refine gIloadN X0 hx (hb hby d_jdk_52_method_91_0) rfl ?_
  refine gAloadN X0 hx (hb hby d_jdk_52_method_91_1) rfl rfl ?_
  refine goCallS X0 hx hZ hown (hw _ (List.mem_of_getElem? (i := 142) rfl)) (hw _ (List.mem_of_getElem? (i := 143) rfl)) (hw _ (List.mem_of_getElem? (i := 42) rfl)) (hw _ (List.mem_of_getElem? (i := 144) rfl)) (by decide) (rmUl1 l Z a0 hw c0 u h0 O0 Y1) 1 (by decide) (by decide) e0 (hsz rfl) [(.ref u)] [(.int i_)] pd_17 rfl rfl rfl (Nat.le_of_eq rfl) (hb hby d_jdk_52_method_91_2) (by decide) (by decide) (fun Tt1 vt1 Lt1 Xt1 qt1 => ?_)
  obtain ⟨rfl, N2, et1⟩ := qt1
  have N3 := Fr.app N0 N2
  show Goes p e below _ (Tt1.setTop (mkF m 5 #[.val (.int i_), .val (.ref u)] [(.int (1 : Int32)), (.int i_)]))
  refine goCallS Xt1 hx hZ hown (hw _ (List.mem_of_getElem? (i := 145) rfl)) (hw _ (List.mem_of_getElem? (i := 78) rfl)) (hw _ (List.mem_of_getElem? (i := 10) rfl)) (hw _ (List.mem_of_getElem? (i := 79) rfl)) (by decide) (rmCk l Z a0 hw fm i_ (1 : Int32) h0 O0 S_fm rf k1 k2) 0 (by decide) (by decide) et1 (hsz rfl) [(.int i_), (.int (1 : Int32))] [] pd_16 rfl rfl rfl (Nat.le_of_eq rfl) (hb hby d_jdk_52_method_91_5) (by decide) (by decide) (fun Tt4 vt4 Lt4 Xt4 qt4 => ?_)
  obtain ⟨rfl, N5, et4⟩ := qt4
  have N6 := Fr.app N3 N5
  show Goes p e below _ (Tt4.setTop (mkF m 8 #[.val (.int i_), .val (.ref u)] []))
  exact goRet0 Xt4 hx hret hlocks (hb hby d_jdk_52_method_91_8) (by decide) (by decide) et4 (⟨rfl, N6, rfl⟩)
theorem d_jdk_52_method_83_0 : decode jdk_52_method_83_code 0 = .ok (.iload_n 1, 1) := by decide +kernel
theorem d_jdk_52_method_83_1 : decode jdk_52_method_83_code 1 = .ok (.aload_n 0, 1) := by decide +kernel
theorem pd_18 : parseMethodDescriptor "(I[B)V" = some ⟨[.int, (.array .byte)], none⟩ := by decide +kernel
theorem d_jdk_52_method_83_2 : decode jdk_52_method_83_code 2 = .ok (.invokestatic 67, 3) := by decide +kernel
theorem d_jdk_52_method_83_5 : decode jdk_52_method_83_code 5 = .ok (.aload_n 0, 1) := by decide +kernel
theorem d_jdk_52_method_83_6 : decode jdk_52_method_83_code 6 = .ok (.iload_n 1, 1) := by decide +kernel
theorem d_jdk_52_method_83_7 : decode jdk_52_method_83_code 7 = .ok (.invokestatic 71, 3) := by decide +kernel
theorem d_jdk_52_method_83_10 : decode jdk_52_method_83_code 10 = .ok (.ireturn, 1) := by decide +kernel
theorem ef_rmUc10 (m : MethodId) (x0 : Addr) (x1 : Int32) : entryFrame m #[(.ref x0), (.int x1)] 2 = mkF m 0 #[.val (.ref x0), .val (.int x1)] [] := by first | (simp [entryFrame, mkF, argsToLocals, Value.category]; done) | rfl
set_option maxRecDepth 65536 in
set_option maxHeartbeats 40000000 in
theorem rmUc10 (l : Launch) (Z : State) (a0 : Array Value) (hw : ∀ d ∈ tables_1, d.before a0 Z = true) (fm : Value) (c0 : Int32) (u : Addr) (h0 : Heap) (O0 : Ext Z.heap h0) (S_fm : Sta Z Z.heap "jdk/internal/util/Preconditions" "SIOOBE_FORMATTER" "Ljava/util/function/BiFunction;" fm) (rf : fm.isRef = true) (S_ua : Sta Z Z.heap "java/lang/StringUTF16" "$assertionsDisabled" "Z" (.int (1 : Int32))) (S_uh : Sta Z Z.heap "java/lang/StringUTF16" "HI_BYTE_SHIFT" "I" (.int (0 : Int32))) (S_ul : Sta Z Z.heap "java/lang/StringUTF16" "LO_BYTE_SHIFT" "I" (.int (8 : Int32))) (Y1 : Ary Z h0 u .byte [(.int ((c0 >>> ((0 : Int32) &&& 31)).toInt8.toInt32)), (.int ((c0 >>> ((8 : Int32) &&& 31)).toInt8.toInt32))]) (g0 : ¬ c0 < 0) (g1 : ¬ (65535 : Int32) < c0) (nc : nar .char c0 = c0) :
    Ctr l Z (⟨"java/lang/StringUTF16", "charAt", "([BI)C"⟩ : MethodName) jdk_52_method_83_code 2 (some .char) [] ({ frames := 3, cells := 0, slots := 0, locals := 40 } : Room) #[(.ref u), (.int (0 : Int32))] h0 (fun v h L => v = some (.int c0) ∧ Fr Z.heap.size L ∧ h = h0) := by
  refine ctr (plainFor_of_name pn_4) ?_
  intro p e s m below meth c s₁ hx hby hml hown hnm hret hlocks hZ X0 e0
  have N0 := Fr.nil Z.heap.size
  have hsz : ∀ {Ls : Array Slot}, Ls.size = 2 → Ls.size = c.maxLocals := fun q => q.trans hml.symm
  refine goE (ef_rmUc10 m (u) ((0 : Int32))) ?_
  show Goes p e below _ (s₁.setTop (mkF m 0 #[.val (.ref u), .val (.int (0 : Int32))] []))
  refine gIloadN X0 hx (hb hby d_jdk_52_method_83_0) rfl ?_
  refine gAloadN X0 hx (hb hby d_jdk_52_method_83_1) rfl rfl ?_
  refine goCallS X0 hx hZ hown (hw _ (List.mem_of_getElem? (i := 139) rfl)) (hw _ (List.mem_of_getElem? (i := 140) rfl)) (hw _ (List.mem_of_getElem? (i := 42) rfl)) (hw _ (List.mem_of_getElem? (i := 141) rfl)) (by decide) (rmUk1 l Z a0 hw fm c0 (0 : Int32) u h0 O0 S_fm rf Y1 (by decide) (by decide)) 0 (by decide) (by decide) e0 (hsz rfl) [(.int (0 : Int32)), (.ref u)] [] pd_18 rfl rfl rfl (Nat.le_of_eq rfl) (hb hby d_jdk_52_method_83_2) (by decide) (by decide) (fun Tt1 vt1 Lt1 Xt1 qt1 => ?_)
  obtain ⟨rfl, N2, et1⟩ := qt1
  have N3 := Fr.app N0 N2
  show Goes p e below _ (Tt1.setTop (mkF m 5 #[.val (.ref u), .val (.int (0 : Int32))] []))
  refine gAloadN Xt1 hx (hb hby d_jdk_52_method_83_5) rfl rfl ?_
  refine gIloadN Xt1 hx (hb hby d_jdk_52_method_83_6) rfl ?_
  refine goCallS Xt1 hx hZ hown (hw _ (List.mem_of_getElem? (i := 133) rfl)) (hw _ (List.mem_of_getElem? (i := 134) rfl)) (hw _ (List.mem_of_getElem? (i := 42) rfl)) (hw _ (List.mem_of_getElem? (i := 135) rfl)) (by decide) (rmGc10 l Z a0 hw ((c0 >>> ((0 : Int32) &&& 31)).toInt8.toInt32) ((c0 >>> ((8 : Int32) &&& 31)).toInt8.toInt32) u h0 O0 S_ua S_uh S_ul Y1) 0 (by decide) (by decide) et1 (hsz rfl) [(.ref u), (.int (0 : Int32))] [] pd_12 rfl rfl rfl (Nat.le_of_eq rfl) (hb hby d_jdk_52_method_83_7) (by decide) (by decide) (fun Tt4 vt4 Lt4 Xt4 qt4 => ?_)
  obtain ⟨rfl, N5, et4⟩ := qt4
  have N6 := Fr.app N3 N5
  show Goes p e below _ (Tt4.setTop (mkF m 10 #[.val (.ref u), .val (.int (0 : Int32))] [(.int (own_gc ((c0 >>> ((0 : Int32) &&& 31)).toInt8.toInt32) ((c0 >>> ((8 : Int32) &&& 31)).toInt8.toInt32)))]))
  rw [own_gcc g0 g1]
  show Goes p e below _ (Tt4.setTop (mkF m 10 #[.val (.ref u), .val (.int (0 : Int32))] [(.int c0)]))
  exact goRetN Xt4 hx (t := .char) hret hlocks (by simp) (hb hby d_jdk_52_method_83_10) (z' := c0) nc (by decide) (by decide) et4 (⟨rfl, N6, rfl⟩)
theorem d_jdk_42_method_56_16 : decode jdk_42_method_56_code 16 = .ok (.aload_n 0, 1) := by decide +kernel
theorem d_jdk_42_method_56_17 : decode jdk_42_method_56_code 17 = .ok (.getfield 9, 3) := by decide +kernel
theorem d_jdk_42_method_56_20 : decode jdk_42_method_56_code 20 = .ok (.iload_n 1, 1) := by decide +kernel
theorem d_jdk_42_method_56_21 : decode jdk_42_method_56_code 21 = .ok (.invokestatic 498, 3) := by decide +kernel
theorem d_jdk_42_method_56_24 : decode jdk_42_method_56_code 24 = .ok (.ireturn, 1) := by decide +kernel
theorem ef_rmXa110 (m : MethodId) (x0 : Addr) (x1 : Int32) : entryFrame m #[(.ref x0), (.int x1)] 2 = mkF m 0 #[.val (.ref x0), .val (.int x1)] [] := by first | (simp [entryFrame, mkF, argsToLocals, Value.category]; done) | rfl
set_option maxRecDepth 65536 in
set_option maxHeartbeats 40000000 in
theorem rmXa110 (l : Launch) (Z : State) (a0 : Array Value) (hw : ∀ d ∈ tables_1, d.before a0 Z = true) (fm : Value) (u : Addr) (cs : Int32) (c0 : Int32) (a1 : Addr) (h0 : Heap) (O0 : Ext Z.heap h0) (S_cs : Sta Z Z.heap "java/lang/String" "COMPACT_STRINGS" "Z" (.int cs)) (hcs : ¬ cs = 0) (E1 : Exa Z h0 a1 "java/lang/String") (V1 : Fld Z h0 a1 "java/lang/String" "value" "[B" (.ref u)) (C1 : Fld Z h0 a1 "java/lang/String" "coder" "B" (.int (1 : Int32))) (Y1 : Ary Z h0 u .byte [(.int ((c0 >>> ((0 : Int32) &&& 31)).toInt8.toInt32)), (.int ((c0 >>> ((8 : Int32) &&& 31)).toInt8.toInt32))]) (S_fm : Sta Z Z.heap "jdk/internal/util/Preconditions" "SIOOBE_FORMATTER" "Ljava/util/function/BiFunction;" fm) (rf : fm.isRef = true) (S_ua : Sta Z Z.heap "java/lang/StringUTF16" "$assertionsDisabled" "Z" (.int (1 : Int32))) (S_uh : Sta Z Z.heap "java/lang/StringUTF16" "HI_BYTE_SHIFT" "I" (.int (0 : Int32))) (S_ul : Sta Z Z.heap "java/lang/StringUTF16" "LO_BYTE_SHIFT" "I" (.int (8 : Int32))) (g0 : ¬ c0 < 0) (g1 : ¬ (65535 : Int32) < c0) (nc : nar .char c0 = c0) :
    Ctr l Z (⟨"java/lang/String", "charAt", "(I)C"⟩ : MethodName) jdk_42_method_56_code 2 (some .char) [] ({ frames := 4, cells := 0, slots := 0, locals := 53 } : Room) #[(.ref a1), (.int (0 : Int32))] h0 (fun v h L => v = some (.int c0) ∧ Fr Z.heap.size L ∧ h = h0) := by
  refine ctr (plainFor_of_name pn_1) ?_
  intro p e s m below meth c s₁ hx hby hml hown hnm hret hlocks hZ X0 e0
  have N0 := Fr.nil Z.heap.size
  have hsz : ∀ {Ls : Array Slot}, Ls.size = 2 → Ls.size = c.maxLocals := fun q => q.trans hml.symm
  refine goE (ef_rmXa110 m (a1) ((0 : Int32))) ?_
  show Goes p e below _ (s₁.setTop (mkF m 0 #[.val (.ref a1), .val (.int (0 : Int32))] []))
  refine gAloadN X0 hx (hb hby d_jdk_42_method_56_0) rfl rfl ?_
  refine goCallV X0 hx hZ hown (hw _ (List.mem_of_getElem? (i := 68) rfl)) (hw _ (List.mem_of_getElem? (i := 69) rfl)) (hw _ (List.mem_of_getElem? (i := 71) rfl)) (hw _ (List.mem_of_getElem? (i := 70) rfl)) (hw _ (List.mem_of_getElem? (i := 10) rfl)) (hw _ (List.mem_of_getElem? (i := 72) rfl)) (by decide) (rmXi11 l Z a0 hw u cs c0 a1 h0 O0 S_cs hcs E1 V1 C1 Y1) 0 (by decide) (by decide) e0 E1 (hsz rfl) [] [] pd_4 rfl rfl rfl (Nat.le_of_eq rfl) (hb hby d_jdk_42_method_56_1) (by decide) (by decide) (fun Tt1 vt1 Lt1 Xt1 qt1 => ?_)
  obtain ⟨rfl, N2, et1⟩ := qt1
  have N3 := Fr.app N0 N2
  show Goes p e below _ (Tt1.setTop (mkF m 4 #[.val (.ref a1), .val (.int (0 : Int32))] [(.int (0 : Int32))]))
  refine gIfY Xt1 hx (hb hby d_jdk_42_method_56_4) (pc' := 16) (XT.i0_eq_t (by decide)) (by decide) (by decide) ?_
  show Goes p e below _ (Tt1.setTop (mkF m 16 #[.val (.ref a1), .val (.int (0 : Int32))] []))
  refine gAloadN Xt1 hx (hb hby d_jdk_42_method_56_16) rfl rfl ?_
  obtain ⟨Tt4, Xt4, et4, stt4⟩ := getF Xt1 hx hZ hown (host := "") (Or.inl (hw _ (List.mem_of_getElem? (i := 28) rfl))) Via.refl et1 V1 (g := (mkF m 17 #[.val (.ref a1), .val (.int (0 : Int32))] [(.ref a1)])) rfl rfl (hb hby d_jdk_42_method_56_17)
  refine go stt4 ?_
  show Goes p e below _ (Tt4.setTop (mkF m 20 #[.val (.ref a1), .val (.int (0 : Int32))] [(.ref u)]))
  refine gIloadN Xt4 hx (hb hby d_jdk_42_method_56_20) rfl ?_
  refine goCallS Xt4 hx hZ hown (hw _ (List.mem_of_getElem? (i := 136) rfl)) (hw _ (List.mem_of_getElem? (i := 137) rfl)) (hw _ (List.mem_of_getElem? (i := 42) rfl)) (hw _ (List.mem_of_getElem? (i := 138) rfl)) (by decide) (rmUc10 l Z a0 hw fm c0 u h0 O0 S_fm rf S_ua S_uh S_ul Y1 g0 g1 nc) 0 (by decide) (by decide) et4 (hsz rfl) [(.ref u), (.int (0 : Int32))] [] pd_12 rfl rfl rfl (Nat.le_of_eq rfl) (hb hby d_jdk_42_method_56_21) (by decide) (by decide) (fun Tt5 vt5 Lt5 Xt5 qt5 => ?_)
  obtain ⟨rfl, N6, et5⟩ := qt5
  have N7 := Fr.app N3 N6
  show Goes p e below _ (Tt5.setTop (mkF m 24 #[.val (.ref a1), .val (.int (0 : Int32))] [(.int c0)]))
  exact goRetN Xt5 hx (t := .char) hret hlocks (by simp) (hb hby d_jdk_42_method_56_24) (z' := c0) nc (by decide) (by decide) et5 (⟨rfl, N7, rfl⟩)
theorem d_prog_2_method_2_0 : decode prog_2_method_2_code 0 = .ok (.aload_n 0, 1) := by decide +kernel
theorem d_prog_2_method_2_1 : decode prog_2_method_2_code 1 = .ok (.invokevirtual 7, 3) := by decide +kernel
theorem d_prog_2_method_2_4 : decode prog_2_method_2_code 4 = .ok (.ifCond .eq 5, 3) := by decide +kernel
theorem d_prog_2_method_2_9 : decode prog_2_method_2_code 9 = .ok (.iconst 0, 1) := by decide +kernel
theorem d_prog_2_method_2_10 : decode prog_2_method_2_code 10 = .ok (.istore_n 1, 1) := by decide +kernel
theorem d_prog_2_method_2_11 : decode prog_2_method_2_code 11 = .ok (.iload_n 1, 1) := by decide +kernel
theorem d_prog_2_method_2_12 : decode prog_2_method_2_code 12 = .ok (.aload_n 0, 1) := by decide +kernel
theorem d_prog_2_method_2_13 : decode prog_2_method_2_code 13 = .ok (.invokevirtual 13, 3) := by decide +kernel
theorem d_prog_2_method_2_16 : decode prog_2_method_2_code 16 = .ok (.if_icmp .ge 22, 3) := by decide +kernel
theorem d_prog_2_method_2_19 : decode prog_2_method_2_code 19 = .ok (.aload_n 0, 1) := by decide +kernel
theorem d_prog_2_method_2_20 : decode prog_2_method_2_code 20 = .ok (.iload_n 1, 1) := by decide +kernel
theorem pd_19 : parseMethodDescriptor "(I)C" = some ⟨[.int], some .char⟩ := by decide +kernel
theorem d_prog_2_method_2_21 : decode prog_2_method_2_code 21 = .ok (.invokevirtual 17, 3) := by decide +kernel
theorem pd_20 : parseMethodDescriptor "(C)Z" = some ⟨[.char], some .boolean⟩ := by decide +kernel
theorem d_prog_2_method_2_24 : decode prog_2_method_2_code 24 = .ok (.invokestatic 21, 3) := by decide +kernel
theorem d_prog_2_method_2_27 : decode prog_2_method_2_code 27 = .ok (.ifCond .ne 5, 3) := by decide +kernel
theorem d_prog_2_method_2_30 : decode prog_2_method_2_code 30 = .ok (.iconst 0, 1) := by decide +kernel
theorem d_prog_2_method_2_31 : decode prog_2_method_2_code 31 = .ok (.ireturn, 1) := by decide +kernel
theorem d_prog_2_method_2_32 : decode prog_2_method_2_code 32 = .ok (.iinc 1 1, 3) := by decide +kernel
theorem d_prog_2_method_2_35 : decode prog_2_method_2_code 35 = .ok (.goto (-24), 3) := by decide +kernel
theorem d_prog_2_method_2_38 : decode prog_2_method_2_code 38 = .ok (.iconst 1, 1) := by decide +kernel
theorem d_prog_2_method_2_39 : decode prog_2_method_2_code 39 = .ok (.ireturn, 1) := by decide +kernel
theorem ef_rmTk1 (m : MethodId) (x0 : Addr) : entryFrame m #[(.ref x0)] 2 = mkF m 0 #[.val (.ref x0), .unset] [] := by first | (simp [entryFrame, mkF, argsToLocals, Value.category]; done) | rfl
set_option maxRecDepth 65536 in
set_option maxHeartbeats 40000000 in
theorem rmTk1 (l : Launch) (Z : State) (a0 : Array Value) (hw : ∀ d ∈ tables_1, d.before a0 Z = true) (u : Addr) (fm : Value) (cs : Int32) (c0 : Int32) (a1 : Addr) (h0 : Heap) (O0 : Ext Z.heap h0) (S_cs : Sta Z Z.heap "java/lang/String" "COMPACT_STRINGS" "Z" (.int cs)) (hcs : ¬ cs = 0) (S_ua : Sta Z Z.heap "java/lang/StringUTF16" "$assertionsDisabled" "Z" (.int (1 : Int32))) (S_uh : Sta Z Z.heap "java/lang/StringUTF16" "HI_BYTE_SHIFT" "I" (.int (0 : Int32))) (S_ul : Sta Z Z.heap "java/lang/StringUTF16" "LO_BYTE_SHIFT" "I" (.int (8 : Int32))) (S_fm : Sta Z Z.heap "jdk/internal/util/Preconditions" "SIOOBE_FORMATTER" "Ljava/util/function/BiFunction;" fm) (rf : fm.isRef = true) (hh : Jvm.Lit.constHeld Z "com/example/rolegate/rolegate/HttpSyntax" 27) (hcw : Jvm.Lit.compactW.before a0 Z = true) (nc0 : nar .char c0 = c0) (q0_0 : ¬ c0 < 0) (q1_0 : ¬ (65535 : Int32) < c0) (E1 : Exa Z h0 a1 "java/lang/String") (V1 : Fld Z h0 a1 "java/lang/String" "value" "[B" (.ref u)) (A1 : (Fld Z h0 a1 "java/lang/String" "coder" "B" (.int (0 : Int32)) ∧ (¬ (255 : Int32) < c0) ∧ Ary Z h0 u .byte [(.int (c0.toInt8.toInt32))]) ∨ (Fld Z h0 a1 "java/lang/String" "coder" "B" (.int (1 : Int32)) ∧ Ary Z h0 u .byte [(.int ((c0 >>> ((0 : Int32) &&& 31)).toInt8.toInt32)), (.int ((c0 >>> ((8 : Int32) &&& 31)).toInt8.toInt32))])) :
    CtrW l Z (⟨"com/example/rolegate/rolegate/HttpSyntax", "isToken", "(Ljava/lang/String;)Z"⟩ : MethodName) prog_2_method_2_code 2 (some .boolean) [] ({ frames := 5, cells := 2, slots := 64, locals := 93 } : Room) #[(.ref a1)] h0 (fun vm => own_Tx Z h0 vm) (fun v h L vm => ∃ z : Int32, v = some (.int z) ∧ Fr Z.heap.size L ∧ Keep h0 h [] ∧ ((z = 1 ∧ ¬ own_tc c0 = 0) ∨ (z = 0 ∧ (own_tc c0 = 0)))) := by
  refine ctrW (plainFor_of_name pn_2) ?_
  intro p e s m below meth c s₁ vm0 hx hby hml hown hnm hret hlocks hZ X0 e0 hS hh0 hPv
  have N0 := Fr.nil Z.heap.size
  have hsz : ∀ {Ls : Array Slot}, Ls.size = 2 → Ls.size = c.maxLocals := fun q => q.trans hml.symm
  have K0 := Keep.refl h0 []
  refine goE (ef_rmTk1 m (a1)) ?_
  show Goes p e below _ (s₁.setTop (mkF m 0 #[.val (.ref a1), .unset] []))
  rcases A1 with ⟨C1, k0, Y1⟩ | ⟨C1, Y1⟩
  · refine gAloadN X0 hx (hb hby d_prog_2_method_2_0) rfl rfl ?_
    refine goCallV X0 hx hZ hown (hw _ (List.mem_of_getElem? (i := 34) rfl)) (hw _ (List.mem_of_getElem? (i := 35) rfl)) (hw _ (List.mem_of_getElem? (i := 37) rfl)) (hw _ (List.mem_of_getElem? (i := 36) rfl)) (hw _ (List.mem_of_getElem? (i := 10) rfl)) (hw _ (List.mem_of_getElem? (i := 38) rfl)) (by decide) (rmXe10 l Z a0 hw u cs c0 a1 h0 O0 S_cs hcs E1 V1 C1 Y1) 0 (by decide) (by decide) e0 E1 (hsz rfl) [] [] pd_4 rfl rfl rfl (Nat.le_of_eq rfl) (hb hby d_prog_2_method_2_1) (by decide) (by decide) (fun Tt1 vt1 Lt1 Xt1 qt1 => ?_)
    obtain ⟨rfl, N2, et1⟩ := qt1
    have N3 := Fr.app N0 N2
    show Goes p e below _ (Tt1.setTop (mkF m 4 #[.val (.ref a1), .unset] [(.int (0 : Int32))]))
    refine gIfY Xt1 hx (hb hby d_prog_2_method_2_4) (pc' := 9) (XT.i0_eq_t (by decide)) (by decide) (by decide) ?_
    show Goes p e below _ (Tt1.setTop (mkF m 9 #[.val (.ref a1), .unset] []))
    refine gIconst Xt1 hx (hb hby d_prog_2_method_2_9) (v := (0 : Int32)) rfl ?_
    refine gIstoreN Xt1 hx (hb hby d_prog_2_method_2_10) (l' := #[.val (.ref a1), .val (.int (0 : Int32))]) rfl ?_
    refine gIloadN Xt1 hx (hb hby d_prog_2_method_2_11) rfl ?_
    refine gAloadN Xt1 hx (hb hby d_prog_2_method_2_12) rfl rfl ?_
    refine goCallV Xt1 hx hZ hown (hw _ (List.mem_of_getElem? (i := 53) rfl)) (hw _ (List.mem_of_getElem? (i := 54) rfl)) (hw _ (List.mem_of_getElem? (i := 56) rfl)) (hw _ (List.mem_of_getElem? (i := 55) rfl)) (hw _ (List.mem_of_getElem? (i := 10) rfl)) (hw _ (List.mem_of_getElem? (i := 57) rfl)) (by decide) (rmXl10 l Z a0 hw u cs c0 a1 h0 O0 S_cs hcs E1 V1 C1 Y1) 1 (by decide) (by decide) et1 E1 (hsz rfl) [] [(.int (0 : Int32))] pd_5 rfl rfl rfl (Nat.le_of_eq rfl) (hb hby d_prog_2_method_2_13) (by decide) (by decide) (fun Tt4 vt4 Lt4 Xt4 qt4 => ?_)
    obtain ⟨rfl, N5, et4⟩ := qt4
    have N6 := Fr.app N3 N5
    show Goes p e below _ (Tt4.setTop (mkF m 16 #[.val (.ref a1), .val (.int (0 : Int32))] [(.int (1 : Int32)), (.int (0 : Int32))]))
    refine gIcmpN Xt4 hx (hb hby d_prog_2_method_2_16) (XT.ii_ge_f (by decide)) ?_
    show Goes p e below _ (Tt4.setTop (mkF m 19 #[.val (.ref a1), .val (.int (0 : Int32))] []))
    refine gAloadN Xt4 hx (hb hby d_prog_2_method_2_19) rfl rfl ?_
    refine gIloadN Xt4 hx (hb hby d_prog_2_method_2_20) rfl ?_
    refine goCallV Xt4 hx hZ hown (hw _ (List.mem_of_getElem? (i := 63) rfl)) (hw _ (List.mem_of_getElem? (i := 64) rfl)) (hw _ (List.mem_of_getElem? (i := 66) rfl)) (hw _ (List.mem_of_getElem? (i := 65) rfl)) (hw _ (List.mem_of_getElem? (i := 10) rfl)) (hw _ (List.mem_of_getElem? (i := 67) rfl)) (by decide) (rmXa100 l Z a0 hw fm u cs c0 a1 h0 O0 S_cs hcs E1 V1 C1 Y1 S_fm rf q0_0 k0 nc0) 0 (by decide) (by decide) et4 E1 (hsz rfl) [(.int (0 : Int32))] [] pd_19 rfl rfl rfl (Nat.le_of_eq rfl) (hb hby d_prog_2_method_2_21) (by decide) (by decide) (fun Tt7 vt7 Lt7 Xt7 qt7 => ?_)
    obtain ⟨rfl, N8, et7⟩ := qt7
    have N9 := Fr.app N6 N8
    show Goes p e below _ (Tt7.setTop (mkF m 24 #[.val (.ref a1), .val (.int (0 : Int32))] [(.int c0)]))
    refine goCallSW Xt7 hx hZ hS hown (hw _ (List.mem_of_getElem? (i := 85) rfl)) (hw _ (List.mem_of_getElem? (i := 86) rfl)) (hw _ (List.mem_of_getElem? (i := 32) rfl)) (hw _ (List.mem_of_getElem? (i := 87) rfl)) (by decide) (rmTc l Z a0 hw cs c0 h0 O0 S_cs hcs hh hcw q0_0) (fun _ w_ => hPv.warm w_) 0 (by decide) (by decide) et7 (hsz rfl) [(.int c0)] [] pd_20 rfl rfl rfl (Nat.le_of_eq rfl) (hb hby d_prog_2_method_2_24) (by decide) (by decide) (fun Tt10 vt10 Lt10 Xt10 hZ hown hS wm_t10 qt10 => ?_)
    obtain ⟨ht10, et10⟩ : ∃ z, Tt10.heap = z := ⟨_, rfl⟩
    rw [et10] at qt10 hS
    obtain ⟨rfl, N11, Kct10, Tx0⟩ := qt10
    have N12 := Fr.app N9 N11
    replace V1 := V1.keep Kct10 nin0
    replace E1 := E1.keep Kct10
    replace C1 := C1.keep Kct10 nin0
    replace Y1 := Y1.keep Kct10 nin0
    have O13 : Ext Z.heap ht10 := extK O0 Kct10 all0
    have K14 := K0.trans Kct10 all0
    show Goes p e below _ (Tt10.setTop (mkF m 27 #[.val (.ref a1), .val (.int (0 : Int32))] [(.int (own_tc c0))]))
    by_cases t0 : (own_tc c0) = 0
    · refine gIfN Xt10 hx (hb hby d_prog_2_method_2_27) (XT.i0_ne_f t0) ?_
      show Goes p e below _ (Tt10.setTop (mkF m 30 #[.val (.ref a1), .val (.int (0 : Int32))] []))
      refine gIconst Xt10 hx (hb hby d_prog_2_method_2_30) (v := (0 : Int32)) rfl ?_
      exact goRetNW Xt10 hx hS (t := .boolean) hret hlocks (by simp) (hb hby d_prog_2_method_2_31) (z' := (0 : Int32)) rfl (by decide) (by decide) et10 (⟨0, rfl, N12, K14, Or.inr ⟨rfl, t0⟩⟩)
    · refine gIfY Xt10 hx (hb hby d_prog_2_method_2_27) (pc' := 32) (XT.i0_ne_t t0) (by decide) (by decide) ?_
      show Goes p e below _ (Tt10.setTop (mkF m 32 #[.val (.ref a1), .val (.int (0 : Int32))] []))
      refine gIinc Xt10 hx (hb hby d_prog_2_method_2_32) (v := (1 : Int32)) rfl rfl (l' := #[.val (.ref a1), .val (.int (1 : Int32))]) rfl ?_
      refine gGoto Xt10 hx (hb hby d_prog_2_method_2_35) (pc' := 11) (by decide) (by decide) ?_
      show Goes p e below _ (Tt10.setTop (mkF m 11 #[.val (.ref a1), .val (.int (1 : Int32))] []))
      refine gIloadN Xt10 hx (hb hby d_prog_2_method_2_11) rfl ?_
      refine gAloadN Xt10 hx (hb hby d_prog_2_method_2_12) rfl rfl ?_
      refine goCallV Xt10 hx hZ hown (hw _ (List.mem_of_getElem? (i := 53) rfl)) (hw _ (List.mem_of_getElem? (i := 54) rfl)) (hw _ (List.mem_of_getElem? (i := 56) rfl)) (hw _ (List.mem_of_getElem? (i := 55) rfl)) (hw _ (List.mem_of_getElem? (i := 10) rfl)) (hw _ (List.mem_of_getElem? (i := 57) rfl)) (by decide) (rmXl10 l Z a0 hw u cs c0 a1 ht10 O13 S_cs hcs E1 V1 C1 Y1) 1 (by decide) (by decide) et10 E1 (hsz rfl) [] [(.int (1 : Int32))] pd_5 rfl rfl rfl (Nat.le_of_eq rfl) (hb hby d_prog_2_method_2_13) (by decide) (by decide) (fun Tt15 vt15 Lt15 Xt15 qt15 => ?_)
      obtain ⟨rfl, N16, et15⟩ := qt15
      have N17 := Fr.app N12 N16
      show Goes p e below _ (Tt15.setTop (mkF m 16 #[.val (.ref a1), .val (.int (1 : Int32))] [(.int (1 : Int32)), (.int (1 : Int32))]))
      refine gIcmpY Xt15 hx (hb hby d_prog_2_method_2_16) (pc' := 38) (XT.ii_ge_t (by decide)) (by decide) (by decide) ?_
      show Goes p e below _ (Tt15.setTop (mkF m 38 #[.val (.ref a1), .val (.int (1 : Int32))] []))
      refine gIconst Xt15 hx (hb hby d_prog_2_method_2_38) (v := (1 : Int32)) rfl ?_
      exact goRetNW Xt15 hx hS (t := .boolean) hret hlocks (by simp) (hb hby d_prog_2_method_2_39) (z' := (1 : Int32)) rfl (by decide) (by decide) et15 (⟨1, rfl, N17, K14, Or.inl ⟨rfl, t0⟩⟩)
  · refine gAloadN X0 hx (hb hby d_prog_2_method_2_0) rfl rfl ?_
    refine goCallV X0 hx hZ hown (hw _ (List.mem_of_getElem? (i := 34) rfl)) (hw _ (List.mem_of_getElem? (i := 35) rfl)) (hw _ (List.mem_of_getElem? (i := 37) rfl)) (hw _ (List.mem_of_getElem? (i := 36) rfl)) (hw _ (List.mem_of_getElem? (i := 10) rfl)) (hw _ (List.mem_of_getElem? (i := 38) rfl)) (by decide) (rmXe11 l Z a0 hw u cs c0 a1 h0 O0 S_cs hcs E1 V1 C1 Y1) 0 (by decide) (by decide) e0 E1 (hsz rfl) [] [] pd_4 rfl rfl rfl (Nat.le_of_eq rfl) (hb hby d_prog_2_method_2_1) (by decide) (by decide) (fun Tt18 vt18 Lt18 Xt18 qt18 => ?_)
    obtain ⟨rfl, N19, et18⟩ := qt18
    have N20 := Fr.app N0 N19
    show Goes p e below _ (Tt18.setTop (mkF m 4 #[.val (.ref a1), .unset] [(.int (0 : Int32))]))
    refine gIfY Xt18 hx (hb hby d_prog_2_method_2_4) (pc' := 9) (XT.i0_eq_t (by decide)) (by decide) (by decide) ?_
    show Goes p e below _ (Tt18.setTop (mkF m 9 #[.val (.ref a1), .unset] []))
    refine gIconst Xt18 hx (hb hby d_prog_2_method_2_9) (v := (0 : Int32)) rfl ?_
    refine gIstoreN Xt18 hx (hb hby d_prog_2_method_2_10) (l' := #[.val (.ref a1), .val (.int (0 : Int32))]) rfl ?_
    refine gIloadN Xt18 hx (hb hby d_prog_2_method_2_11) rfl ?_
    refine gAloadN Xt18 hx (hb hby d_prog_2_method_2_12) rfl rfl ?_
    refine goCallV Xt18 hx hZ hown (hw _ (List.mem_of_getElem? (i := 53) rfl)) (hw _ (List.mem_of_getElem? (i := 54) rfl)) (hw _ (List.mem_of_getElem? (i := 56) rfl)) (hw _ (List.mem_of_getElem? (i := 55) rfl)) (hw _ (List.mem_of_getElem? (i := 10) rfl)) (hw _ (List.mem_of_getElem? (i := 57) rfl)) (by decide) (rmXl11 l Z a0 hw u cs c0 a1 h0 O0 S_cs hcs E1 V1 C1 Y1) 1 (by decide) (by decide) et18 E1 (hsz rfl) [] [(.int (0 : Int32))] pd_5 rfl rfl rfl (Nat.le_of_eq rfl) (hb hby d_prog_2_method_2_13) (by decide) (by decide) (fun Tt21 vt21 Lt21 Xt21 qt21 => ?_)
    obtain ⟨rfl, N22, et21⟩ := qt21
    have N23 := Fr.app N20 N22
    show Goes p e below _ (Tt21.setTop (mkF m 16 #[.val (.ref a1), .val (.int (0 : Int32))] [(.int (1 : Int32)), (.int (0 : Int32))]))
    refine gIcmpN Xt21 hx (hb hby d_prog_2_method_2_16) (XT.ii_ge_f (by decide)) ?_
    show Goes p e below _ (Tt21.setTop (mkF m 19 #[.val (.ref a1), .val (.int (0 : Int32))] []))
    refine gAloadN Xt21 hx (hb hby d_prog_2_method_2_19) rfl rfl ?_
    refine gIloadN Xt21 hx (hb hby d_prog_2_method_2_20) rfl ?_
    refine goCallV Xt21 hx hZ hown (hw _ (List.mem_of_getElem? (i := 63) rfl)) (hw _ (List.mem_of_getElem? (i := 64) rfl)) (hw _ (List.mem_of_getElem? (i := 66) rfl)) (hw _ (List.mem_of_getElem? (i := 65) rfl)) (hw _ (List.mem_of_getElem? (i := 10) rfl)) (hw _ (List.mem_of_getElem? (i := 67) rfl)) (by decide) (rmXa110 l Z a0 hw fm u cs c0 a1 h0 O0 S_cs hcs E1 V1 C1 Y1 S_fm rf S_ua S_uh S_ul q0_0 q1_0 nc0) 0 (by decide) (by decide) et21 E1 (hsz rfl) [(.int (0 : Int32))] [] pd_19 rfl rfl rfl (Nat.le_of_eq rfl) (hb hby d_prog_2_method_2_21) (by decide) (by decide) (fun Tt24 vt24 Lt24 Xt24 qt24 => ?_)
    obtain ⟨rfl, N25, et24⟩ := qt24
    have N26 := Fr.app N23 N25
    show Goes p e below _ (Tt24.setTop (mkF m 24 #[.val (.ref a1), .val (.int (0 : Int32))] [(.int c0)]))
    refine goCallSW Xt24 hx hZ hS hown (hw _ (List.mem_of_getElem? (i := 85) rfl)) (hw _ (List.mem_of_getElem? (i := 86) rfl)) (hw _ (List.mem_of_getElem? (i := 32) rfl)) (hw _ (List.mem_of_getElem? (i := 87) rfl)) (by decide) (rmTc l Z a0 hw cs c0 h0 O0 S_cs hcs hh hcw q0_0) (fun _ w_ => hPv.warm w_) 0 (by decide) (by decide) et24 (hsz rfl) [(.int c0)] [] pd_20 rfl rfl rfl (Nat.le_of_eq rfl) (hb hby d_prog_2_method_2_24) (by decide) (by decide) (fun Tt27 vt27 Lt27 Xt27 hZ hown hS wm_t27 qt27 => ?_)
    obtain ⟨ht27, et27⟩ : ∃ z, Tt27.heap = z := ⟨_, rfl⟩
    rw [et27] at qt27 hS
    obtain ⟨rfl, N28, Kct27, Tx0⟩ := qt27
    have N29 := Fr.app N26 N28
    replace V1 := V1.keep Kct27 nin0
    replace E1 := E1.keep Kct27
    replace C1 := C1.keep Kct27 nin0
    replace Y1 := Y1.keep Kct27 nin0
    have O30 : Ext Z.heap ht27 := extK O0 Kct27 all0
    have K31 := K0.trans Kct27 all0
    show Goes p e below _ (Tt27.setTop (mkF m 27 #[.val (.ref a1), .val (.int (0 : Int32))] [(.int (own_tc c0))]))
    by_cases t0 : (own_tc c0) = 0
    · refine gIfN Xt27 hx (hb hby d_prog_2_method_2_27) (XT.i0_ne_f t0) ?_
      show Goes p e below _ (Tt27.setTop (mkF m 30 #[.val (.ref a1), .val (.int (0 : Int32))] []))
      refine gIconst Xt27 hx (hb hby d_prog_2_method_2_30) (v := (0 : Int32)) rfl ?_
      exact goRetNW Xt27 hx hS (t := .boolean) hret hlocks (by simp) (hb hby d_prog_2_method_2_31) (z' := (0 : Int32)) rfl (by decide) (by decide) et27 (⟨0, rfl, N29, K31, Or.inr ⟨rfl, t0⟩⟩)
    · refine gIfY Xt27 hx (hb hby d_prog_2_method_2_27) (pc' := 32) (XT.i0_ne_t t0) (by decide) (by decide) ?_
      show Goes p e below _ (Tt27.setTop (mkF m 32 #[.val (.ref a1), .val (.int (0 : Int32))] []))
      refine gIinc Xt27 hx (hb hby d_prog_2_method_2_32) (v := (1 : Int32)) rfl rfl (l' := #[.val (.ref a1), .val (.int (1 : Int32))]) rfl ?_
      refine gGoto Xt27 hx (hb hby d_prog_2_method_2_35) (pc' := 11) (by decide) (by decide) ?_
      show Goes p e below _ (Tt27.setTop (mkF m 11 #[.val (.ref a1), .val (.int (1 : Int32))] []))
      refine gIloadN Xt27 hx (hb hby d_prog_2_method_2_11) rfl ?_
      refine gAloadN Xt27 hx (hb hby d_prog_2_method_2_12) rfl rfl ?_
      refine goCallV Xt27 hx hZ hown (hw _ (List.mem_of_getElem? (i := 53) rfl)) (hw _ (List.mem_of_getElem? (i := 54) rfl)) (hw _ (List.mem_of_getElem? (i := 56) rfl)) (hw _ (List.mem_of_getElem? (i := 55) rfl)) (hw _ (List.mem_of_getElem? (i := 10) rfl)) (hw _ (List.mem_of_getElem? (i := 57) rfl)) (by decide) (rmXl11 l Z a0 hw u cs c0 a1 ht27 O30 S_cs hcs E1 V1 C1 Y1) 1 (by decide) (by decide) et27 E1 (hsz rfl) [] [(.int (1 : Int32))] pd_5 rfl rfl rfl (Nat.le_of_eq rfl) (hb hby d_prog_2_method_2_13) (by decide) (by decide) (fun Tt32 vt32 Lt32 Xt32 qt32 => ?_)
      obtain ⟨rfl, N33, et32⟩ := qt32
      have N34 := Fr.app N29 N33
      show Goes p e below _ (Tt32.setTop (mkF m 16 #[.val (.ref a1), .val (.int (1 : Int32))] [(.int (1 : Int32)), (.int (1 : Int32))]))
      refine gIcmpY Xt32 hx (hb hby d_prog_2_method_2_16) (pc' := 38) (XT.ii_ge_t (by decide)) (by decide) (by decide) ?_
      show Goes p e below _ (Tt32.setTop (mkF m 38 #[.val (.ref a1), .val (.int (1 : Int32))] []))
      refine gIconst Xt32 hx (hb hby d_prog_2_method_2_38) (v := (1 : Int32)) rfl ?_
      exact goRetNW Xt32 hx hS (t := .boolean) hret hlocks (by simp) (hb hby d_prog_2_method_2_39) (z' := (1 : Int32)) rfl (by decide) (by decide) et32 (⟨1, rfl, N34, K31, Or.inl ⟨rfl, t0⟩⟩)
theorem ef_rmSa2 (m : MethodId) (x0 : Addr) (x1 : Int32) (x2 : Addr) (x3 : Int32) (x4 : Int32) : entryFrame m #[(.ref x0), (.int x1), (.ref x2), (.int x3), (.int x4)] 7 = mkF m 0 #[.val (.ref x0), .val (.int x1), .val (.ref x2), .val (.int x3), .val (.int x4), .unset, .unset] [] := by first | (simp [entryFrame, mkF, argsToLocals, Value.category]; done) | rfl
set_option maxRecDepth 65536 in
set_option maxHeartbeats 40000000 in
theorem rmSa2 (l : Launch) (Z : State) (a0 : Array Value) (hw : ∀ d ∈ tables_1, d.before a0 Z = true) (c0 c1 : Int32) (a1 : Addr) (a2 : Addr) (h0 : Heap) (O0 : Ext Z.heap h0) (Y1 : Ary Z h0 a1 .char [(.int c0), (.int c1)]) (Y2 : Ary Z h0 a2 .byte [(.int (0 : Int32)), (.int (0 : Int32))]) (ne : a1 ≠ a2) (fr2 : Z.heap.size ≤ a2) :
    Ctr l Z (⟨"java/lang/StringUTF16", "compress", "([CI[BII)I"⟩ : MethodName) jdk_52_method_21_code 7 (some .int) [] ({ frames := 0, cells := 0, slots := 0, locals := 0 } : Room) #[(.ref a1), (.int (0 : Int32)), (.ref a2), (.int (0 : Int32)), (.int (2 : Int32))] h0 (fun v h L => ∃ r : Int32, v = some (.int r) ∧ Fr Z.heap.size L ∧ Keep h0 h [a2] ∧ ((r = (2 : Int32) ∧ (¬ (255 : Int32) < c0 ∧ ¬ (255 : Int32) < c1) ∧ Ary Z h a2 .byte [(.int (c0.toInt8.toInt32)), (.int (c1.toInt8.toInt32))]) ∨ (r = (0 : Int32) ∧ (255 : Int32) < c0) ∨ (r = (1 : Int32) ∧ (255 : Int32) < c1))) := by
  refine ctr (plainFor_of_name pn_4) ?_
  intro p e s m below meth c s₁ hx hby hml hown hnm hret hlocks hZ X0 e0
  have N0 := Fr.nil Z.heap.size
  have hsz : ∀ {Ls : Array Slot}, Ls.size = 7 → Ls.size = c.maxLocals := fun q => q.trans hml.symm
  have K0 := Keep.refl h0 [a2]
  refine goE (ef_rmSa2 m (a1) ((0 : Int32)) (a2) ((0 : Int32)) ((2 : Int32))) ?_
  show Goes p e below _ (s₁.setTop (mkF m 0 #[.val (.ref a1), .val (.int (0 : Int32)), .val (.ref a2), .val (.int (0 : Int32)), .val (.int (2 : Int32)), .unset, .unset] []))
  refine gIconst X0 hx (hb hby d_jdk_52_method_21_0) (v := (0 : Int32)) rfl ?_
  refine gIstore X0 hx (hb hby d_jdk_52_method_21_1) (l' := #[.val (.ref a1), .val (.int (0 : Int32)), .val (.ref a2), .val (.int (0 : Int32)), .val (.int (2 : Int32)), .val (.int (0 : Int32)), .unset]) rfl ?_
  refine gIload X0 hx (hb hby d_jdk_52_method_21_3) rfl ?_
  refine gIload X0 hx (hb hby d_jdk_52_method_21_5) rfl ?_
  refine gIcmpN X0 hx (hb hby d_jdk_52_method_21_7) (XT.ii_ge_f (by decide)) ?_
  show Goes p e below _ (s₁.setTop (mkF m 10 #[.val (.ref a1), .val (.int (0 : Int32)), .val (.ref a2), .val (.int (0 : Int32)), .val (.int (2 : Int32)), .val (.int (0 : Int32)), .unset] []))
  refine gAloadN X0 hx (hb hby d_jdk_52_method_21_10) rfl rfl ?_
  refine gIloadN X0 hx (hb hby d_jdk_52_method_21_11) rfl ?_
  refine goCaload X0 hx hZ e0 Y1 (x := c0) (hb hby d_jdk_52_method_21_12) (by decide) rfl ?_
  refine gIstore X0 hx (hb hby d_jdk_52_method_21_13) (l' := #[.val (.ref a1), .val (.int (0 : Int32)), .val (.ref a2), .val (.int (0 : Int32)), .val (.int (2 : Int32)), .val (.int (0 : Int32)), .val (.int c0)]) rfl ?_
  refine gIload X0 hx (hb hby d_jdk_52_method_21_15) rfl ?_
  refine gSipush X0 hx (hb hby d_jdk_52_method_21_17) (v := (255 : Int32)) rfl ?_
  by_cases o0 : (255 : Int32) < c0
  · refine gIcmpN X0 hx (hb hby d_jdk_52_method_21_20) (XT.ii_le_f o0) ?_
    show Goes p e below _ (s₁.setTop (mkF m 23 #[.val (.ref a1), .val (.int (0 : Int32)), .val (.ref a2), .val (.int (0 : Int32)), .val (.int (2 : Int32)), .val (.int (0 : Int32)), .val (.int c0)] []))
    refine gIload X0 hx (hb hby d_jdk_52_method_21_23) rfl ?_
    exact goRetI X0 hx hret hlocks (hb hby d_jdk_52_method_21_25) (by decide) (by decide) e0 (⟨_, rfl, N0, K0, (Or.inr (Or.inl ⟨rfl, o0⟩))⟩)
  · refine gIcmpY X0 hx (hb hby d_jdk_52_method_21_20) (pc' := 26) (XT.ii_le_t o0) (by decide) (by decide) ?_
    show Goes p e below _ (s₁.setTop (mkF m 26 #[.val (.ref a1), .val (.int (0 : Int32)), .val (.ref a2), .val (.int (0 : Int32)), .val (.int (2 : Int32)), .val (.int (0 : Int32)), .val (.int c0)] []))
    refine gAloadN X0 hx (hb hby d_jdk_52_method_21_26) rfl rfl ?_
    refine gIloadN X0 hx (hb hby d_jdk_52_method_21_27) rfl ?_
    refine gIload X0 hx (hb hby d_jdk_52_method_21_28) rfl ?_
    refine gI2b X0 hx (hb hby d_jdk_52_method_21_30) ?_
    refine goBastore X0 hx hZ e0 Y2 (hb hby d_jdk_52_method_21_31) (by decide) rfl (fun Tt1 ht1 Xt1 et1 Wt1 => ?_)
    have N2 := Fr.snoc Xt1 N0 fr2
    replace Y2 : Ary Z ht1 a2 .byte [(.int (c0.toInt8.toInt32)), (.int (0 : Int32))] := Y2.set Wt1 (by rw [narb]; rfl)
    replace Y1 := Y1.other Wt1 ne
    have O3 : Ext Z.heap ht1 := extW O0 Wt1 fr2
    have K4 := K0.wr Wt1 (Or.inl (by simp))
    show Goes p e below _ (Tt1.setTop (mkF m 32 #[.val (.ref a1), .val (.int (0 : Int32)), .val (.ref a2), .val (.int (0 : Int32)), .val (.int (2 : Int32)), .val (.int (0 : Int32)), .val (.int c0)] []))
    refine gIinc Xt1 hx (hb hby d_jdk_52_method_21_32) (v := (1 : Int32)) rfl rfl (l' := #[.val (.ref a1), .val (.int (1 : Int32)), .val (.ref a2), .val (.int (0 : Int32)), .val (.int (2 : Int32)), .val (.int (0 : Int32)), .val (.int c0)]) rfl ?_
    refine gIinc Xt1 hx (hb hby d_jdk_52_method_21_35) (v := (1 : Int32)) rfl rfl (l' := #[.val (.ref a1), .val (.int (1 : Int32)), .val (.ref a2), .val (.int (1 : Int32)), .val (.int (2 : Int32)), .val (.int (0 : Int32)), .val (.int c0)]) rfl ?_
    refine gIinc Xt1 hx (hb hby d_jdk_52_method_21_38) (v := (1 : Int32)) rfl rfl (l' := #[.val (.ref a1), .val (.int (1 : Int32)), .val (.ref a2), .val (.int (1 : Int32)), .val (.int (2 : Int32)), .val (.int (1 : Int32)), .val (.int c0)]) rfl ?_
    refine gGoto Xt1 hx (hb hby d_jdk_52_method_21_41) (pc' := 3) (by decide) (by decide) ?_
    show Goes p e below _ (Tt1.setTop (mkF m 3 #[.val (.ref a1), .val (.int (1 : Int32)), .val (.ref a2), .val (.int (1 : Int32)), .val (.int (2 : Int32)), .val (.int (1 : Int32)), .val (.int c0)] []))
    refine gIload Xt1 hx (hb hby d_jdk_52_method_21_3) rfl ?_
    refine gIload Xt1 hx (hb hby d_jdk_52_method_21_5) rfl ?_
    refine gIcmpN Xt1 hx (hb hby d_jdk_52_method_21_7) (XT.ii_ge_f (by decide)) ?_
    show Goes p e below _ (Tt1.setTop (mkF m 10 #[.val (.ref a1), .val (.int (1 : Int32)), .val (.ref a2), .val (.int (1 : Int32)), .val (.int (2 : Int32)), .val (.int (1 : Int32)), .val (.int c0)] []))
    refine gAloadN Xt1 hx (hb hby d_jdk_52_method_21_10) rfl rfl ?_
    refine gIloadN Xt1 hx (hb hby d_jdk_52_method_21_11) rfl ?_
    refine goCaload Xt1 hx hZ et1 Y1 (x := c1) (hb hby d_jdk_52_method_21_12) (by decide) rfl ?_
    refine gIstore Xt1 hx (hb hby d_jdk_52_method_21_13) (l' := #[.val (.ref a1), .val (.int (1 : Int32)), .val (.ref a2), .val (.int (1 : Int32)), .val (.int (2 : Int32)), .val (.int (1 : Int32)), .val (.int c1)]) rfl ?_
    refine gIload Xt1 hx (hb hby d_jdk_52_method_21_15) rfl ?_
    refine gSipush Xt1 hx (hb hby d_jdk_52_method_21_17) (v := (255 : Int32)) rfl ?_
    by_cases o1 : (255 : Int32) < c1
    · refine gIcmpN Xt1 hx (hb hby d_jdk_52_method_21_20) (XT.ii_le_f o1) ?_
      show Goes p e below _ (Tt1.setTop (mkF m 23 #[.val (.ref a1), .val (.int (1 : Int32)), .val (.ref a2), .val (.int (1 : Int32)), .val (.int (2 : Int32)), .val (.int (1 : Int32)), .val (.int c1)] []))
      refine gIload Xt1 hx (hb hby d_jdk_52_method_21_23) rfl ?_
      exact goRetI Xt1 hx hret hlocks (hb hby d_jdk_52_method_21_25) (by decide) (by decide) et1 (⟨_, rfl, N2, K4, (Or.inr (Or.inr ⟨rfl, o1⟩))⟩)
    · refine gIcmpY Xt1 hx (hb hby d_jdk_52_method_21_20) (pc' := 26) (XT.ii_le_t o1) (by decide) (by decide) ?_
      show Goes p e below _ (Tt1.setTop (mkF m 26 #[.val (.ref a1), .val (.int (1 : Int32)), .val (.ref a2), .val (.int (1 : Int32)), .val (.int (2 : Int32)), .val (.int (1 : Int32)), .val (.int c1)] []))
      refine gAloadN Xt1 hx (hb hby d_jdk_52_method_21_26) rfl rfl ?_
      refine gIloadN Xt1 hx (hb hby d_jdk_52_method_21_27) rfl ?_
      refine gIload Xt1 hx (hb hby d_jdk_52_method_21_28) rfl ?_
      refine gI2b Xt1 hx (hb hby d_jdk_52_method_21_30) ?_
      refine goBastore Xt1 hx hZ et1 Y2 (hb hby d_jdk_52_method_21_31) (by decide) rfl (fun Tt5 ht5 Xt5 et5 Wt5 => ?_)
      have N6 := Fr.snoc Xt5 N2 fr2
      replace Y2 : Ary Z ht5 a2 .byte [(.int (c0.toInt8.toInt32)), (.int (c1.toInt8.toInt32))] := Y2.set Wt5 (by rw [narb]; rfl)
      replace Y1 := Y1.other Wt5 ne
      have O7 : Ext Z.heap ht5 := extW O3 Wt5 fr2
      have K8 := K4.wr Wt5 (Or.inl (by simp))
      show Goes p e below _ (Tt5.setTop (mkF m 32 #[.val (.ref a1), .val (.int (1 : Int32)), .val (.ref a2), .val (.int (1 : Int32)), .val (.int (2 : Int32)), .val (.int (1 : Int32)), .val (.int c1)] []))
      refine gIinc Xt5 hx (hb hby d_jdk_52_method_21_32) (v := (2 : Int32)) rfl rfl (l' := #[.val (.ref a1), .val (.int (2 : Int32)), .val (.ref a2), .val (.int (1 : Int32)), .val (.int (2 : Int32)), .val (.int (1 : Int32)), .val (.int c1)]) rfl ?_
      refine gIinc Xt5 hx (hb hby d_jdk_52_method_21_35) (v := (2 : Int32)) rfl rfl (l' := #[.val (.ref a1), .val (.int (2 : Int32)), .val (.ref a2), .val (.int (2 : Int32)), .val (.int (2 : Int32)), .val (.int (1 : Int32)), .val (.int c1)]) rfl ?_
      refine gIinc Xt5 hx (hb hby d_jdk_52_method_21_38) (v := (2 : Int32)) rfl rfl (l' := #[.val (.ref a1), .val (.int (2 : Int32)), .val (.ref a2), .val (.int (2 : Int32)), .val (.int (2 : Int32)), .val (.int (2 : Int32)), .val (.int c1)]) rfl ?_
      refine gGoto Xt5 hx (hb hby d_jdk_52_method_21_41) (pc' := 3) (by decide) (by decide) ?_
      show Goes p e below _ (Tt5.setTop (mkF m 3 #[.val (.ref a1), .val (.int (2 : Int32)), .val (.ref a2), .val (.int (2 : Int32)), .val (.int (2 : Int32)), .val (.int (2 : Int32)), .val (.int c1)] []))
      refine gIload Xt5 hx (hb hby d_jdk_52_method_21_3) rfl ?_
      refine gIload Xt5 hx (hb hby d_jdk_52_method_21_5) rfl ?_
      refine gIcmpY Xt5 hx (hb hby d_jdk_52_method_21_7) (pc' := 44) (XT.ii_ge_t (by decide)) (by decide) (by decide) ?_
      show Goes p e below _ (Tt5.setTop (mkF m 44 #[.val (.ref a1), .val (.int (2 : Int32)), .val (.ref a2), .val (.int (2 : Int32)), .val (.int (2 : Int32)), .val (.int (2 : Int32)), .val (.int c1)] []))
      refine gIload Xt5 hx (hb hby d_jdk_52_method_21_44) rfl ?_
      exact goRetI Xt5 hx hret hlocks (hb hby d_jdk_52_method_21_46) (by decide) (by decide) et5 (⟨_, rfl, N6, K8, Or.inl ⟨rfl, ⟨o0, o1⟩, Y2⟩⟩)
theorem ef_rmNl2 (m : MethodId) (x0 : Int32) : entryFrame m #[(.int x0)] 1 = mkF m 0 #[.val (.int x0)] [] := by first | (simp [entryFrame, mkF, argsToLocals, Value.category]; done) | rfl
set_option maxRecDepth 65536 in
set_option maxHeartbeats 40000000 in
theorem rmNl2 (l : Launch) (Z : State) (a0 : Array Value) (hw : ∀ d ∈ tables_1, d.before a0 Z = true)   (h0 : Heap) (O0 : Ext Z.heap h0)  :
    Ctr l Z (⟨"java/lang/StringUTF16", "newBytesLength", "(I)I"⟩ : MethodName) jdk_52_method_3_code 1 (some .int) [] ({ frames := 0, cells := 0, slots := 0, locals := 0 } : Room) #[(.int (2 : Int32))] h0 (fun v h L => v = some (.int (4 : Int32)) ∧ Fr Z.heap.size L ∧ h = h0) := by
  refine ctr (plainFor_of_name pn_4) ?_
  intro p e s m below meth c s₁ hx hby hml hown hnm hret hlocks hZ X0 e0
  have N0 := Fr.nil Z.heap.size
  have hsz : ∀ {Ls : Array Slot}, Ls.size = 1 → Ls.size = c.maxLocals := fun q => q.trans hml.symm
  refine goE (ef_rmNl2 m ((2 : Int32))) ?_
  show Goes p e below _ (s₁.setTop (mkF m 0 #[.val (.int (2 : Int32))] []))
  refine gIloadN X0 hx (hb hby d_jdk_52_method_3_0) rfl ?_
  refine gIfY X0 hx (hb hby d_jdk_52_method_3_1) (pc' := 12) (XT.i0_ge_t (by decide)) (by decide) (by decide) ?_
  show Goes p e below _ (s₁.setTop (mkF m 12 #[.val (.int (2 : Int32))] []))
  refine gIloadN X0 hx (hb hby d_jdk_52_method_3_12) rfl ?_
  refine gLdcI X0 hx hZ hown (hw _ (List.mem_of_getElem? (i := 126) rfl)) (hb hby d_jdk_52_method_3_13) ?_
  refine gIcmpY X0 hx (hb hby d_jdk_52_method_3_15) (pc' := 55) (XT.ii_lt_t (by decide)) (by decide) (by decide) ?_
  show Goes p e below _ (s₁.setTop (mkF m 55 #[.val (.int (2 : Int32))] []))
  refine gIloadN X0 hx (hb hby d_jdk_52_method_3_55) rfl ?_
  refine gIconst X0 hx (hb hby d_jdk_52_method_3_56) (v := (1 : Int32)) rfl ?_
  refine gIshl X0 hx (hb hby d_jdk_52_method_3_57) ?_
  exact goRetI X0 hx hret hlocks (hb hby d_jdk_52_method_3_58) (by decide) (by decide) e0 (⟨congrArg (fun z => some (Value.int z)) (by decide), N0, rfl⟩)
theorem ef_rmNf2 (m : MethodId) (x0 : Int32) : entryFrame m #[(.int x0)] 1 = mkF m 0 #[.val (.int x0)] [] := by first | (simp [entryFrame, mkF, argsToLocals, Value.category]; done) | rfl
set_option maxRecDepth 65536 in
set_option maxHeartbeats 40000000 in
theorem rmNf2 (l : Launch) (Z : State) (a0 : Array Value) (hw : ∀ d ∈ tables_1, d.before a0 Z = true)   (h0 : Heap) (O0 : Ext Z.heap h0)  :
    Ctr l Z (⟨"java/lang/StringUTF16", "newBytesFor", "(I)[B"⟩ : MethodName) jdk_52_method_2_code 1 (some (.array .byte)) [] ({ frames := 1, cells := 1, slots := 4, locals := 12 } : Room) #[(.int (2 : Int32))] h0 (fun v h L => ∃ u, v = some (.ref u) ∧ Fr Z.heap.size L ∧ Keep h0 h [] ∧ h0.size ≤ u ∧ Ary Z h u .byte [(.int (0 : Int32)), (.int (0 : Int32)), (.int (0 : Int32)), (.int (0 : Int32))]) := by
  refine ctr (plainFor_of_name pn_4) ?_
  intro p e s m below meth c s₁ hx hby hml hown hnm hret hlocks hZ X0 e0
  have N0 := Fr.nil Z.heap.size
  have hsz : ∀ {Ls : Array Slot}, Ls.size = 1 → Ls.size = c.maxLocals := fun q => q.trans hml.symm
  have K0 := Keep.refl h0 []
  refine goE (ef_rmNf2 m ((2 : Int32))) ?_
  show Goes p e below _ (s₁.setTop (mkF m 0 #[.val (.int (2 : Int32))] []))
  refine gIloadN X0 hx (hb hby d_jdk_52_method_2_0) rfl ?_
  refine goCallS X0 hx hZ hown (hw _ (List.mem_of_getElem? (i := 123) rfl)) (hw _ (List.mem_of_getElem? (i := 124) rfl)) (hw _ (List.mem_of_getElem? (i := 42) rfl)) (hw _ (List.mem_of_getElem? (i := 125) rfl)) (by decide) (rmNl2 l Z a0 hw h0 O0) 0 (by decide) (by decide) e0 (hsz rfl) [(.int (2 : Int32))] [] pd_6 rfl rfl rfl (Nat.le_of_eq rfl) (hb hby d_jdk_52_method_2_1) (by decide) (by decide) (fun Tt1 vt1 Lt1 Xt1 qt1 => ?_)
  obtain ⟨rfl, N2, et1⟩ := qt1
  have N3 := Fr.app N0 N2
  show Goes p e below _ (Tt1.setTop (mkF m 4 #[.val (.int (2 : Int32))] [(.int (4 : Int32))]))
  obtain ⟨Tt4, ht4, kt4, Xt4, et4, Et4, At4, stt4⟩ := newP Xt1 hx hZ (hw _ (List.mem_of_getElem? (i := 23) rfl)) et1 (g := (mkF m 4 #[.val (.int (2 : Int32))] [(.int (4 : Int32))])) rfl (hb hby d_jdk_52_method_2_4) rfl (by decide) (cap := 4) (by decide) (by decide) (by decide) (by decide)
  obtain ⟨ob5, gob5⟩ : ∃ z, z = h0.size := ⟨_, rfl⟩
  rw [← gob5] at At4 stt4
  refine go stt4 ?_
  have fr_ob5 : Z.heap.size ≤ ob5 := gob5 ▸ O0.1
  have pa_ob5 : h0.size ≤ ob5 := gob5 ▸ K0.1
  have O6 : Ext Z.heap ht4 := extT O0 Et4
  have K7 := K0.ext Et4
  have Y_ob5 : Ary Z ht4 ob5 .byte [(.int (0 : Int32)), (.int (0 : Int32)), (.int (0 : Int32)), (.int (0 : Int32))] := Ary.new At4 rfl (by decide)
  show Goes p e below _ (Tt4.setTop (mkF m 6 #[.val (.int (2 : Int32))] [(.ref ob5)]))
  exact goRetA Xt4 hx hret hlocks rfl rfl (hb hby d_jdk_52_method_2_6) (by decide) (by decide) et4 (⟨ob5, rfl, N3, K7, pa_ob5, Y_ob5⟩)
theorem ef_rmPc20 (m : MethodId) (x0 : Addr) (x1 : Int32) (x2 : Int32) : entryFrame m #[(.ref x0), (.int x1), (.int x2)] 3 = mkF m 0 #[.val (.ref x0), .val (.int x1), .val (.int x2)] [] := by first | (simp [entryFrame, mkF, argsToLocals, Value.category]; done) | rfl
set_option maxRecDepth 65536 in
set_option maxHeartbeats 40000000 in
theorem rmPc20 (l : Launch) (Z : State) (a0 : Array Value) (hw : ∀ d ∈ tables_1, d.before a0 Z = true) (y0 y1 y2 y3 : Int32) (a1 : Addr) (c0 : Int32) (h0 : Heap) (O0 : Ext Z.heap h0) (S_ua : Sta Z Z.heap "java/lang/StringUTF16" "$assertionsDisabled" "Z" (.int (1 : Int32))) (S_uh : Sta Z Z.heap "java/lang/StringUTF16" "HI_BYTE_SHIFT" "I" (.int (0 : Int32))) (S_ul : Sta Z Z.heap "java/lang/StringUTF16" "LO_BYTE_SHIFT" "I" (.int (8 : Int32))) (Y1 : Ary Z h0 a1 .byte [(.int y0), (.int y1), (.int y2), (.int y3)]) (fr1 : Z.heap.size ≤ a1) :
    Ctr l Z (⟨"java/lang/StringUTF16", "putChar", "([BII)V"⟩ : MethodName) jdk_52_method_4_code 3 none [] ({ frames := 0, cells := 0, slots := 0, locals := 0 } : Room) #[(.ref a1), (.int (0 : Int32)), (.int c0)] h0 (fun v h L => v = none ∧ Fr Z.heap.size L ∧ Keep h0 h [a1] ∧ Ary Z h a1 .byte [(.int ((c0 >>> ((0 : Int32) &&& 31)).toInt8.toInt32)), (.int ((c0 >>> ((8 : Int32) &&& 31)).toInt8.toInt32)), (.int y2), (.int y3)]) := by
  refine ctr (plainFor_of_name pn_4) ?_
  intro p e s m below meth c s₁ hx hby hml hown hnm hret hlocks hZ X0 e0
  have N0 := Fr.nil Z.heap.size
  have hsz : ∀ {Ls : Array Slot}, Ls.size = 3 → Ls.size = c.maxLocals := fun q => q.trans hml.symm
  have K0 := Keep.refl h0 [a1]
  refine goE (ef_rmPc20 m (a1) ((0 : Int32)) (c0)) ?_
  show Goes p e below _ (s₁.setTop (mkF m 0 #[.val (.ref a1), .val (.int (0 : Int32)), .val (.int c0)] []))
  obtain ⟨Tt1, Xt1, et1, stt1⟩ := getS2 X0 hx hZ hown (host := "") (Or.inl (hw _ (List.mem_of_getElem? (i := 130) rfl))) Via.refl e0 (S_ua.ext O0) (g := (mkF m 0 #[.val (.ref a1), .val (.int (0 : Int32)), .val (.int c0)] [])) rfl (hb hby d_jdk_52_method_4_0)
  refine go stt1 ?_
  show Goes p e below _ (Tt1.setTop (mkF m 3 #[.val (.ref a1), .val (.int (0 : Int32)), .val (.int c0)] [(.int (1 : Int32))]))
  refine gIfY Xt1 hx (hb hby d_jdk_52_method_4_3) (pc' := 28) (XT.i0_ne_t (by decide)) (by decide) (by decide) ?_
  show Goes p e below _ (Tt1.setTop (mkF m 28 #[.val (.ref a1), .val (.int (0 : Int32)), .val (.int c0)] []))
  refine gIloadN Xt1 hx (hb hby d_jdk_52_method_4_28) rfl ?_
  refine gIconst Xt1 hx (hb hby d_jdk_52_method_4_29) (v := (1 : Int32)) rfl ?_
  refine gIshl Xt1 hx (hb hby d_jdk_52_method_4_30) ?_
  show Goes p e below _ (Tt1.setTop (mkF m 31 #[.val (.ref a1), .val (.int (0 : Int32)), .val (.int c0)] [(.int ((0 : Int32) <<< ((1 : Int32) &&& 31)))]))
  rw [show ((0 : Int32) <<< ((1 : Int32) &&& 31)) = (0 : Int32) from by decide]
  show Goes p e below _ (Tt1.setTop (mkF m 31 #[.val (.ref a1), .val (.int (0 : Int32)), .val (.int c0)] [(.int (0 : Int32))]))
  refine gIstoreN Xt1 hx (hb hby d_jdk_52_method_4_31) (l' := #[.val (.ref a1), .val (.int (0 : Int32)), .val (.int c0)]) rfl ?_
  refine gAloadN Xt1 hx (hb hby d_jdk_52_method_4_32) rfl rfl ?_
  refine gIloadN Xt1 hx (hb hby d_jdk_52_method_4_33) rfl ?_
  refine gIinc Xt1 hx (hb hby d_jdk_52_method_4_34) (v := (1 : Int32)) rfl rfl (l' := #[.val (.ref a1), .val (.int (1 : Int32)), .val (.int c0)]) rfl ?_
  refine gIloadN Xt1 hx (hb hby d_jdk_52_method_4_37) rfl ?_
  obtain ⟨Tt2, Xt2, et2, stt2⟩ := getS2 Xt1 hx hZ hown (host := "") (Or.inl (hw _ (List.mem_of_getElem? (i := 131) rfl))) Via.refl et1 (S_uh.ext O0) (g := (mkF m 38 #[.val (.ref a1), .val (.int (1 : Int32)), .val (.int c0)] [(.int c0), (.int (0 : Int32)), (.ref a1)])) rfl (hb hby d_jdk_52_method_4_38)
  refine go stt2 ?_
  show Goes p e below _ (Tt2.setTop (mkF m 41 #[.val (.ref a1), .val (.int (1 : Int32)), .val (.int c0)] [(.int (0 : Int32)), (.int c0), (.int (0 : Int32)), (.ref a1)]))
  refine gIshr Xt2 hx (hb hby d_jdk_52_method_4_41) ?_
  refine gI2b Xt2 hx (hb hby d_jdk_52_method_4_42) ?_
  refine goBastore Xt2 hx hZ et2 Y1 (hb hby d_jdk_52_method_4_43) (by decide) rfl (fun Tt3 ht3 Xt3 et3 Wt3 => ?_)
  have N4 := Fr.snoc Xt3 N0 fr1
  replace Y1 : Ary Z ht3 a1 .byte [(.int ((c0 >>> ((0 : Int32) &&& 31)).toInt8.toInt32)), (.int y1), (.int y2), (.int y3)] := Y1.set Wt3 (by rw [narb]; rfl)
  have O5 : Ext Z.heap ht3 := extW O0 Wt3 fr1
  have K6 := K0.wr Wt3 (Or.inl (by simp))
  show Goes p e below _ (Tt3.setTop (mkF m 44 #[.val (.ref a1), .val (.int (1 : Int32)), .val (.int c0)] []))
  refine gAloadN Xt3 hx (hb hby d_jdk_52_method_4_44) rfl rfl ?_
  refine gIloadN Xt3 hx (hb hby d_jdk_52_method_4_45) rfl ?_
  refine gIloadN Xt3 hx (hb hby d_jdk_52_method_4_46) rfl ?_
  obtain ⟨Tt7, Xt7, et7, stt7⟩ := getS2 Xt3 hx hZ hown (host := "") (Or.inl (hw _ (List.mem_of_getElem? (i := 132) rfl))) Via.refl et3 (S_ul.ext O5) (g := (mkF m 47 #[.val (.ref a1), .val (.int (1 : Int32)), .val (.int c0)] [(.int c0), (.int (1 : Int32)), (.ref a1)])) rfl (hb hby d_jdk_52_method_4_47)
  refine go stt7 ?_
  show Goes p e below _ (Tt7.setTop (mkF m 50 #[.val (.ref a1), .val (.int (1 : Int32)), .val (.int c0)] [(.int (8 : Int32)), (.int c0), (.int (1 : Int32)), (.ref a1)]))
  refine gIshr Xt7 hx (hb hby d_jdk_52_method_4_50) ?_
  refine gI2b Xt7 hx (hb hby d_jdk_52_method_4_51) ?_
  refine goBastore Xt7 hx hZ et7 Y1 (hb hby d_jdk_52_method_4_52) (by decide) rfl (fun Tt8 ht8 Xt8 et8 Wt8 => ?_)
  have N9 := Fr.snoc Xt8 N4 fr1
  replace Y1 : Ary Z ht8 a1 .byte [(.int ((c0 >>> ((0 : Int32) &&& 31)).toInt8.toInt32)), (.int ((c0 >>> ((8 : Int32) &&& 31)).toInt8.toInt32)), (.int y2), (.int y3)] := Y1.set Wt8 (by rw [narb]; rfl)
  have O10 : Ext Z.heap ht8 := extW O5 Wt8 fr1
  have K11 := K6.wr Wt8 (Or.inl (by simp))
  show Goes p e below _ (Tt8.setTop (mkF m 53 #[.val (.ref a1), .val (.int (1 : Int32)), .val (.int c0)] []))
  exact goRet0 Xt8 hx hret hlocks (hb hby d_jdk_52_method_4_53) (by decide) (by decide) et8 (⟨rfl, N9, K11, Y1⟩)
theorem ef_rmGc20 (m : MethodId) (x0 : Addr) (x1 : Int32) : entryFrame m #[(.ref x0), (.int x1)] 2 = mkF m 0 #[.val (.ref x0), .val (.int x1)] [] := by first | (simp [entryFrame, mkF, argsToLocals, Value.category]; done) | rfl
set_option maxRecDepth 65536 in
set_option maxHeartbeats 40000000 in
theorem rmGc20 (l : Launch) (Z : State) (a0 : Array Value) (hw : ∀ d ∈ tables_1, d.before a0 Z = true) (y0 y1 y2 y3 : Int32) (a1 : Addr) (h0 : Heap) (O0 : Ext Z.heap h0) (S_ua : Sta Z Z.heap "java/lang/StringUTF16" "$assertionsDisabled" "Z" (.int (1 : Int32))) (S_uh : Sta Z Z.heap "java/lang/StringUTF16" "HI_BYTE_SHIFT" "I" (.int (0 : Int32))) (S_ul : Sta Z Z.heap "java/lang/StringUTF16" "LO_BYTE_SHIFT" "I" (.int (8 : Int32))) (Y1 : Ary Z h0 a1 .byte [(.int y0), (.int y1), (.int y2), (.int y3)]) :
    Ctr l Z (⟨"java/lang/StringUTF16", "getChar", "([BI)C"⟩ : MethodName) jdk_52_method_5_code 2 (some .char) [] ({ frames := 0, cells := 0, slots := 0, locals := 0 } : Room) #[(.ref a1), (.int (0 : Int32))] h0 (fun v h L => v = some (.int (own_gc y0 y1)) ∧ Fr Z.heap.size L ∧ h = h0) := by
  refine ctr (plainFor_of_name pn_4) ?_
  intro p e s m below meth c s₁ hx hby hml hown hnm hret hlocks hZ X0 e0
  have N0 := Fr.nil Z.heap.size
  have hsz : ∀ {Ls : Array Slot}, Ls.size = 2 → Ls.size = c.maxLocals := fun q => q.trans hml.symm
  refine goE (ef_rmGc20 m (a1) ((0 : Int32))) ?_
  show Goes p e below _ (s₁.setTop (mkF m 0 #[.val (.ref a1), .val (.int (0 : Int32))] []))
  obtain ⟨Tt1, Xt1, et1, stt1⟩ := getS2 X0 hx hZ hown (host := "") (Or.inl (hw _ (List.mem_of_getElem? (i := 130) rfl))) Via.refl e0 (S_ua.ext O0) (g := (mkF m 0 #[.val (.ref a1), .val (.int (0 : Int32))] [])) rfl (hb hby d_jdk_52_method_5_0)
  refine go stt1 ?_
  show Goes p e below _ (Tt1.setTop (mkF m 3 #[.val (.ref a1), .val (.int (0 : Int32))] [(.int (1 : Int32))]))
  refine gIfY Xt1 hx (hb hby d_jdk_52_method_5_3) (pc' := 28) (XT.i0_ne_t (by decide)) (by decide) (by decide) ?_
  show Goes p e below _ (Tt1.setTop (mkF m 28 #[.val (.ref a1), .val (.int (0 : Int32))] []))
  refine gIloadN Xt1 hx (hb hby d_jdk_52_method_5_28) rfl ?_
  refine gIconst Xt1 hx (hb hby d_jdk_52_method_5_29) (v := (1 : Int32)) rfl ?_
  refine gIshl Xt1 hx (hb hby d_jdk_52_method_5_30) ?_
  show Goes p e below _ (Tt1.setTop (mkF m 31 #[.val (.ref a1), .val (.int (0 : Int32))] [(.int ((0 : Int32) <<< ((1 : Int32) &&& 31)))]))
  rw [show ((0 : Int32) <<< ((1 : Int32) &&& 31)) = (0 : Int32) from by decide]
  show Goes p e below _ (Tt1.setTop (mkF m 31 #[.val (.ref a1), .val (.int (0 : Int32))] [(.int (0 : Int32))]))
  refine gIstoreN Xt1 hx (hb hby d_jdk_52_method_5_31) (l' := #[.val (.ref a1), .val (.int (0 : Int32))]) rfl ?_
  refine gAloadN Xt1 hx (hb hby d_jdk_52_method_5_32) rfl rfl ?_
  refine gIloadN Xt1 hx (hb hby d_jdk_52_method_5_33) rfl ?_
  refine gIinc Xt1 hx (hb hby d_jdk_52_method_5_34) (v := (1 : Int32)) rfl rfl (l' := #[.val (.ref a1), .val (.int (1 : Int32))]) rfl ?_
  refine goBaload Xt1 hx hZ et1 Y1 (x := y0) (hb hby d_jdk_52_method_5_37) (by decide) rfl ?_
  refine gSipush Xt1 hx (hb hby d_jdk_52_method_5_38) (v := (255 : Int32)) rfl ?_
  refine gIand Xt1 hx (hb hby d_jdk_52_method_5_41) ?_
  show Goes p e below _ (Tt1.setTop (mkF m 42 #[.val (.ref a1), .val (.int (1 : Int32))] [(.int (y0 &&& (255 : Int32)))]))
  obtain ⟨Tt2, Xt2, et2, stt2⟩ := getS2 Xt1 hx hZ hown (host := "") (Or.inl (hw _ (List.mem_of_getElem? (i := 131) rfl))) Via.refl et1 (S_uh.ext O0) (g := (mkF m 42 #[.val (.ref a1), .val (.int (1 : Int32))] [(.int (y0 &&& (255 : Int32)))])) rfl (hb hby d_jdk_52_method_5_42)
  refine go stt2 ?_
  show Goes p e below _ (Tt2.setTop (mkF m 45 #[.val (.ref a1), .val (.int (1 : Int32))] [(.int (0 : Int32)), (.int (y0 &&& (255 : Int32)))]))
  refine gIshl Xt2 hx (hb hby d_jdk_52_method_5_45) ?_
  refine gAloadN Xt2 hx (hb hby d_jdk_52_method_5_46) rfl rfl ?_
  refine gIloadN Xt2 hx (hb hby d_jdk_52_method_5_47) rfl ?_
  refine goBaload Xt2 hx hZ et2 Y1 (x := y1) (hb hby d_jdk_52_method_5_48) (by decide) rfl ?_
  refine gSipush Xt2 hx (hb hby d_jdk_52_method_5_49) (v := (255 : Int32)) rfl ?_
  refine gIand Xt2 hx (hb hby d_jdk_52_method_5_52) ?_
  obtain ⟨Tt3, Xt3, et3, stt3⟩ := getS2 Xt2 hx hZ hown (host := "") (Or.inl (hw _ (List.mem_of_getElem? (i := 132) rfl))) Via.refl et2 (S_ul.ext O0) (g := (mkF m 53 #[.val (.ref a1), .val (.int (1 : Int32))] [(.int (y1 &&& (255 : Int32))), (.int ((y0 &&& (255 : Int32)) <<< ((0 : Int32) &&& 31)))])) rfl (hb hby d_jdk_52_method_5_53)
  refine go stt3 ?_
  show Goes p e below _ (Tt3.setTop (mkF m 56 #[.val (.ref a1), .val (.int (1 : Int32))] [(.int (8 : Int32)), (.int (y1 &&& (255 : Int32))), (.int ((y0 &&& (255 : Int32)) <<< ((0 : Int32) &&& 31)))]))
  refine gIshl Xt3 hx (hb hby d_jdk_52_method_5_56) ?_
  refine gIor Xt3 hx (hb hby d_jdk_52_method_5_57) ?_
  refine gI2c Xt3 hx (hb hby d_jdk_52_method_5_58) ?_
  exact goRetN Xt3 hx (t := .char) hret hlocks (by simp) (hb hby d_jdk_52_method_5_59) (z' := ((((y0 &&& (255 : Int32)) <<< ((0 : Int32) &&& 31)) ||| ((y1 &&& (255 : Int32)) <<< ((8 : Int32) &&& 31))).toUInt32.toUInt16.toUInt32.toInt32)) (narc _) (by decide) (by decide) et3 (⟨rfl, N0, rfl⟩)
theorem ef_rmPc21 (m : MethodId) (x0 : Addr) (x1 : Int32) (x2 : Int32) : entryFrame m #[(.ref x0), (.int x1), (.int x2)] 3 = mkF m 0 #[.val (.ref x0), .val (.int x1), .val (.int x2)] [] := by first | (simp [entryFrame, mkF, argsToLocals, Value.category]; done) | rfl
set_option maxRecDepth 65536 in
set_option maxHeartbeats 40000000 in
theorem rmPc21 (l : Launch) (Z : State) (a0 : Array Value) (hw : ∀ d ∈ tables_1, d.before a0 Z = true) (y0 y1 y2 y3 : Int32) (a1 : Addr) (c0 : Int32) (h0 : Heap) (O0 : Ext Z.heap h0) (S_ua : Sta Z Z.heap "java/lang/StringUTF16" "$assertionsDisabled" "Z" (.int (1 : Int32))) (S_uh : Sta Z Z.heap "java/lang/StringUTF16" "HI_BYTE_SHIFT" "I" (.int (0 : Int32))) (S_ul : Sta Z Z.heap "java/lang/StringUTF16" "LO_BYTE_SHIFT" "I" (.int (8 : Int32))) (Y1 : Ary Z h0 a1 .byte [(.int y0), (.int y1), (.int y2), (.int y3)]) (fr1 : Z.heap.size ≤ a1) :
    Ctr l Z (⟨"java/lang/StringUTF16", "putChar", "([BII)V"⟩ : MethodName) jdk_52_method_4_code 3 none [] ({ frames := 0, cells := 0, slots := 0, locals := 0 } : Room) #[(.ref a1), (.int (1 : Int32)), (.int c0)] h0 (fun v h L => v = none ∧ Fr Z.heap.size L ∧ Keep h0 h [a1] ∧ Ary Z h a1 .byte [(.int y0), (.int y1), (.int ((c0 >>> ((0 : Int32) &&& 31)).toInt8.toInt32)), (.int ((c0 >>> ((8 : Int32) &&& 31)).toInt8.toInt32))]) := by
  refine ctr (plainFor_of_name pn_4) ?_
  intro p e s m below meth c s₁ hx hby hml hown hnm hret hlocks hZ X0 e0
  have N0 := Fr.nil Z.heap.size
  have hsz : ∀ {Ls : Array Slot}, Ls.size = 3 → Ls.size = c.maxLocals := fun q => q.trans hml.symm
  have K0 := Keep.refl h0 [a1]
  refine goE (ef_rmPc21 m (a1) ((1 : Int32)) (c0)) ?_
  show Goes p e below _ (s₁.setTop (mkF m 0 #[.val (.ref a1), .val (.int (1 : Int32)), .val (.int c0)] []))
  obtain ⟨Tt1, Xt1, et1, stt1⟩ := getS2 X0 hx hZ hown (host := "") (Or.inl (hw _ (List.mem_of_getElem? (i := 130) rfl))) Via.refl e0 (S_ua.ext O0) (g := (mkF m 0 #[.val (.ref a1), .val (.int (1 : Int32)), .val (.int c0)] [])) rfl (hb hby d_jdk_52_method_4_0)
  refine go stt1 ?_
  show Goes p e below _ (Tt1.setTop (mkF m 3 #[.val (.ref a1), .val (.int (1 : Int32)), .val (.int c0)] [(.int (1 : Int32))]))
  refine gIfY Xt1 hx (hb hby d_jdk_52_method_4_3) (pc' := 28) (XT.i0_ne_t (by decide)) (by decide) (by decide) ?_
  show Goes p e below _ (Tt1.setTop (mkF m 28 #[.val (.ref a1), .val (.int (1 : Int32)), .val (.int c0)] []))
  refine gIloadN Xt1 hx (hb hby d_jdk_52_method_4_28) rfl ?_
  refine gIconst Xt1 hx (hb hby d_jdk_52_method_4_29) (v := (1 : Int32)) rfl ?_
  refine gIshl Xt1 hx (hb hby d_jdk_52_method_4_30) ?_
  show Goes p e below _ (Tt1.setTop (mkF m 31 #[.val (.ref a1), .val (.int (1 : Int32)), .val (.int c0)] [(.int ((1 : Int32) <<< ((1 : Int32) &&& 31)))]))
  rw [show ((1 : Int32) <<< ((1 : Int32) &&& 31)) = (2 : Int32) from by decide]
  show Goes p e below _ (Tt1.setTop (mkF m 31 #[.val (.ref a1), .val (.int (1 : Int32)), .val (.int c0)] [(.int (2 : Int32))]))
  refine gIstoreN Xt1 hx (hb hby d_jdk_52_method_4_31) (l' := #[.val (.ref a1), .val (.int (2 : Int32)), .val (.int c0)]) rfl ?_
  refine gAloadN Xt1 hx (hb hby d_jdk_52_method_4_32) rfl rfl ?_
  refine gIloadN Xt1 hx (hb hby d_jdk_52_method_4_33) rfl ?_
  refine gIinc Xt1 hx (hb hby d_jdk_52_method_4_34) (v := (3 : Int32)) rfl rfl (l' := #[.val (.ref a1), .val (.int (3 : Int32)), .val (.int c0)]) rfl ?_
  refine gIloadN Xt1 hx (hb hby d_jdk_52_method_4_37) rfl ?_
  obtain ⟨Tt2, Xt2, et2, stt2⟩ := getS2 Xt1 hx hZ hown (host := "") (Or.inl (hw _ (List.mem_of_getElem? (i := 131) rfl))) Via.refl et1 (S_uh.ext O0) (g := (mkF m 38 #[.val (.ref a1), .val (.int (3 : Int32)), .val (.int c0)] [(.int c0), (.int (2 : Int32)), (.ref a1)])) rfl (hb hby d_jdk_52_method_4_38)
  refine go stt2 ?_
  show Goes p e below _ (Tt2.setTop (mkF m 41 #[.val (.ref a1), .val (.int (3 : Int32)), .val (.int c0)] [(.int (0 : Int32)), (.int c0), (.int (2 : Int32)), (.ref a1)]))
  refine gIshr Xt2 hx (hb hby d_jdk_52_method_4_41) ?_
  refine gI2b Xt2 hx (hb hby d_jdk_52_method_4_42) ?_
  refine goBastore Xt2 hx hZ et2 Y1 (hb hby d_jdk_52_method_4_43) (by decide) rfl (fun Tt3 ht3 Xt3 et3 Wt3 => ?_)
  have N4 := Fr.snoc Xt3 N0 fr1
  replace Y1 : Ary Z ht3 a1 .byte [(.int y0), (.int y1), (.int ((c0 >>> ((0 : Int32) &&& 31)).toInt8.toInt32)), (.int y3)] := Y1.set Wt3 (by rw [narb]; rfl)
  have O5 : Ext Z.heap ht3 := extW O0 Wt3 fr1
  have K6 := K0.wr Wt3 (Or.inl (by simp))
  show Goes p e below _ (Tt3.setTop (mkF m 44 #[.val (.ref a1), .val (.int (3 : Int32)), .val (.int c0)] []))
  refine gAloadN Xt3 hx (hb hby d_jdk_52_method_4_44) rfl rfl ?_
  refine gIloadN Xt3 hx (hb hby d_jdk_52_method_4_45) rfl ?_
  refine gIloadN Xt3 hx (hb hby d_jdk_52_method_4_46) rfl ?_
  obtain ⟨Tt7, Xt7, et7, stt7⟩ := getS2 Xt3 hx hZ hown (host := "") (Or.inl (hw _ (List.mem_of_getElem? (i := 132) rfl))) Via.refl et3 (S_ul.ext O5) (g := (mkF m 47 #[.val (.ref a1), .val (.int (3 : Int32)), .val (.int c0)] [(.int c0), (.int (3 : Int32)), (.ref a1)])) rfl (hb hby d_jdk_52_method_4_47)
  refine go stt7 ?_
  show Goes p e below _ (Tt7.setTop (mkF m 50 #[.val (.ref a1), .val (.int (3 : Int32)), .val (.int c0)] [(.int (8 : Int32)), (.int c0), (.int (3 : Int32)), (.ref a1)]))
  refine gIshr Xt7 hx (hb hby d_jdk_52_method_4_50) ?_
  refine gI2b Xt7 hx (hb hby d_jdk_52_method_4_51) ?_
  refine goBastore Xt7 hx hZ et7 Y1 (hb hby d_jdk_52_method_4_52) (by decide) rfl (fun Tt8 ht8 Xt8 et8 Wt8 => ?_)
  have N9 := Fr.snoc Xt8 N4 fr1
  replace Y1 : Ary Z ht8 a1 .byte [(.int y0), (.int y1), (.int ((c0 >>> ((0 : Int32) &&& 31)).toInt8.toInt32)), (.int ((c0 >>> ((8 : Int32) &&& 31)).toInt8.toInt32))] := Y1.set Wt8 (by rw [narb]; rfl)
  have O10 : Ext Z.heap ht8 := extW O5 Wt8 fr1
  have K11 := K6.wr Wt8 (Or.inl (by simp))
  show Goes p e below _ (Tt8.setTop (mkF m 53 #[.val (.ref a1), .val (.int (3 : Int32)), .val (.int c0)] []))
  exact goRet0 Xt8 hx hret hlocks (hb hby d_jdk_52_method_4_53) (by decide) (by decide) et8 (⟨rfl, N9, K11, Y1⟩)
theorem ef_rmGc21 (m : MethodId) (x0 : Addr) (x1 : Int32) : entryFrame m #[(.ref x0), (.int x1)] 2 = mkF m 0 #[.val (.ref x0), .val (.int x1)] [] := by first | (simp [entryFrame, mkF, argsToLocals, Value.category]; done) | rfl
set_option maxRecDepth 65536 in
set_option maxHeartbeats 40000000 in
theorem rmGc21 (l : Launch) (Z : State) (a0 : Array Value) (hw : ∀ d ∈ tables_1, d.before a0 Z = true) (y0 y1 y2 y3 : Int32) (a1 : Addr) (h0 : Heap) (O0 : Ext Z.heap h0) (S_ua : Sta Z Z.heap "java/lang/StringUTF16" "$assertionsDisabled" "Z" (.int (1 : Int32))) (S_uh : Sta Z Z.heap "java/lang/StringUTF16" "HI_BYTE_SHIFT" "I" (.int (0 : Int32))) (S_ul : Sta Z Z.heap "java/lang/StringUTF16" "LO_BYTE_SHIFT" "I" (.int (8 : Int32))) (Y1 : Ary Z h0 a1 .byte [(.int y0), (.int y1), (.int y2), (.int y3)]) :
    Ctr l Z (⟨"java/lang/StringUTF16", "getChar", "([BI)C"⟩ : MethodName) jdk_52_method_5_code 2 (some .char) [] ({ frames := 0, cells := 0, slots := 0, locals := 0 } : Room) #[(.ref a1), (.int (1 : Int32))] h0 (fun v h L => v = some (.int (own_gc y2 y3)) ∧ Fr Z.heap.size L ∧ h = h0) := by
  refine ctr (plainFor_of_name pn_4) ?_
  intro p e s m below meth c s₁ hx hby hml hown hnm hret hlocks hZ X0 e0
  have N0 := Fr.nil Z.heap.size
  have hsz : ∀ {Ls : Array Slot}, Ls.size = 2 → Ls.size = c.maxLocals := fun q => q.trans hml.symm
  refine goE (ef_rmGc21 m (a1) ((1 : Int32))) ?_
  show Goes p e below _ (s₁.setTop (mkF m 0 #[.val (.ref a1), .val (.int (1 : Int32))] []))
  obtain ⟨Tt1, Xt1, et1, stt1⟩ := getS2 X0 hx hZ hown (host := "") (Or.inl (hw _ (List.mem_of_getElem? (i := 130) rfl))) Via.refl e0 (S_ua.ext O0) (g := (mkF m 0 #[.val (.ref a1), .val (.int (1 : Int32))] [])) rfl (hb hby d_jdk_52_method_5_0)
  refine go stt1 ?_
  show Goes p e below _ (Tt1.setTop (mkF m 3 #[.val (.ref a1), .val (.int (1 : Int32))] [(.int (1 : Int32))]))
  refine gIfY Xt1 hx (hb hby d_jdk_52_method_5_3) (pc' := 28) (XT.i0_ne_t (by decide)) (by decide) (by decide) ?_
  show Goes p e below _ (Tt1.setTop (mkF m 28 #[.val (.ref a1), .val (.int (1 : Int32))] []))
  refine gIloadN Xt1 hx (hb hby d_jdk_52_method_5_28) rfl ?_
  refine gIconst Xt1 hx (hb hby d_jdk_52_method_5_29) (v := (1 : Int32)) rfl ?_
  refine gIshl Xt1 hx (hb hby d_jdk_52_method_5_30) ?_
  show Goes p e below _ (Tt1.setTop (mkF m 31 #[.val (.ref a1), .val (.int (1 : Int32))] [(.int ((1 : Int32) <<< ((1 : Int32) &&& 31)))]))
  rw [show ((1 : Int32) <<< ((1 : Int32) &&& 31)) = (2 : Int32) from by decide]
  show Goes p e below _ (Tt1.setTop (mkF m 31 #[.val (.ref a1), .val (.int (1 : Int32))] [(.int (2 : Int32))]))
  refine gIstoreN Xt1 hx (hb hby d_jdk_52_method_5_31) (l' := #[.val (.ref a1), .val (.int (2 : Int32))]) rfl ?_
  refine gAloadN Xt1 hx (hb hby d_jdk_52_method_5_32) rfl rfl ?_
  refine gIloadN Xt1 hx (hb hby d_jdk_52_method_5_33) rfl ?_
  refine gIinc Xt1 hx (hb hby d_jdk_52_method_5_34) (v := (3 : Int32)) rfl rfl (l' := #[.val (.ref a1), .val (.int (3 : Int32))]) rfl ?_
  refine goBaload Xt1 hx hZ et1 Y1 (x := y2) (hb hby d_jdk_52_method_5_37) (by decide) rfl ?_
  refine gSipush Xt1 hx (hb hby d_jdk_52_method_5_38) (v := (255 : Int32)) rfl ?_
  refine gIand Xt1 hx (hb hby d_jdk_52_method_5_41) ?_
  show Goes p e below _ (Tt1.setTop (mkF m 42 #[.val (.ref a1), .val (.int (3 : Int32))] [(.int (y2 &&& (255 : Int32)))]))
  obtain ⟨Tt2, Xt2, et2, stt2⟩ := getS2 Xt1 hx hZ hown (host := "") (Or.inl (hw _ (List.mem_of_getElem? (i := 131) rfl))) Via.refl et1 (S_uh.ext O0) (g := (mkF m 42 #[.val (.ref a1), .val (.int (3 : Int32))] [(.int (y2 &&& (255 : Int32)))])) rfl (hb hby d_jdk_52_method_5_42)
  refine go stt2 ?_
  show Goes p e below _ (Tt2.setTop (mkF m 45 #[.val (.ref a1), .val (.int (3 : Int32))] [(.int (0 : Int32)), (.int (y2 &&& (255 : Int32)))]))
  refine gIshl Xt2 hx (hb hby d_jdk_52_method_5_45) ?_
  refine gAloadN Xt2 hx (hb hby d_jdk_52_method_5_46) rfl rfl ?_
  refine gIloadN Xt2 hx (hb hby d_jdk_52_method_5_47) rfl ?_
  refine goBaload Xt2 hx hZ et2 Y1 (x := y3) (hb hby d_jdk_52_method_5_48) (by decide) rfl ?_
  refine gSipush Xt2 hx (hb hby d_jdk_52_method_5_49) (v := (255 : Int32)) rfl ?_
  refine gIand Xt2 hx (hb hby d_jdk_52_method_5_52) ?_
  obtain ⟨Tt3, Xt3, et3, stt3⟩ := getS2 Xt2 hx hZ hown (host := "") (Or.inl (hw _ (List.mem_of_getElem? (i := 132) rfl))) Via.refl et2 (S_ul.ext O0) (g := (mkF m 53 #[.val (.ref a1), .val (.int (3 : Int32))] [(.int (y3 &&& (255 : Int32))), (.int ((y2 &&& (255 : Int32)) <<< ((0 : Int32) &&& 31)))])) rfl (hb hby d_jdk_52_method_5_53)
  refine go stt3 ?_
  show Goes p e below _ (Tt3.setTop (mkF m 56 #[.val (.ref a1), .val (.int (3 : Int32))] [(.int (8 : Int32)), (.int (y3 &&& (255 : Int32))), (.int ((y2 &&& (255 : Int32)) <<< ((0 : Int32) &&& 31)))]))
  refine gIshl Xt3 hx (hb hby d_jdk_52_method_5_56) ?_
  refine gIor Xt3 hx (hb hby d_jdk_52_method_5_57) ?_
  refine gI2c Xt3 hx (hb hby d_jdk_52_method_5_58) ?_
  exact goRetN Xt3 hx (t := .char) hret hlocks (by simp) (hb hby d_jdk_52_method_5_59) (z' := ((((y2 &&& (255 : Int32)) <<< ((0 : Int32) &&& 31)) ||| ((y3 &&& (255 : Int32)) <<< ((8 : Int32) &&& 31))).toUInt32.toUInt16.toUInt32.toInt32)) (narc _) (by decide) (by decide) et3 (⟨rfl, N0, rfl⟩)
theorem ef_rmTb2 (m : MethodId) (x0 : Addr) (x1 : Int32) (x2 : Int32) : entryFrame m #[(.ref x0), (.int x1), (.int x2)] 5 = mkF m 0 #[.val (.ref x0), .val (.int x1), .val (.int x2), .unset, .unset] [] := by first | (simp [entryFrame, mkF, argsToLocals, Value.category]; done) | rfl
set_option maxRecDepth 65536 in
set_option maxHeartbeats 40000000 in
theorem rmTb2 (l : Launch) (Z : State) (a0 : Array Value) (hw : ∀ d ∈ tables_1, d.before a0 Z = true) (c0 c1 : Int32) (a1 : Addr) (h0 : Heap) (O0 : Ext Z.heap h0) (S_ua : Sta Z Z.heap "java/lang/StringUTF16" "$assertionsDisabled" "Z" (.int (1 : Int32))) (S_uh : Sta Z Z.heap "java/lang/StringUTF16" "HI_BYTE_SHIFT" "I" (.int (0 : Int32))) (S_ul : Sta Z Z.heap "java/lang/StringUTF16" "LO_BYTE_SHIFT" "I" (.int (8 : Int32))) (Y1 : Ary Z h0 a1 .char [(.int c0), (.int c1)]) :
    Ctr l Z (⟨"java/lang/StringUTF16", "toBytes", "([CII)[B"⟩ : MethodName) jdk_52_method_14_code 5 (some (.array .byte)) [] ({ frames := 2, cells := 1, slots := 4, locals := 24 } : Room) #[(.ref a1), (.int (0 : Int32)), (.int (2 : Int32))] h0 (fun v h L => ∃ u, v = some (.ref u) ∧ Fr Z.heap.size L ∧ Keep h0 h [] ∧ h0.size ≤ u ∧ Ary Z h u .byte [(.int ((c0 >>> ((0 : Int32) &&& 31)).toInt8.toInt32)), (.int ((c0 >>> ((8 : Int32) &&& 31)).toInt8.toInt32)), (.int ((c1 >>> ((0 : Int32) &&& 31)).toInt8.toInt32)), (.int ((c1 >>> ((8 : Int32) &&& 31)).toInt8.toInt32))]) := by
  refine ctr (plainFor_of_name pn_4) ?_
  intro p e s m below meth c s₁ hx hby hml hown hnm hret hlocks hZ X0 e0
  have N0 := Fr.nil Z.heap.size
  have hsz : ∀ {Ls : Array Slot}, Ls.size = 5 → Ls.size = c.maxLocals := fun q => q.trans hml.symm
  have K0 := Keep.refl h0 []
  refine goE (ef_rmTb2 m (a1) ((0 : Int32)) ((2 : Int32))) ?_
  show Goes p e below _ (s₁.setTop (mkF m 0 #[.val (.ref a1), .val (.int (0 : Int32)), .val (.int (2 : Int32)), .unset, .unset] []))
  refine gIloadN X0 hx (hb hby d_jdk_52_method_14_0) rfl ?_
  have lt_a1_t1 := Y1.lt
  refine goCallS X0 hx hZ hown (hw _ (List.mem_of_getElem? (i := 120) rfl)) (hw _ (List.mem_of_getElem? (i := 121) rfl)) (hw _ (List.mem_of_getElem? (i := 42) rfl)) (hw _ (List.mem_of_getElem? (i := 122) rfl)) (by decide) (rmNf2 l Z a0 hw h0 O0) 0 (by decide) (by decide) e0 (hsz rfl) [(.int (2 : Int32))] [] pd_8 rfl rfl rfl (Nat.le_of_eq rfl) (hb hby d_jdk_52_method_14_1) (by decide) (by decide) (fun Tt1 vt1 Lt1 Xt1 qt1 => ?_)
  obtain ⟨ht1, et1⟩ : ∃ z, Tt1.heap = z := ⟨_, rfl⟩
  rw [et1] at qt1
  obtain ⟨u, rfl, N2, Kct1, pu, Yu⟩ := qt1
  have N3 := Fr.app N0 N2
  replace Y1 := Y1.keep Kct1 nin0
  have O4 : Ext Z.heap ht1 := extK O0 Kct1 all0
  have K5 := K0.trans Kct1 all0
  have ne_a1_u : a1 ≠ u := Nat.ne_of_lt (Nat.lt_of_lt_of_le lt_a1_t1 pu)
  have fr_u : Z.heap.size ≤ u := Nat.le_trans O0.1 pu
  have pa_u : h0.size ≤ u := Nat.le_trans K0.1 pu
  show Goes p e below _ (Tt1.setTop (mkF m 4 #[.val (.ref a1), .val (.int (0 : Int32)), .val (.int (2 : Int32)), .unset, .unset] [(.ref u)]))
  refine gAstoreN Xt1 hx (hb hby d_jdk_52_method_14_4) rfl (l' := #[.val (.ref a1), .val (.int (0 : Int32)), .val (.int (2 : Int32)), .val (.ref u), .unset]) rfl ?_
  refine gIconst Xt1 hx (hb hby d_jdk_52_method_14_5) (v := (0 : Int32)) rfl ?_
  refine gIstore Xt1 hx (hb hby d_jdk_52_method_14_6) (l' := #[.val (.ref a1), .val (.int (0 : Int32)), .val (.int (2 : Int32)), .val (.ref u), .val (.int (0 : Int32))]) rfl ?_
  refine gIload Xt1 hx (hb hby d_jdk_52_method_14_8) rfl ?_
  refine gIloadN Xt1 hx (hb hby d_jdk_52_method_14_10) rfl ?_
  refine gIcmpN Xt1 hx (hb hby d_jdk_52_method_14_11) (XT.ii_ge_f (by decide)) ?_
  show Goes p e below _ (Tt1.setTop (mkF m 14 #[.val (.ref a1), .val (.int (0 : Int32)), .val (.int (2 : Int32)), .val (.ref u), .val (.int (0 : Int32))] []))
  refine gAloadN Xt1 hx (hb hby d_jdk_52_method_14_14) rfl rfl ?_
  refine gIload Xt1 hx (hb hby d_jdk_52_method_14_15) rfl ?_
  refine gAloadN Xt1 hx (hb hby d_jdk_52_method_14_17) rfl rfl ?_
  refine gIloadN Xt1 hx (hb hby d_jdk_52_method_14_18) rfl ?_
  refine goCaload Xt1 hx hZ et1 Y1 (x := c0) (hb hby d_jdk_52_method_14_19) (by decide) rfl ?_
  refine goCallS Xt1 hx hZ hown (hw _ (List.mem_of_getElem? (i := 127) rfl)) (hw _ (List.mem_of_getElem? (i := 128) rfl)) (hw _ (List.mem_of_getElem? (i := 42) rfl)) (hw _ (List.mem_of_getElem? (i := 129) rfl)) (by decide) (rmPc20 l Z a0 hw (0 : Int32) (0 : Int32) (0 : Int32) (0 : Int32) u c0 ht1 O4 S_ua S_uh S_ul Yu fr_u) 0 (by decide) (by decide) et1 (hsz rfl) [(.ref u), (.int (0 : Int32)), (.int c0)] [] pd_9 rfl rfl rfl (Nat.le_of_eq rfl) (hb hby d_jdk_52_method_14_20) (by decide) (by decide) (fun Tt6 vt6 Lt6 Xt6 qt6 => ?_)
  obtain ⟨ht6, et6⟩ : ∃ z, Tt6.heap = z := ⟨_, rfl⟩
  rw [et6] at qt6
  obtain ⟨rfl, N7, Kct6, Yu⟩ := qt6
  have N8 := Fr.app N3 N7
  replace Y1 := Y1.keep Kct6 (ninS ne_a1_u nin0)
  have O9 : Ext Z.heap ht6 := extK O4 Kct6 (allS fr_u all0)
  have K10 := K5.trans Kct6 (allS (Or.inr pa_u) all0)
  show Goes p e below _ (Tt6.setTop (mkF m 23 #[.val (.ref a1), .val (.int (0 : Int32)), .val (.int (2 : Int32)), .val (.ref u), .val (.int (0 : Int32))] []))
  refine gIinc Xt6 hx (hb hby d_jdk_52_method_14_23) (v := (1 : Int32)) rfl rfl (l' := #[.val (.ref a1), .val (.int (1 : Int32)), .val (.int (2 : Int32)), .val (.ref u), .val (.int (0 : Int32))]) rfl ?_
  refine gIinc Xt6 hx (hb hby d_jdk_52_method_14_26) (v := (1 : Int32)) rfl rfl (l' := #[.val (.ref a1), .val (.int (1 : Int32)), .val (.int (2 : Int32)), .val (.ref u), .val (.int (1 : Int32))]) rfl ?_
  refine gGoto Xt6 hx (hb hby d_jdk_52_method_14_29) (pc' := 8) (by decide) (by decide) ?_
  show Goes p e below _ (Tt6.setTop (mkF m 8 #[.val (.ref a1), .val (.int (1 : Int32)), .val (.int (2 : Int32)), .val (.ref u), .val (.int (1 : Int32))] []))
  refine gIload Xt6 hx (hb hby d_jdk_52_method_14_8) rfl ?_
  refine gIloadN Xt6 hx (hb hby d_jdk_52_method_14_10) rfl ?_
  refine gIcmpN Xt6 hx (hb hby d_jdk_52_method_14_11) (XT.ii_ge_f (by decide)) ?_
  show Goes p e below _ (Tt6.setTop (mkF m 14 #[.val (.ref a1), .val (.int (1 : Int32)), .val (.int (2 : Int32)), .val (.ref u), .val (.int (1 : Int32))] []))
  refine gAloadN Xt6 hx (hb hby d_jdk_52_method_14_14) rfl rfl ?_
  refine gIload Xt6 hx (hb hby d_jdk_52_method_14_15) rfl ?_
  refine gAloadN Xt6 hx (hb hby d_jdk_52_method_14_17) rfl rfl ?_
  refine gIloadN Xt6 hx (hb hby d_jdk_52_method_14_18) rfl ?_
  refine goCaload Xt6 hx hZ et6 Y1 (x := c1) (hb hby d_jdk_52_method_14_19) (by decide) rfl ?_
  refine goCallS Xt6 hx hZ hown (hw _ (List.mem_of_getElem? (i := 127) rfl)) (hw _ (List.mem_of_getElem? (i := 128) rfl)) (hw _ (List.mem_of_getElem? (i := 42) rfl)) (hw _ (List.mem_of_getElem? (i := 129) rfl)) (by decide) (rmPc21 l Z a0 hw ((c0 >>> ((0 : Int32) &&& 31)).toInt8.toInt32) ((c0 >>> ((8 : Int32) &&& 31)).toInt8.toInt32) (0 : Int32) (0 : Int32) u c1 ht6 O9 S_ua S_uh S_ul Yu fr_u) 0 (by decide) (by decide) et6 (hsz rfl) [(.ref u), (.int (1 : Int32)), (.int c1)] [] pd_9 rfl rfl rfl (Nat.le_of_eq rfl) (hb hby d_jdk_52_method_14_20) (by decide) (by decide) (fun Tt11 vt11 Lt11 Xt11 qt11 => ?_)
  obtain ⟨ht11, et11⟩ : ∃ z, Tt11.heap = z := ⟨_, rfl⟩
  rw [et11] at qt11
  obtain ⟨rfl, N12, Kct11, Yu⟩ := qt11
  have N13 := Fr.app N8 N12
  replace Y1 := Y1.keep Kct11 (ninS ne_a1_u nin0)
  have O14 : Ext Z.heap ht11 := extK O9 Kct11 (allS fr_u all0)
  have K15 := K10.trans Kct11 (allS (Or.inr pa_u) all0)
  show Goes p e below _ (Tt11.setTop (mkF m 23 #[.val (.ref a1), .val (.int (1 : Int32)), .val (.int (2 : Int32)), .val (.ref u), .val (.int (1 : Int32))] []))
  refine gIinc Xt11 hx (hb hby d_jdk_52_method_14_23) (v := (2 : Int32)) rfl rfl (l' := #[.val (.ref a1), .val (.int (2 : Int32)), .val (.int (2 : Int32)), .val (.ref u), .val (.int (1 : Int32))]) rfl ?_
  refine gIinc Xt11 hx (hb hby d_jdk_52_method_14_26) (v := (2 : Int32)) rfl rfl (l' := #[.val (.ref a1), .val (.int (2 : Int32)), .val (.int (2 : Int32)), .val (.ref u), .val (.int (2 : Int32))]) rfl ?_
  refine gGoto Xt11 hx (hb hby d_jdk_52_method_14_29) (pc' := 8) (by decide) (by decide) ?_
  show Goes p e below _ (Tt11.setTop (mkF m 8 #[.val (.ref a1), .val (.int (2 : Int32)), .val (.int (2 : Int32)), .val (.ref u), .val (.int (2 : Int32))] []))
  refine gIload Xt11 hx (hb hby d_jdk_52_method_14_8) rfl ?_
  refine gIloadN Xt11 hx (hb hby d_jdk_52_method_14_10) rfl ?_
  refine gIcmpY Xt11 hx (hb hby d_jdk_52_method_14_11) (pc' := 32) (XT.ii_ge_t (by decide)) (by decide) (by decide) ?_
  show Goes p e below _ (Tt11.setTop (mkF m 32 #[.val (.ref a1), .val (.int (2 : Int32)), .val (.int (2 : Int32)), .val (.ref u), .val (.int (2 : Int32))] []))
  refine gAloadN Xt11 hx (hb hby d_jdk_52_method_14_32) rfl rfl ?_
  exact goRetA Xt11 hx hret hlocks rfl rfl (hb hby d_jdk_52_method_14_33) (by decide) (by decide) et11 (⟨u, rfl, N13, K15, pa_u, Yu⟩)
theorem ef_rmSb2 (m : MethodId) (x0 : Addr) (x1 : Int32) (x2 : Int32) : entryFrame m #[(.ref x0), (.int x1), (.int x2)] 6 = mkF m 0 #[.val (.ref x0), .val (.int x1), .val (.int x2), .unset, .unset, .unset] [] := by first | (simp [entryFrame, mkF, argsToLocals, Value.category]; done) | rfl
set_option maxRecDepth 65536 in
set_option maxHeartbeats 40000000 in
theorem rmSb2 (l : Launch) (Z : State) (a0 : Array Value) (hw : ∀ d ∈ tables_1, d.before a0 Z = true) (c0 c1 : Int32) (a1 : Addr) (h0 : Heap) (O0 : Ext Z.heap h0) (S_ua : Sta Z Z.heap "java/lang/StringUTF16" "$assertionsDisabled" "Z" (.int (1 : Int32))) (S_uh : Sta Z Z.heap "java/lang/StringUTF16" "HI_BYTE_SHIFT" "I" (.int (0 : Int32))) (S_ul : Sta Z Z.heap "java/lang/StringUTF16" "LO_BYTE_SHIFT" "I" (.int (8 : Int32))) (Y1 : Ary Z h0 a1 .char [(.int c0), (.int c1)]) (q0_0 : ¬ c0 < 0) (q1_0 : ¬ (65535 : Int32) < c0) (q0_1 : ¬ c1 < 0) (q1_1 : ¬ (65535 : Int32) < c1) :
    Ctr l Z (⟨"java/lang/StringUTF16", "compress", "([CII)[B"⟩ : MethodName) jdk_52_method_16_code 6 (some (.array .byte)) [] ({ frames := 3, cells := 2, slots := 6, locals := 40 } : Room) #[(.ref a1), (.int (0 : Int32)), (.int (2 : Int32))] h0 (fun v h L => ∃ u, v = some (.ref u) ∧ Fr Z.heap.size L ∧ Keep h0 h [] ∧ h0.size ≤ u ∧ (((¬ (255 : Int32) < c0 ∧ ¬ (255 : Int32) < c1) ∧ Ary Z h u .byte [(.int (c0.toInt8.toInt32)), (.int (c1.toInt8.toInt32))]) ∨ Ary Z h u .byte [(.int ((c0 >>> ((0 : Int32) &&& 31)).toInt8.toInt32)), (.int ((c0 >>> ((8 : Int32) &&& 31)).toInt8.toInt32)), (.int ((c1 >>> ((0 : Int32) &&& 31)).toInt8.toInt32)), (.int ((c1 >>> ((8 : Int32) &&& 31)).toInt8.toInt32))])) := by
  refine ctr (plainFor_of_name pn_4) ?_
  intro p e s m below meth c s₁ hx hby hml hown hnm hret hlocks hZ X0 e0
  have N0 := Fr.nil Z.heap.size
  have hsz : ∀ {Ls : Array Slot}, Ls.size = 6 → Ls.size = c.maxLocals := fun q => q.trans hml.symm
  have K0 := Keep.refl h0 []
  refine goE (ef_rmSb2 m (a1) ((0 : Int32)) ((2 : Int32))) ?_
  show Goes p e below _ (s₁.setTop (mkF m 0 #[.val (.ref a1), .val (.int (0 : Int32)), .val (.int (2 : Int32)), .unset, .unset, .unset] []))
  refine gIloadN X0 hx (hb hby d_jdk_52_method_16_0) rfl ?_
  obtain ⟨Tt1, ht1, kt1, Xt1, et1, Et1, At1, stt1⟩ := newP X0 hx hZ (hw _ (List.mem_of_getElem? (i := 23) rfl)) e0 (g := (mkF m 1 #[.val (.ref a1), .val (.int (0 : Int32)), .val (.int (2 : Int32)), .unset, .unset, .unset] [(.int (2 : Int32))])) rfl (hb hby d_jdk_52_method_16_1) rfl (by decide) (cap := 2) (by decide) (by decide) (by decide) (by decide)
  obtain ⟨ob2, gob2⟩ : ∃ z, z = h0.size := ⟨_, rfl⟩
  rw [← gob2] at At1 stt1
  refine go stt1 ?_
  have ne_a1_ob2 : a1 ≠ ob2 := Nat.ne_of_lt (gob2 ▸ Y1.lt)
  have fr_ob2 : Z.heap.size ≤ ob2 := gob2 ▸ O0.1
  have pa_ob2 : h0.size ≤ ob2 := gob2 ▸ K0.1
  replace Y1 := Y1.ext Et1
  have O3 : Ext Z.heap ht1 := extT O0 Et1
  have K4 := K0.ext Et1
  have Y_ob2 : Ary Z ht1 ob2 .byte [(.int (0 : Int32)), (.int (0 : Int32))] := Ary.new At1 rfl (by decide)
  show Goes p e below _ (Tt1.setTop (mkF m 3 #[.val (.ref a1), .val (.int (0 : Int32)), .val (.int (2 : Int32)), .unset, .unset, .unset] [(.ref ob2)]))
  refine gAstoreN Xt1 hx (hb hby d_jdk_52_method_16_3) rfl (l' := #[.val (.ref a1), .val (.int (0 : Int32)), .val (.int (2 : Int32)), .val (.ref ob2), .unset, .unset]) rfl ?_
  refine gAloadN Xt1 hx (hb hby d_jdk_52_method_16_4) rfl rfl ?_
  refine gIloadN Xt1 hx (hb hby d_jdk_52_method_16_5) rfl ?_
  refine gAloadN Xt1 hx (hb hby d_jdk_52_method_16_6) rfl rfl ?_
  refine gIconst Xt1 hx (hb hby d_jdk_52_method_16_7) (v := (0 : Int32)) rfl ?_
  refine gIloadN Xt1 hx (hb hby d_jdk_52_method_16_8) rfl ?_
  refine goCallS Xt1 hx hZ hown (hw _ (List.mem_of_getElem? (i := 44) rfl)) (hw _ (List.mem_of_getElem? (i := 45) rfl)) (hw _ (List.mem_of_getElem? (i := 42) rfl)) (hw _ (List.mem_of_getElem? (i := 46) rfl)) (by decide) (rmSa2 l Z a0 hw c0 c1 a1 ob2 ht1 O3 Y1 Y_ob2 ne_a1_ob2 fr_ob2) 0 (by decide) (by decide) et1 (hsz rfl) [(.ref a1), (.int (0 : Int32)), (.ref ob2), (.int (0 : Int32)), (.int (2 : Int32))] [] pd_10 rfl rfl rfl (Nat.le_of_eq rfl) (hb hby d_jdk_52_method_16_9) (by decide) (by decide) (fun Tt5 vt5 Lt5 Xt5 qt5 => ?_)
  obtain ⟨ht5, et5⟩ : ∃ z, Tt5.heap = z := ⟨_, rfl⟩
  rw [et5] at qt5
  obtain ⟨r_, rfl, N6, Kct5, alt⟩ := qt5
  have N7 := Fr.app N0 N6
  replace Y1 := Y1.keep Kct5 (ninS ne_a1_ob2 nin0)
  have O8 : Ext Z.heap ht5 := extK O3 Kct5 (allS fr_ob2 all0)
  have K9 := K4.trans Kct5 (allS (Or.inr pa_ob2) all0)
  show Goes p e below _ (Tt5.setTop (mkF m 12 #[.val (.ref a1), .val (.int (0 : Int32)), .val (.int (2 : Int32)), .val (.ref ob2), .unset, .unset] [(.int r_)]))
  rcases alt with ⟨rfl, ok, Yb⟩ | ⟨rfl, o0⟩ | ⟨rfl, o1⟩
  · show Goes p e below _ (Tt5.setTop (mkF m 12 #[.val (.ref a1), .val (.int (0 : Int32)), .val (.int (2 : Int32)), .val (.ref ob2), .unset, .unset] [(.int (2 : Int32))]))
    refine gIstore Xt5 hx (hb hby d_jdk_52_method_16_12) (l' := #[.val (.ref a1), .val (.int (0 : Int32)), .val (.int (2 : Int32)), .val (.ref ob2), .val (.int (2 : Int32)), .unset]) rfl ?_
    refine gIload Xt5 hx (hb hby d_jdk_52_method_16_14) rfl ?_
    refine gIloadN Xt5 hx (hb hby d_jdk_52_method_16_16) rfl ?_
    refine gIcmpY Xt5 hx (hb hby d_jdk_52_method_16_17) (pc' := 57) (XT.ii_eq_t rfl) (by decide) (by decide) ?_
    show Goes p e below _ (Tt5.setTop (mkF m 57 #[.val (.ref a1), .val (.int (0 : Int32)), .val (.int (2 : Int32)), .val (.ref ob2), .val (.int (2 : Int32)), .unset] []))
    refine gAloadN Xt5 hx (hb hby d_jdk_52_method_16_57) rfl rfl ?_
    exact goRetA Xt5 hx hret hlocks rfl rfl (hb hby d_jdk_52_method_16_58) (by decide) (by decide) et5 (⟨ob2, rfl, N7, K9, pa_ob2, Or.inl ⟨ok, Yb⟩⟩)
  · show Goes p e below _ (Tt5.setTop (mkF m 12 #[.val (.ref a1), .val (.int (0 : Int32)), .val (.int (2 : Int32)), .val (.ref ob2), .unset, .unset] [(.int (0 : Int32))]))
    refine gIstore Xt5 hx (hb hby d_jdk_52_method_16_12) (l' := #[.val (.ref a1), .val (.int (0 : Int32)), .val (.int (2 : Int32)), .val (.ref ob2), .val (.int (0 : Int32)), .unset]) rfl ?_
    refine gIload Xt5 hx (hb hby d_jdk_52_method_16_14) rfl ?_
    refine gIloadN Xt5 hx (hb hby d_jdk_52_method_16_16) rfl ?_
    refine gIcmpN Xt5 hx (hb hby d_jdk_52_method_16_17) (XT.ii_eq_f (by decide)) ?_
    show Goes p e below _ (Tt5.setTop (mkF m 20 #[.val (.ref a1), .val (.int (0 : Int32)), .val (.int (2 : Int32)), .val (.ref ob2), .val (.int (0 : Int32)), .unset] []))
    refine gAloadN Xt5 hx (hb hby d_jdk_52_method_16_20) rfl rfl ?_
    refine gIloadN Xt5 hx (hb hby d_jdk_52_method_16_21) rfl ?_
    refine gIloadN Xt5 hx (hb hby d_jdk_52_method_16_22) rfl ?_
    have lt_a1_t10 := Y1.lt
    refine goCallS Xt5 hx hZ hown (hw _ (List.mem_of_getElem? (i := 117) rfl)) (hw _ (List.mem_of_getElem? (i := 118) rfl)) (hw _ (List.mem_of_getElem? (i := 42) rfl)) (hw _ (List.mem_of_getElem? (i := 119) rfl)) (by decide) (rmTb2 l Z a0 hw c0 c1 a1 ht5 O8 S_ua S_uh S_ul Y1) 0 (by decide) (by decide) et5 (hsz rfl) [(.ref a1), (.int (0 : Int32)), (.int (2 : Int32))] [] pd_11 rfl rfl rfl (Nat.le_of_eq rfl) (hb hby d_jdk_52_method_16_23) (by decide) (by decide) (fun Tt10 vt10 Lt10 Xt10 qt10 => ?_)
    obtain ⟨ht10, et10⟩ : ∃ z, Tt10.heap = z := ⟨_, rfl⟩
    rw [et10] at qt10
    obtain ⟨u, rfl, N11, Kct10, pu, Yu⟩ := qt10
    have N12 := Fr.app N7 N11
    replace Y1 := Y1.keep Kct10 nin0
    have O13 : Ext Z.heap ht10 := extK O8 Kct10 all0
    have K14 := K9.trans Kct10 all0
    have ne_a1_u : a1 ≠ u := Nat.ne_of_lt (Nat.lt_of_lt_of_le lt_a1_t10 pu)
    have fr_u : Z.heap.size ≤ u := Nat.le_trans O8.1 pu
    have pa_u : h0.size ≤ u := Nat.le_trans K9.1 pu
    show Goes p e below _ (Tt10.setTop (mkF m 26 #[.val (.ref a1), .val (.int (0 : Int32)), .val (.int (2 : Int32)), .val (.ref ob2), .val (.int (0 : Int32)), .unset] [(.ref u)]))
    refine gAstore Xt10 hx (hb hby d_jdk_52_method_16_26) rfl (l' := #[.val (.ref a1), .val (.int (0 : Int32)), .val (.int (2 : Int32)), .val (.ref ob2), .val (.int (0 : Int32)), .val (.ref u)]) rfl ?_
    refine gAload Xt10 hx (hb hby d_jdk_52_method_16_28) rfl rfl ?_
    refine gIload Xt10 hx (hb hby d_jdk_52_method_16_30) rfl ?_
    refine goCallS Xt10 hx hZ hown (hw _ (List.mem_of_getElem? (i := 133) rfl)) (hw _ (List.mem_of_getElem? (i := 134) rfl)) (hw _ (List.mem_of_getElem? (i := 42) rfl)) (hw _ (List.mem_of_getElem? (i := 135) rfl)) (by decide) (rmGc20 l Z a0 hw ((c0 >>> ((0 : Int32) &&& 31)).toInt8.toInt32) ((c0 >>> ((8 : Int32) &&& 31)).toInt8.toInt32) ((c1 >>> ((0 : Int32) &&& 31)).toInt8.toInt32) ((c1 >>> ((8 : Int32) &&& 31)).toInt8.toInt32) u ht10 O13 S_ua S_uh S_ul Yu) 0 (by decide) (by decide) et10 (hsz rfl) [(.ref u), (.int (0 : Int32))] [] pd_12 rfl rfl rfl (Nat.le_of_eq rfl) (hb hby d_jdk_52_method_16_32) (by decide) (by decide) (fun Tt15 vt15 Lt15 Xt15 qt15 => ?_)
    obtain ⟨rfl, N16, et15⟩ := qt15
    have N17 := Fr.app N12 N16
    show Goes p e below _ (Tt15.setTop (mkF m 35 #[.val (.ref a1), .val (.int (0 : Int32)), .val (.int (2 : Int32)), .val (.ref ob2), .val (.int (0 : Int32)), .val (.ref u)] [(.int (own_gc ((c0 >>> ((0 : Int32) &&& 31)).toInt8.toInt32) ((c0 >>> ((8 : Int32) &&& 31)).toInt8.toInt32)))]))
    rw [own_gcc q0_0 q1_0]
    show Goes p e below _ (Tt15.setTop (mkF m 35 #[.val (.ref a1), .val (.int (0 : Int32)), .val (.int (2 : Int32)), .val (.ref ob2), .val (.int (0 : Int32)), .val (.ref u)] [(.int c0)]))
    refine gSipush Xt15 hx (hb hby d_jdk_52_method_16_35) (v := (255 : Int32)) rfl ?_
    refine gIcmpY Xt15 hx (hb hby d_jdk_52_method_16_38) (pc' := 54) (XT.ii_gt_t o0) (by decide) (by decide) ?_
    show Goes p e below _ (Tt15.setTop (mkF m 54 #[.val (.ref a1), .val (.int (0 : Int32)), .val (.int (2 : Int32)), .val (.ref ob2), .val (.int (0 : Int32)), .val (.ref u)] []))
    refine gAload Xt15 hx (hb hby d_jdk_52_method_16_54) rfl rfl ?_
    exact goRetA Xt15 hx hret hlocks rfl rfl (hb hby d_jdk_52_method_16_56) (by decide) (by decide) et15 (⟨u, rfl, N17, K14, pa_u, Or.inr Yu⟩)
  · show Goes p e below _ (Tt5.setTop (mkF m 12 #[.val (.ref a1), .val (.int (0 : Int32)), .val (.int (2 : Int32)), .val (.ref ob2), .unset, .unset] [(.int (1 : Int32))]))
    refine gIstore Xt5 hx (hb hby d_jdk_52_method_16_12) (l' := #[.val (.ref a1), .val (.int (0 : Int32)), .val (.int (2 : Int32)), .val (.ref ob2), .val (.int (1 : Int32)), .unset]) rfl ?_
    refine gIload Xt5 hx (hb hby d_jdk_52_method_16_14) rfl ?_
    refine gIloadN Xt5 hx (hb hby d_jdk_52_method_16_16) rfl ?_
    refine gIcmpN Xt5 hx (hb hby d_jdk_52_method_16_17) (XT.ii_eq_f (by decide)) ?_
    show Goes p e below _ (Tt5.setTop (mkF m 20 #[.val (.ref a1), .val (.int (0 : Int32)), .val (.int (2 : Int32)), .val (.ref ob2), .val (.int (1 : Int32)), .unset] []))
    refine gAloadN Xt5 hx (hb hby d_jdk_52_method_16_20) rfl rfl ?_
    refine gIloadN Xt5 hx (hb hby d_jdk_52_method_16_21) rfl ?_
    refine gIloadN Xt5 hx (hb hby d_jdk_52_method_16_22) rfl ?_
    have lt_a1_t18 := Y1.lt
    refine goCallS Xt5 hx hZ hown (hw _ (List.mem_of_getElem? (i := 117) rfl)) (hw _ (List.mem_of_getElem? (i := 118) rfl)) (hw _ (List.mem_of_getElem? (i := 42) rfl)) (hw _ (List.mem_of_getElem? (i := 119) rfl)) (by decide) (rmTb2 l Z a0 hw c0 c1 a1 ht5 O8 S_ua S_uh S_ul Y1) 0 (by decide) (by decide) et5 (hsz rfl) [(.ref a1), (.int (0 : Int32)), (.int (2 : Int32))] [] pd_11 rfl rfl rfl (Nat.le_of_eq rfl) (hb hby d_jdk_52_method_16_23) (by decide) (by decide) (fun Tt18 vt18 Lt18 Xt18 qt18 => ?_)
    obtain ⟨ht18, et18⟩ : ∃ z, Tt18.heap = z := ⟨_, rfl⟩
    rw [et18] at qt18
    obtain ⟨u, rfl, N19, Kct18, pu, Yu⟩ := qt18
    have N20 := Fr.app N7 N19
    replace Y1 := Y1.keep Kct18 nin0
    have O21 : Ext Z.heap ht18 := extK O8 Kct18 all0
    have K22 := K9.trans Kct18 all0
    have ne_a1_u : a1 ≠ u := Nat.ne_of_lt (Nat.lt_of_lt_of_le lt_a1_t18 pu)
    have fr_u : Z.heap.size ≤ u := Nat.le_trans O8.1 pu
    have pa_u : h0.size ≤ u := Nat.le_trans K9.1 pu
    show Goes p e below _ (Tt18.setTop (mkF m 26 #[.val (.ref a1), .val (.int (0 : Int32)), .val (.int (2 : Int32)), .val (.ref ob2), .val (.int (1 : Int32)), .unset] [(.ref u)]))
    refine gAstore Xt18 hx (hb hby d_jdk_52_method_16_26) rfl (l' := #[.val (.ref a1), .val (.int (0 : Int32)), .val (.int (2 : Int32)), .val (.ref ob2), .val (.int (1 : Int32)), .val (.ref u)]) rfl ?_
    refine gAload Xt18 hx (hb hby d_jdk_52_method_16_28) rfl rfl ?_
    refine gIload Xt18 hx (hb hby d_jdk_52_method_16_30) rfl ?_
    refine goCallS Xt18 hx hZ hown (hw _ (List.mem_of_getElem? (i := 133) rfl)) (hw _ (List.mem_of_getElem? (i := 134) rfl)) (hw _ (List.mem_of_getElem? (i := 42) rfl)) (hw _ (List.mem_of_getElem? (i := 135) rfl)) (by decide) (rmGc21 l Z a0 hw ((c0 >>> ((0 : Int32) &&& 31)).toInt8.toInt32) ((c0 >>> ((8 : Int32) &&& 31)).toInt8.toInt32) ((c1 >>> ((0 : Int32) &&& 31)).toInt8.toInt32) ((c1 >>> ((8 : Int32) &&& 31)).toInt8.toInt32) u ht18 O21 S_ua S_uh S_ul Yu) 0 (by decide) (by decide) et18 (hsz rfl) [(.ref u), (.int (1 : Int32))] [] pd_12 rfl rfl rfl (Nat.le_of_eq rfl) (hb hby d_jdk_52_method_16_32) (by decide) (by decide) (fun Tt23 vt23 Lt23 Xt23 qt23 => ?_)
    obtain ⟨rfl, N24, et23⟩ := qt23
    have N25 := Fr.app N20 N24
    show Goes p e below _ (Tt23.setTop (mkF m 35 #[.val (.ref a1), .val (.int (0 : Int32)), .val (.int (2 : Int32)), .val (.ref ob2), .val (.int (1 : Int32)), .val (.ref u)] [(.int (own_gc ((c1 >>> ((0 : Int32) &&& 31)).toInt8.toInt32) ((c1 >>> ((8 : Int32) &&& 31)).toInt8.toInt32)))]))
    rw [own_gcc q0_1 q1_1]
    show Goes p e below _ (Tt23.setTop (mkF m 35 #[.val (.ref a1), .val (.int (0 : Int32)), .val (.int (2 : Int32)), .val (.ref ob2), .val (.int (1 : Int32)), .val (.ref u)] [(.int c1)]))
    refine gSipush Xt23 hx (hb hby d_jdk_52_method_16_35) (v := (255 : Int32)) rfl ?_
    refine gIcmpY Xt23 hx (hb hby d_jdk_52_method_16_38) (pc' := 54) (XT.ii_gt_t o1) (by decide) (by decide) ?_
    show Goes p e below _ (Tt23.setTop (mkF m 54 #[.val (.ref a1), .val (.int (0 : Int32)), .val (.int (2 : Int32)), .val (.ref ob2), .val (.int (1 : Int32)), .val (.ref u)] []))
    refine gAload Xt23 hx (hb hby d_jdk_52_method_16_54) rfl rfl ?_
    exact goRetA Xt23 hx hret hlocks rfl rfl (hb hby d_jdk_52_method_16_56) (by decide) (by decide) et23 (⟨u, rfl, N25, K22, pa_u, Or.inr Yu⟩)
theorem ef_rmSc2 (m : MethodId) (x0 : Addr) (x1 : Int32) : entryFrame m #[(.ref x0), (.int x1)] 2 = mkF m 0 #[.val (.ref x0), .val (.int x1)] [] := by first | (simp [entryFrame, mkF, argsToLocals, Value.category]; done) | rfl
set_option maxRecDepth 65536 in
set_option maxHeartbeats 40000000 in
theorem rmSc2 (l : Launch) (Z : State) (a0 : Array Value) (hw : ∀ d ∈ tables_1, d.before a0 Z = true) (c0 c1 : Int32) (a1 : Addr) (h0 : Heap) (O0 : Ext Z.heap h0) (Y1 : Ary Z h0 a1 .byte [(.int (c0.toInt8.toInt32)), (.int (c1.toInt8.toInt32))]) :
    Ctr l Z (⟨"java/lang/StringUTF16", "coderFromArrayLen", "([BI)B"⟩ : MethodName) jdk_52_method_15_code 2 (some .byte) [] ({ frames := 0, cells := 0, slots := 0, locals := 0 } : Room) #[(.ref a1), (.int (2 : Int32))] h0 (fun v h L => v = some (.int (0 : Int32)) ∧ Fr Z.heap.size L ∧ h = h0) := by
  refine ctr (plainFor_of_name pn_4) ?_
  intro p e s m below meth c s₁ hx hby hml hown hnm hret hlocks hZ X0 e0
  have N0 := Fr.nil Z.heap.size
  have hsz : ∀ {Ls : Array Slot}, Ls.size = 2 → Ls.size = c.maxLocals := fun q => q.trans hml.symm
  refine goE (ef_rmSc2 m (a1) ((2 : Int32))) ?_
  show Goes p e below _ (s₁.setTop (mkF m 0 #[.val (.ref a1), .val (.int (2 : Int32))] []))
  refine gIloadN X0 hx (hb hby d_jdk_52_method_15_0) rfl ?_
  refine gAloadN X0 hx (hb hby d_jdk_52_method_15_1) rfl rfl ?_
  refine goAlen X0 hx hZ e0 Y1 (n := (2 : Int32)) (hb hby d_jdk_52_method_15_2) rfl ?_
  refine gIsub X0 hx (hb hby d_jdk_52_method_15_3) ?_
  refine gBipush X0 hx (hb hby d_jdk_52_method_15_4) (v := (31 : Int32)) rfl ?_
  refine gIushr X0 hx (hb hby d_jdk_52_method_15_6) ?_
  refine gI2b X0 hx (hb hby d_jdk_52_method_15_7) ?_
  show Goes p e below _ (s₁.setTop (mkF m 8 #[.val (.ref a1), .val (.int (2 : Int32))] [(.int ((XT.ushr (0 : Int32) (31 : Int32)).toInt8.toInt32))]))
  exact goRetN X0 hx (t := .byte) hret hlocks (by simp) (hb hby d_jdk_52_method_15_8) (z' := (0 : Int32)) (by decide) (by decide) (by decide) e0 (⟨rfl, N0, rfl⟩)
theorem ef_rmSe2 (m : MethodId) (x0 : Addr) (x1 : Int32) : entryFrame m #[(.ref x0), (.int x1)] 2 = mkF m 0 #[.val (.ref x0), .val (.int x1)] [] := by first | (simp [entryFrame, mkF, argsToLocals, Value.category]; done) | rfl
set_option maxRecDepth 65536 in
set_option maxHeartbeats 40000000 in
theorem rmSe2 (l : Launch) (Z : State) (a0 : Array Value) (hw : ∀ d ∈ tables_1, d.before a0 Z = true) (c0 c1 : Int32) (a1 : Addr) (h0 : Heap) (O0 : Ext Z.heap h0) (Y1 : Ary Z h0 a1 .byte [(.int ((c0 >>> ((0 : Int32) &&& 31)).toInt8.toInt32)), (.int ((c0 >>> ((8 : Int32) &&& 31)).toInt8.toInt32)), (.int ((c1 >>> ((0 : Int32) &&& 31)).toInt8.toInt32)), (.int ((c1 >>> ((8 : Int32) &&& 31)).toInt8.toInt32))]) :
    Ctr l Z (⟨"java/lang/StringUTF16", "coderFromArrayLen", "([BI)B"⟩ : MethodName) jdk_52_method_15_code 2 (some .byte) [] ({ frames := 0, cells := 0, slots := 0, locals := 0 } : Room) #[(.ref a1), (.int (2 : Int32))] h0 (fun v h L => v = some (.int (1 : Int32)) ∧ Fr Z.heap.size L ∧ h = h0) := by
  refine ctr (plainFor_of_name pn_4) ?_
  intro p e s m below meth c s₁ hx hby hml hown hnm hret hlocks hZ X0 e0
  have N0 := Fr.nil Z.heap.size
  have hsz : ∀ {Ls : Array Slot}, Ls.size = 2 → Ls.size = c.maxLocals := fun q => q.trans hml.symm
  refine goE (ef_rmSe2 m (a1) ((2 : Int32))) ?_
  show Goes p e below _ (s₁.setTop (mkF m 0 #[.val (.ref a1), .val (.int (2 : Int32))] []))
  refine gIloadN X0 hx (hb hby d_jdk_52_method_15_0) rfl ?_
  refine gAloadN X0 hx (hb hby d_jdk_52_method_15_1) rfl rfl ?_
  refine goAlen X0 hx hZ e0 Y1 (n := (4 : Int32)) (hb hby d_jdk_52_method_15_2) rfl ?_
  refine gIsub X0 hx (hb hby d_jdk_52_method_15_3) ?_
  refine gBipush X0 hx (hb hby d_jdk_52_method_15_4) (v := (31 : Int32)) rfl ?_
  refine gIushr X0 hx (hb hby d_jdk_52_method_15_6) ?_
  refine gI2b X0 hx (hb hby d_jdk_52_method_15_7) ?_
  show Goes p e below _ (s₁.setTop (mkF m 8 #[.val (.ref a1), .val (.int (2 : Int32))] [(.int ((XT.ushr (-2 : Int32) (31 : Int32)).toInt8.toInt32))]))
  exact goRetN X0 hx (t := .byte) hret hlocks (by simp) (hb hby d_jdk_52_method_15_8) (z' := (1 : Int32)) (by decide) (by decide) (by decide) e0 (⟨rfl, N0, rfl⟩)
theorem ef_rmSd2 (m : MethodId) (x0 : Addr) (x1 : Addr) (x2 : Int32) (x3 : Int32) : entryFrame m #[(.ref x0), (.ref x1), (.int x2), (.int x3), .null] 6 = mkF m 0 #[.val (.ref x0), .val (.ref x1), .val (.int x2), .val (.int x3), .val .null, .unset] [] := by first | (simp [entryFrame, mkF, argsToLocals, Value.category]; done) | rfl
set_option maxRecDepth 65536 in
set_option maxHeartbeats 40000000 in
theorem rmSd2 (l : Launch) (Z : State) (a0 : Array Value) (hw : ∀ d ∈ tables_1, d.before a0 Z = true) (cs : Int32) (c0 c1 : Int32) (a1 : Addr) (a2 : Addr) (h0 : Heap) (O0 : Ext Z.heap h0) (S_cs : Sta Z Z.heap "java/lang/String" "COMPACT_STRINGS" "Z" (.int cs)) (hcs : ¬ cs = 0) (S_ua : Sta Z Z.heap "java/lang/StringUTF16" "$assertionsDisabled" "Z" (.int (1 : Int32))) (S_uh : Sta Z Z.heap "java/lang/StringUTF16" "HI_BYTE_SHIFT" "I" (.int (0 : Int32))) (S_ul : Sta Z Z.heap "java/lang/StringUTF16" "LO_BYTE_SHIFT" "I" (.int (8 : Int32))) (E1 : Exa Z h0 a1 "java/lang/String") (F1 : Fld Z h0 a1 "java/lang/String" "value" "[B" .null) (F2 : Fld Z h0 a1 "java/lang/String" "coder" "B" (.int (0 : Int32))) (Y2 : Ary Z h0 a2 .char [(.int c0), (.int c1)]) (ne : a1 ≠ a2) (fr1 : Z.heap.size ≤ a1) (q0_0 : ¬ c0 < 0) (q1_0 : ¬ (65535 : Int32) < c0) (q0_1 : ¬ c1 < 0) (q1_1 : ¬ (65535 : Int32) < c1) :
    Ctr l Z (⟨"java/lang/String", "<init>", "([CIILjava/lang/Void;)V"⟩ : MethodName) jdk_42_method_149_code 6 none [] ({ frames := 4, cells := 2, slots := 6, locals := 57 } : Room) #[(.ref a1), (.ref a2), (.int (0 : Int32)), (.int (2 : Int32)), .null] h0 (fun v h L => v = none ∧ Fr Z.heap.size L ∧ Keep h0 h [a1] ∧ ∃ u, h0.size ≤ u ∧ Fld Z h a1 "java/lang/String" "value" "[B" (.ref u) ∧ ((Fld Z h a1 "java/lang/String" "coder" "B" (.int (0 : Int32)) ∧ (¬ (255 : Int32) < c0 ∧ ¬ (255 : Int32) < c1) ∧ Ary Z h u .byte [(.int (c0.toInt8.toInt32)), (.int (c1.toInt8.toInt32))]) ∨ (Fld Z h a1 "java/lang/String" "coder" "B" (.int (1 : Int32)) ∧ Ary Z h u .byte [(.int ((c0 >>> ((0 : Int32) &&& 31)).toInt8.toInt32)), (.int ((c0 >>> ((8 : Int32) &&& 31)).toInt8.toInt32)), (.int ((c1 >>> ((0 : Int32) &&& 31)).toInt8.toInt32)), (.int ((c1 >>> ((8 : Int32) &&& 31)).toInt8.toInt32))]))) := by
  refine ctr (plainFor_of_name pn_1) ?_
  intro p e s m below meth c s₁ hx hby hml hown hnm hret hlocks hZ X0 e0
  have N0 := Fr.nil Z.heap.size
  have hsz : ∀ {Ls : Array Slot}, Ls.size = 6 → Ls.size = c.maxLocals := fun q => q.trans hml.symm
  have K0 := Keep.refl h0 [a1]
  refine goE (ef_rmSd2 m (a1) (a2) ((0 : Int32)) ((2 : Int32))) ?_
  show Goes p e below _ (s₁.setTop (mkF m 0 #[.val (.ref a1), .val (.ref a2), .val (.int (0 : Int32)), .val (.int (2 : Int32)), .val .null, .unset] []))
  refine gAloadN X0 hx (hb hby d_jdk_42_method_149_0) rfl rfl ?_
  obtain ⟨Tt1, Xt1, et1, stt1⟩ := initO X0 hx hZ hown (hw _ (List.mem_of_getElem? (i := 19) rfl)) (hw _ (List.mem_of_getElem? (i := 20) rfl)) (hw _ (List.mem_of_getElem? (i := 21) rfl)) e0 (g := (mkF m 1 #[.val (.ref a1), .val (.ref a2), .val (.int (0 : Int32)), .val (.int (2 : Int32)), .val .null, .unset] [(.ref a1)])) rfl (by rw [hml]; rfl) rfl (hb hby d_jdk_42_method_149_1) (by decide) (W := 0) (Nat.le_of_eq rfl) (by decide)
  refine go stt1 ?_
  show Goes p e below _ (Tt1.setTop (mkF m 4 #[.val (.ref a1), .val (.ref a2), .val (.int (0 : Int32)), .val (.int (2 : Int32)), .val .null, .unset] []))
  refine gIloadN Xt1 hx (hb hby d_jdk_42_method_149_4) rfl ?_
  refine gIfY Xt1 hx (hb hby d_jdk_42_method_149_5) (pc' := 27) (XT.i0_ne_t (by decide)) (by decide) (by decide) ?_
  show Goes p e below _ (Tt1.setTop (mkF m 27 #[.val (.ref a1), .val (.ref a2), .val (.int (0 : Int32)), .val (.int (2 : Int32)), .val .null, .unset] []))
  obtain ⟨Tt2, Xt2, et2, stt2⟩ := getS2 Xt1 hx hZ hown (host := "") (Or.inl (hw _ (List.mem_of_getElem? (i := 39) rfl))) Via.refl et1 (S_cs.ext O0) (g := (mkF m 27 #[.val (.ref a1), .val (.ref a2), .val (.int (0 : Int32)), .val (.int (2 : Int32)), .val .null, .unset] [])) rfl (hb hby d_jdk_42_method_149_27)
  refine go stt2 ?_
  show Goes p e below _ (Tt2.setTop (mkF m 30 #[.val (.ref a1), .val (.ref a2), .val (.int (0 : Int32)), .val (.int (2 : Int32)), .val .null, .unset] [(.int cs)]))
  refine gIfN Xt2 hx (hb hby d_jdk_42_method_149_30) (XT.i0_eq_f hcs) ?_
  show Goes p e below _ (Tt2.setTop (mkF m 33 #[.val (.ref a1), .val (.ref a2), .val (.int (0 : Int32)), .val (.int (2 : Int32)), .val .null, .unset] []))
  refine gAloadN Xt2 hx (hb hby d_jdk_42_method_149_33) rfl rfl ?_
  refine gIloadN Xt2 hx (hb hby d_jdk_42_method_149_34) rfl ?_
  refine gIloadN Xt2 hx (hb hby d_jdk_42_method_149_35) rfl ?_
  have lt_a1_t3 := E1.lt
  have lt_a2_t3 := Y2.lt
  refine goCallS Xt2 hx hZ hown (hw _ (List.mem_of_getElem? (i := 40) rfl)) (hw _ (List.mem_of_getElem? (i := 41) rfl)) (hw _ (List.mem_of_getElem? (i := 42) rfl)) (hw _ (List.mem_of_getElem? (i := 43) rfl)) (by decide) (rmSb2 l Z a0 hw c0 c1 a2 h0 O0 S_ua S_uh S_ul Y2 q0_0 q1_0 q0_1 q1_1) 0 (by decide) (by decide) et2 (hsz rfl) [(.ref a2), (.int (0 : Int32)), (.int (2 : Int32))] [] pd_11 rfl rfl rfl (Nat.le_of_eq rfl) (hb hby d_jdk_42_method_149_36) (by decide) (by decide) (fun Tt3 vt3 Lt3 Xt3 qt3 => ?_)
  obtain ⟨ht3, et3⟩ : ∃ z, Tt3.heap = z := ⟨_, rfl⟩
  rw [et3] at qt3
  obtain ⟨u, rfl, N4, Kct3, pu, alt⟩ := qt3
  have N5 := Fr.app N0 N4
  replace E1 := E1.keep Kct3
  replace F1 := F1.keep Kct3 nin0
  replace F2 := F2.keep Kct3 nin0
  replace Y2 := Y2.keep Kct3 nin0
  have O6 : Ext Z.heap ht3 := extK O0 Kct3 all0
  have K7 := K0.trans Kct3 all0
  have ne_a1_u : a1 ≠ u := Nat.ne_of_lt (Nat.lt_of_lt_of_le lt_a1_t3 pu)
  have ne_a2_u : a2 ≠ u := Nat.ne_of_lt (Nat.lt_of_lt_of_le lt_a2_t3 pu)
  have fr_u : Z.heap.size ≤ u := Nat.le_trans O0.1 pu
  have pa_u : h0.size ≤ u := Nat.le_trans K0.1 pu
  show Goes p e below _ (Tt3.setTop (mkF m 39 #[.val (.ref a1), .val (.ref a2), .val (.int (0 : Int32)), .val (.int (2 : Int32)), .val .null, .unset] [(.ref u)]))
  rcases alt with ⟨ok, Yu⟩ | Yu
  · refine gAstore Xt3 hx (hb hby d_jdk_42_method_149_39) rfl (l' := #[.val (.ref a1), .val (.ref a2), .val (.int (0 : Int32)), .val (.int (2 : Int32)), .val .null, .val (.ref u)]) rfl ?_
    refine gAloadN Xt3 hx (hb hby d_jdk_42_method_149_41) rfl rfl ?_
    refine gAload Xt3 hx (hb hby d_jdk_42_method_149_42) rfl rfl ?_
    refine gIloadN Xt3 hx (hb hby d_jdk_42_method_149_44) rfl ?_
    refine goCallS Xt3 hx hZ hown (hw _ (List.mem_of_getElem? (i := 47) rfl)) (hw _ (List.mem_of_getElem? (i := 48) rfl)) (hw _ (List.mem_of_getElem? (i := 42) rfl)) (hw _ (List.mem_of_getElem? (i := 49) rfl)) (by decide) (rmSc2 l Z a0 hw c0 c1 u ht3 O6 Yu) 1 (by decide) (by decide) et3 (hsz rfl) [(.ref u), (.int (2 : Int32))] [(.ref a1)] pd_13 rfl rfl rfl (Nat.le_of_eq rfl) (hb hby d_jdk_42_method_149_45) (by decide) (by decide) (fun Tt8 vt8 Lt8 Xt8 qt8 => ?_)
    obtain ⟨rfl, N9, et8⟩ := qt8
    have N10 := Fr.app N5 N9
    show Goes p e below _ (Tt8.setTop (mkF m 48 #[.val (.ref a1), .val (.ref a2), .val (.int (0 : Int32)), .val (.int (2 : Int32)), .val .null, .val (.ref u)] [(.int (0 : Int32)), (.ref a1)]))
    obtain ⟨Tt11, ht11, Xt11, et11, Wt11, stt11⟩ := putF Xt8 hx hZ hown (host := "") (Or.inl (hw _ (List.mem_of_getElem? (i := 29) rfl))) Via.refl et8 F2 E1 (Or.inr ⟨(hw _ (List.mem_of_getElem? (i := 25) rfl)), rfl, hnm⟩) (hw _ (List.mem_of_getElem? (i := 9) rfl)) (ty := .byte) (by decide) rfl rfl (g := (mkF m 48 #[.val (.ref a1), .val (.ref a2), .val (.int (0 : Int32)), .val (.int (2 : Int32)), .val .null, .val (.ref u)] [(.int (0 : Int32)), (.ref a1)])) rfl rfl (hb hby d_jdk_42_method_149_48)
    refine go stt11 ?_
    have N12 := Fr.snoc Xt11 N10 fr1
    replace F2 := F2.same Wt11
    replace E1 := E1.wr Wt11
    replace F1 := F1.other Wt11 (Or.inr (slot_ne (Or.inr (hw _ (List.mem_of_getElem? (i := 24) rfl))) (Or.inr (hw _ (List.mem_of_getElem? (i := 25) rfl))) (by decide) (t := (.array .byte)) (by decide) (t' := .byte) (by decide)))
    replace Y2 := Y2.other Wt11 (Ne.symm ne)
    replace Yu := Yu.other Wt11 (Ne.symm ne_a1_u)
    have O13 : Ext Z.heap ht11 := extW O6 Wt11 fr1
    have K14 := K7.wr Wt11 (Or.inl (by simp))
    show Goes p e below _ (Tt11.setTop (mkF m 51 #[.val (.ref a1), .val (.ref a2), .val (.int (0 : Int32)), .val (.int (2 : Int32)), .val .null, .val (.ref u)] []))
    refine gAloadN Xt11 hx (hb hby d_jdk_42_method_149_51) rfl rfl ?_
    refine gAload Xt11 hx (hb hby d_jdk_42_method_149_52) rfl rfl ?_
    obtain ⟨Tt15, ht15, Xt15, et15, Wt15, stt15⟩ := putF Xt11 hx hZ hown (host := "") (Or.inl (hw _ (List.mem_of_getElem? (i := 28) rfl))) Via.refl et11 F1 E1 (Or.inr ⟨(hw _ (List.mem_of_getElem? (i := 24) rfl)), rfl, hnm⟩) (hw _ (List.mem_of_getElem? (i := 9) rfl)) (ty := (.array .byte)) (by decide) rfl rfl (g := (mkF m 54 #[.val (.ref a1), .val (.ref a2), .val (.int (0 : Int32)), .val (.int (2 : Int32)), .val .null, .val (.ref u)] [(.ref u), (.ref a1)])) rfl rfl (hb hby d_jdk_42_method_149_54)
    refine go stt15 ?_
    have N16 := Fr.snoc Xt15 N12 fr1
    replace F1 := F1.same Wt15
    replace E1 := E1.wr Wt15
    replace F2 := F2.other Wt15 (Or.inr (slot_ne (Or.inr (hw _ (List.mem_of_getElem? (i := 25) rfl))) (Or.inr (hw _ (List.mem_of_getElem? (i := 24) rfl))) (by decide) (t := .byte) (by decide) (t' := (.array .byte)) (by decide)))
    replace Y2 := Y2.other Wt15 (Ne.symm ne)
    replace Yu := Yu.other Wt15 (Ne.symm ne_a1_u)
    have O17 : Ext Z.heap ht15 := extW O13 Wt15 fr1
    have K18 := K14.wr Wt15 (Or.inl (by simp))
    show Goes p e below _ (Tt15.setTop (mkF m 57 #[.val (.ref a1), .val (.ref a2), .val (.int (0 : Int32)), .val (.int (2 : Int32)), .val .null, .val (.ref u)] []))
    exact goRet0 Xt15 hx hret hlocks (hb hby d_jdk_42_method_149_57) (by decide) (by decide) et15 (⟨rfl, N16, K18, u, pa_u, F1, Or.inl ⟨F2, ok, Yu⟩⟩)
  · refine gAstore Xt3 hx (hb hby d_jdk_42_method_149_39) rfl (l' := #[.val (.ref a1), .val (.ref a2), .val (.int (0 : Int32)), .val (.int (2 : Int32)), .val .null, .val (.ref u)]) rfl ?_
    refine gAloadN Xt3 hx (hb hby d_jdk_42_method_149_41) rfl rfl ?_
    refine gAload Xt3 hx (hb hby d_jdk_42_method_149_42) rfl rfl ?_
    refine gIloadN Xt3 hx (hb hby d_jdk_42_method_149_44) rfl ?_
    refine goCallS Xt3 hx hZ hown (hw _ (List.mem_of_getElem? (i := 47) rfl)) (hw _ (List.mem_of_getElem? (i := 48) rfl)) (hw _ (List.mem_of_getElem? (i := 42) rfl)) (hw _ (List.mem_of_getElem? (i := 49) rfl)) (by decide) (rmSe2 l Z a0 hw c0 c1 u ht3 O6 Yu) 1 (by decide) (by decide) et3 (hsz rfl) [(.ref u), (.int (2 : Int32))] [(.ref a1)] pd_13 rfl rfl rfl (Nat.le_of_eq rfl) (hb hby d_jdk_42_method_149_45) (by decide) (by decide) (fun Tt19 vt19 Lt19 Xt19 qt19 => ?_)
    obtain ⟨rfl, N20, et19⟩ := qt19
    have N21 := Fr.app N5 N20
    show Goes p e below _ (Tt19.setTop (mkF m 48 #[.val (.ref a1), .val (.ref a2), .val (.int (0 : Int32)), .val (.int (2 : Int32)), .val .null, .val (.ref u)] [(.int (1 : Int32)), (.ref a1)]))
    obtain ⟨Tt22, ht22, Xt22, et22, Wt22, stt22⟩ := putF Xt19 hx hZ hown (host := "") (Or.inl (hw _ (List.mem_of_getElem? (i := 29) rfl))) Via.refl et19 F2 E1 (Or.inr ⟨(hw _ (List.mem_of_getElem? (i := 25) rfl)), rfl, hnm⟩) (hw _ (List.mem_of_getElem? (i := 9) rfl)) (ty := .byte) (by decide) rfl rfl (g := (mkF m 48 #[.val (.ref a1), .val (.ref a2), .val (.int (0 : Int32)), .val (.int (2 : Int32)), .val .null, .val (.ref u)] [(.int (1 : Int32)), (.ref a1)])) rfl rfl (hb hby d_jdk_42_method_149_48)
    refine go stt22 ?_
    have N23 := Fr.snoc Xt22 N21 fr1
    replace F2 := F2.same Wt22
    replace E1 := E1.wr Wt22
    replace F1 := F1.other Wt22 (Or.inr (slot_ne (Or.inr (hw _ (List.mem_of_getElem? (i := 24) rfl))) (Or.inr (hw _ (List.mem_of_getElem? (i := 25) rfl))) (by decide) (t := (.array .byte)) (by decide) (t' := .byte) (by decide)))
    replace Y2 := Y2.other Wt22 (Ne.symm ne)
    replace Yu := Yu.other Wt22 (Ne.symm ne_a1_u)
    have O24 : Ext Z.heap ht22 := extW O6 Wt22 fr1
    have K25 := K7.wr Wt22 (Or.inl (by simp))
    show Goes p e below _ (Tt22.setTop (mkF m 51 #[.val (.ref a1), .val (.ref a2), .val (.int (0 : Int32)), .val (.int (2 : Int32)), .val .null, .val (.ref u)] []))
    refine gAloadN Xt22 hx (hb hby d_jdk_42_method_149_51) rfl rfl ?_
    refine gAload Xt22 hx (hb hby d_jdk_42_method_149_52) rfl rfl ?_
    obtain ⟨Tt26, ht26, Xt26, et26, Wt26, stt26⟩ := putF Xt22 hx hZ hown (host := "") (Or.inl (hw _ (List.mem_of_getElem? (i := 28) rfl))) Via.refl et22 F1 E1 (Or.inr ⟨(hw _ (List.mem_of_getElem? (i := 24) rfl)), rfl, hnm⟩) (hw _ (List.mem_of_getElem? (i := 9) rfl)) (ty := (.array .byte)) (by decide) rfl rfl (g := (mkF m 54 #[.val (.ref a1), .val (.ref a2), .val (.int (0 : Int32)), .val (.int (2 : Int32)), .val .null, .val (.ref u)] [(.ref u), (.ref a1)])) rfl rfl (hb hby d_jdk_42_method_149_54)
    refine go stt26 ?_
    have N27 := Fr.snoc Xt26 N23 fr1
    replace F1 := F1.same Wt26
    replace E1 := E1.wr Wt26
    replace F2 := F2.other Wt26 (Or.inr (slot_ne (Or.inr (hw _ (List.mem_of_getElem? (i := 25) rfl))) (Or.inr (hw _ (List.mem_of_getElem? (i := 24) rfl))) (by decide) (t := .byte) (by decide) (t' := (.array .byte)) (by decide)))
    replace Y2 := Y2.other Wt26 (Ne.symm ne)
    replace Yu := Yu.other Wt26 (Ne.symm ne_a1_u)
    have O28 : Ext Z.heap ht26 := extW O24 Wt26 fr1
    have K29 := K25.wr Wt26 (Or.inl (by simp))
    show Goes p e below _ (Tt26.setTop (mkF m 57 #[.val (.ref a1), .val (.ref a2), .val (.int (0 : Int32)), .val (.int (2 : Int32)), .val .null, .val (.ref u)] []))
    exact goRet0 Xt26 hx hret hlocks (hb hby d_jdk_42_method_149_57) (by decide) (by decide) et26 (⟨rfl, N27, K29, u, pa_u, F1, Or.inr ⟨F2, Yu⟩⟩)
theorem ef_rmS2 (m : MethodId) (x0 : Addr) (x1 : Addr) : entryFrame m #[(.ref x0), (.ref x1)] 2 = mkF m 0 #[.val (.ref x0), .val (.ref x1)] [] := by first | (simp [entryFrame, mkF, argsToLocals, Value.category]; done) | rfl
set_option maxRecDepth 65536 in
set_option maxHeartbeats 40000000 in
theorem rmS2 (l : Launch) (Z : State) (a0 : Array Value) (hw : ∀ d ∈ tables_1, d.before a0 Z = true) (cs : Int32) (c0 c1 : Int32) (a1 : Addr) (a2 : Addr) (h0 : Heap) (O0 : Ext Z.heap h0) (S_cs : Sta Z Z.heap "java/lang/String" "COMPACT_STRINGS" "Z" (.int cs)) (hcs : ¬ cs = 0) (S_ua : Sta Z Z.heap "java/lang/StringUTF16" "$assertionsDisabled" "Z" (.int (1 : Int32))) (S_uh : Sta Z Z.heap "java/lang/StringUTF16" "HI_BYTE_SHIFT" "I" (.int (0 : Int32))) (S_ul : Sta Z Z.heap "java/lang/StringUTF16" "LO_BYTE_SHIFT" "I" (.int (8 : Int32))) (E1 : Exa Z h0 a1 "java/lang/String") (F1 : Fld Z h0 a1 "java/lang/String" "value" "[B" .null) (F2 : Fld Z h0 a1 "java/lang/String" "coder" "B" (.int (0 : Int32))) (Y2 : Ary Z h0 a2 .char [(.int c0), (.int c1)]) (ne : a1 ≠ a2) (fr1 : Z.heap.size ≤ a1) (q0_0 : ¬ c0 < 0) (q1_0 : ¬ (65535 : Int32) < c0) (q0_1 : ¬ c1 < 0) (q1_1 : ¬ (65535 : Int32) < c1) :
    Ctr l Z (⟨"java/lang/String", "<init>", "([C)V"⟩ : MethodName) jdk_42_method_3_code 2 none [] ({ frames := 5, cells := 2, slots := 6, locals := 74 } : Room) #[(.ref a1), (.ref a2)] h0 (fun v h L => v = none ∧ Fr Z.heap.size L ∧ Keep h0 h [a1] ∧ ∃ u, h0.size ≤ u ∧ Fld Z h a1 "java/lang/String" "value" "[B" (.ref u) ∧ ((Fld Z h a1 "java/lang/String" "coder" "B" (.int (0 : Int32)) ∧ (¬ (255 : Int32) < c0 ∧ ¬ (255 : Int32) < c1) ∧ Ary Z h u .byte [(.int (c0.toInt8.toInt32)), (.int (c1.toInt8.toInt32))]) ∨ (Fld Z h a1 "java/lang/String" "coder" "B" (.int (1 : Int32)) ∧ Ary Z h u .byte [(.int ((c0 >>> ((0 : Int32) &&& 31)).toInt8.toInt32)), (.int ((c0 >>> ((8 : Int32) &&& 31)).toInt8.toInt32)), (.int ((c1 >>> ((0 : Int32) &&& 31)).toInt8.toInt32)), (.int ((c1 >>> ((8 : Int32) &&& 31)).toInt8.toInt32))]))) := by
  refine ctr (plainFor_of_name pn_1) ?_
  intro p e s m below meth c s₁ hx hby hml hown hnm hret hlocks hZ X0 e0
  have N0 := Fr.nil Z.heap.size
  have hsz : ∀ {Ls : Array Slot}, Ls.size = 2 → Ls.size = c.maxLocals := fun q => q.trans hml.symm
  have K0 := Keep.refl h0 [a1]
  refine goE (ef_rmS2 m (a1) (a2)) ?_
  show Goes p e below _ (s₁.setTop (mkF m 0 #[.val (.ref a1), .val (.ref a2)] []))
  refine gAloadN X0 hx (hb hby d_jdk_42_method_3_0) rfl rfl ?_
  refine gAloadN X0 hx (hb hby d_jdk_42_method_3_1) rfl rfl ?_
  refine gIconst X0 hx (hb hby d_jdk_42_method_3_2) (v := (0 : Int32)) rfl ?_
  refine gAloadN X0 hx (hb hby d_jdk_42_method_3_3) rfl rfl ?_
  refine goAlen X0 hx hZ e0 Y2 (n := (2 : Int32)) (hb hby d_jdk_42_method_3_4) rfl ?_
  refine gAnull X0 hx (hb hby d_jdk_42_method_3_5) ?_
  have lt_a1_t1 := E1.lt
  have lt_a2_t1 := Y2.lt
  refine goCallI X0 hx hZ rfl hown (hw _ (List.mem_of_getElem? (i := 15) rfl)) (hw _ (List.mem_of_getElem? (i := 16) rfl)) (hw _ (List.mem_of_getElem? (i := 10) rfl)) (hw _ (List.mem_of_getElem? (i := 18) rfl)) (by decide) (rmSd2 l Z a0 hw cs c0 c1 a1 a2 h0 O0 S_cs hcs S_ua S_uh S_ul E1 F1 F2 Y2 ne fr1 q0_0 q1_0 q0_1 q1_1) 0 (by decide) (by decide) e0 (hsz rfl) a1 [(.ref a2), (.int (0 : Int32)), (.int (2 : Int32)), .null] [] pd_14 rfl rfl rfl (Nat.le_of_eq rfl) (hb hby d_jdk_42_method_3_6) (by decide) (by decide) (fun Tt1 vt1 Lt1 Xt1 qt1 => ?_)
  obtain ⟨ht1, et1⟩ : ∃ z, Tt1.heap = z := ⟨_, rfl⟩
  rw [et1] at qt1
  obtain ⟨rfl, N2, Kct1, u, pu, Gv, Ga⟩ := qt1
  have N3 := Fr.app N0 N2
  replace E1 := E1.keep Kct1
  replace Y2 := Y2.keep Kct1 (ninS (Ne.symm ne) nin0)
  have O4 : Ext Z.heap ht1 := extK O0 Kct1 (allS fr1 all0)
  have K5 := K0.trans Kct1 (allS (Or.inl (by simp)) all0)
  have ne_a1_u : a1 ≠ u := Nat.ne_of_lt (Nat.lt_of_lt_of_le lt_a1_t1 pu)
  have ne_a2_u : a2 ≠ u := Nat.ne_of_lt (Nat.lt_of_lt_of_le lt_a2_t1 pu)
  have fr_u : Z.heap.size ≤ u := Nat.le_trans O0.1 pu
  have pa_u : h0.size ≤ u := Nat.le_trans K0.1 pu
  show Goes p e below _ (Tt1.setTop (mkF m 9 #[.val (.ref a1), .val (.ref a2)] []))
  exact goRet0 Xt1 hx hret hlocks (hb hby d_jdk_42_method_3_9) (by decide) (by decide) et1 (⟨rfl, N3, K5, u, pu, Gv, Ga⟩)
theorem d_method_4_35 : decode method_4_code 35 = .ok (.iload_n 0, 1) := by decide +kernel
theorem d_method_4_36 : decode method_4_code 36 = .ok (.iconst 2, 1) := by decide +kernel
theorem d_method_4_37 : decode method_4_code 37 = .ok (.if_icmp .ne 22, 3) := by decide +kernel
theorem d_method_4_40 : decode method_4_code 40 = .ok (.new 9, 3) := by decide +kernel
theorem d_method_4_43 : decode method_4_code 43 = .ok (.dup, 1) := by decide +kernel
theorem d_method_4_44 : decode method_4_code 44 = .ok (.iconst 2, 1) := by decide +kernel
theorem d_method_4_45 : decode method_4_code 45 = .ok (.newarray .char, 2) := by decide +kernel
theorem d_method_4_47 : decode method_4_code 47 = .ok (.dup, 1) := by decide +kernel
theorem d_method_4_48 : decode method_4_code 48 = .ok (.iconst 0, 1) := by decide +kernel
theorem d_method_4_49 : decode method_4_code 49 = .ok (.iload_n 1, 1) := by decide +kernel
theorem d_method_4_50 : decode method_4_code 50 = .ok (.castore, 1) := by decide +kernel
theorem d_method_4_51 : decode method_4_code 51 = .ok (.dup, 1) := by decide +kernel
theorem d_method_4_52 : decode method_4_code 52 = .ok (.iconst 1, 1) := by decide +kernel
theorem d_method_4_53 : decode method_4_code 53 = .ok (.iload_n 2, 1) := by decide +kernel
theorem d_method_4_54 : decode method_4_code 54 = .ok (.castore, 1) := by decide +kernel
theorem d_method_4_55 : decode method_4_code 55 = .ok (.invokespecial 11, 3) := by decide +kernel
theorem d_method_4_58 : decode method_4_code 58 = .ok (.areturn, 1) := by decide +kernel
theorem ef_rmBd2 (m : MethodId) (x0 : Int32) (x1 : Int32) (x2 : Int32) (x3 : Int32) : entryFrame m #[(.int x0), (.int x1), (.int x2), (.int x3)] 4 = mkF m 0 #[.val (.int x0), .val (.int x1), .val (.int x2), .val (.int x3)] [] := by first | (simp [entryFrame, mkF, argsToLocals, Value.category]; done) | rfl
set_option maxRecDepth 65536 in
set_option maxHeartbeats 40000000 in
theorem rmBd2 (l : Launch) (Z : State) (a0 : Array Value) (hw : ∀ d ∈ tables_1, d.before a0 Z = true) (cs : Int32) (c0 : Int32) (c1 : Int32) (c2 : Int32) (h0 : Heap) (O0 : Ext Z.heap h0) (S_cs : Sta Z Z.heap "java/lang/String" "COMPACT_STRINGS" "Z" (.int cs)) (hcs : ¬ cs = 0) (S_ua : Sta Z Z.heap "java/lang/StringUTF16" "$assertionsDisabled" "Z" (.int (1 : Int32))) (S_uh : Sta Z Z.heap "java/lang/StringUTF16" "HI_BYTE_SHIFT" "I" (.int (0 : Int32))) (S_ul : Sta Z Z.heap "java/lang/StringUTF16" "LO_BYTE_SHIFT" "I" (.int (8 : Int32))) (nc0 : nar .char c0 = c0) (nc1 : nar .char c1 = c1) (q0_0 : ¬ c0 < 0) (q1_0 : ¬ (65535 : Int32) < c0) (q0_1 : ¬ c1 < 0) (q1_1 : ¬ (65535 : Int32) < c1) :
    Ctr l Z (⟨"com/example/rolegate/rolegate/HttpSyntaxIsTokenPinLaw", "build", "(ICCC)Ljava/lang/String;"⟩ : MethodName) method_4_code 4 (some (.object "java/lang/String")) [] ({ frames := 6, cells := 4, slots := 12, locals := 88 } : Room) #[(.int (2 : Int32)), (.int c0), (.int c1), (.int c2)] h0 (fun v h L => ∃ b_, v = some (.ref b_) ∧ Fr Z.heap.size L ∧ Keep h0 h [] ∧ Exa Z h b_ "java/lang/String" ∧ ∃ u, Fld Z h b_ "java/lang/String" "value" "[B" (.ref u) ∧ ((Fld Z h b_ "java/lang/String" "coder" "B" (.int (0 : Int32)) ∧ (¬ (255 : Int32) < c0 ∧ ¬ (255 : Int32) < c1) ∧ Ary Z h u .byte [(.int (c0.toInt8.toInt32)), (.int (c1.toInt8.toInt32))]) ∨ (Fld Z h b_ "java/lang/String" "coder" "B" (.int (1 : Int32)) ∧ Ary Z h u .byte [(.int ((c0 >>> ((0 : Int32) &&& 31)).toInt8.toInt32)), (.int ((c0 >>> ((8 : Int32) &&& 31)).toInt8.toInt32)), (.int ((c1 >>> ((0 : Int32) &&& 31)).toInt8.toInt32)), (.int ((c1 >>> ((8 : Int32) &&& 31)).toInt8.toInt32))]))) := by
  refine ctr (plainFor_of_name pn_5) ?_
  intro p e s m below meth c s₁ hx hby hml hown hnm hret hlocks hZ X0 e0
  have N0 := Fr.nil Z.heap.size
  have hsz : ∀ {Ls : Array Slot}, Ls.size = 4 → Ls.size = c.maxLocals := fun q => q.trans hml.symm
  have K0 := Keep.refl h0 []
  refine goE (ef_rmBd2 m ((2 : Int32)) (c0) (c1) (c2)) ?_
  show Goes p e below _ (s₁.setTop (mkF m 0 #[.val (.int (2 : Int32)), .val (.int c0), .val (.int c1), .val (.int c2)] []))
  refine gIloadN X0 hx (hb hby d_method_4_0) rfl ?_
  refine gIfY X0 hx (hb hby d_method_4_1) (pc' := 15) (XT.i0_ne_t (by decide)) (by decide) (by decide) ?_
  show Goes p e below _ (s₁.setTop (mkF m 15 #[.val (.int (2 : Int32)), .val (.int c0), .val (.int c1), .val (.int c2)] []))
  refine gIloadN X0 hx (hb hby d_method_4_15) rfl ?_
  refine gIconst X0 hx (hb hby d_method_4_16) (v := (1 : Int32)) rfl ?_
  refine gIcmpY X0 hx (hb hby d_method_4_17) (pc' := 35) (XT.ii_ne_t (by decide)) (by decide) (by decide) ?_
  show Goes p e below _ (s₁.setTop (mkF m 35 #[.val (.int (2 : Int32)), .val (.int c0), .val (.int c1), .val (.int c2)] []))
  refine gIloadN X0 hx (hb hby d_method_4_35) rfl ?_
  refine gIconst X0 hx (hb hby d_method_4_36) (v := (2 : Int32)) rfl ?_
  refine gIcmpN X0 hx (hb hby d_method_4_37) (XT.ii_ne_f rfl) ?_
  show Goes p e below _ (s₁.setTop (mkF m 40 #[.val (.int (2 : Int32)), .val (.int c0), .val (.int c1), .val (.int c2)] []))
  obtain ⟨Tt1, ht1, Xt1, et1, Et1, At1, Dt1, -, stt1⟩ := newO X0 hx hZ hown (hw _ (List.mem_of_getElem? (i := 8) rfl)) (hw _ (List.mem_of_getElem? (i := 9) rfl)) (hw _ (List.mem_of_getElem? (i := 10) rfl)) e0 (g := (mkF m 40 #[.val (.int (2 : Int32)), .val (.int c0), .val (.int c1), .val (.int c2)] [])) rfl (hb hby d_method_4_40) (by decide) (by decide)
  obtain ⟨ob2, gob2⟩ : ∃ z, z = h0.size := ⟨_, rfl⟩
  rw [← gob2] at At1 Dt1 stt1
  refine go stt1 ?_
  have fr_ob2 : Z.heap.size ≤ ob2 := gob2 ▸ O0.1
  have pa_ob2 : h0.size ≤ ob2 := gob2 ▸ K0.1
  have O3 : Ext Z.heap ht1 := extT O0 Et1
  have K4 := K0.ext Et1
  have F_value_ob2 : Fld Z ht1 ob2 "java/lang/String" "value" "[B" .null := Dt1 (Or.inr (hw _ (List.mem_of_getElem? (i := 24) rfl))) (ty := (.array .byte)) (by decide)
  have F_coder_ob2 : Fld Z ht1 ob2 "java/lang/String" "coder" "B" (.int (0 : Int32)) := Dt1 (Or.inr (hw _ (List.mem_of_getElem? (i := 25) rfl))) (ty := .byte) (by decide)
  show Goes p e below _ (Tt1.setTop (mkF m 43 #[.val (.int (2 : Int32)), .val (.int c0), .val (.int c1), .val (.int c2)] [(.ref ob2)]))
  refine gDup Xt1 hx (hb hby d_method_4_43) rfl ?_
  refine gIconst Xt1 hx (hb hby d_method_4_44) (v := (2 : Int32)) rfl ?_
  obtain ⟨Tt5, ht5, kt5, Xt5, et5, Et5, At5, stt5⟩ := newP Xt1 hx hZ (hw _ (List.mem_of_getElem? (i := 11) rfl)) et1 (g := (mkF m 45 #[.val (.int (2 : Int32)), .val (.int c0), .val (.int c1), .val (.int c2)] [(.int (2 : Int32)), (.ref ob2), (.ref ob2)])) rfl (hb hby d_method_4_45) rfl (by decide) (cap := 2) (by decide) (by decide) (by decide) (by decide)
  obtain ⟨ob6, gob6⟩ : ∃ z, z = ht1.size := ⟨_, rfl⟩
  rw [← gob6] at At5 stt5
  refine go stt5 ?_
  have ne_ob2_ob6 : ob2 ≠ ob6 := Nat.ne_of_lt (gob6 ▸ At1.lt)
  have fr_ob6 : Z.heap.size ≤ ob6 := gob6 ▸ O3.1
  have pa_ob6 : h0.size ≤ ob6 := gob6 ▸ K4.1
  replace At1 := At1.ext Et5
  replace F_value_ob2 := F_value_ob2.ext Et5
  replace F_coder_ob2 := F_coder_ob2.ext Et5
  have O7 : Ext Z.heap ht5 := extT O3 Et5
  have K8 := K4.ext Et5
  have Y_ob6 : Ary Z ht5 ob6 .char [(.int (0 : Int32)), (.int (0 : Int32))] := Ary.new At5 rfl (by decide)
  show Goes p e below _ (Tt5.setTop (mkF m 47 #[.val (.int (2 : Int32)), .val (.int c0), .val (.int c1), .val (.int c2)] [(.ref ob6), (.ref ob2), (.ref ob2)]))
  refine gDup Xt5 hx (hb hby d_method_4_47) rfl ?_
  refine gIconst Xt5 hx (hb hby d_method_4_48) (v := (0 : Int32)) rfl ?_
  refine gIloadN Xt5 hx (hb hby d_method_4_49) rfl ?_
  refine goCastore Xt5 hx hZ et5 Y_ob6 (hb hby d_method_4_50) (by decide) rfl (fun Tt9 ht9 Xt9 et9 Wt9 => ?_)
  have N10 := Fr.snoc Xt9 N0 fr_ob6
  replace Y_ob6 : Ary Z ht9 ob6 .char [(.int c0), (.int (0 : Int32))] := Y_ob6.set Wt9 (by rw [nc0]; rfl)
  replace At1 := At1.wr Wt9
  replace F_value_ob2 := F_value_ob2.other Wt9 (Or.inl ne_ob2_ob6)
  replace F_coder_ob2 := F_coder_ob2.other Wt9 (Or.inl ne_ob2_ob6)
  have O11 : Ext Z.heap ht9 := extW O7 Wt9 fr_ob6
  have K12 := K8.wr Wt9 (Or.inr pa_ob6)
  show Goes p e below _ (Tt9.setTop (mkF m 51 #[.val (.int (2 : Int32)), .val (.int c0), .val (.int c1), .val (.int c2)] [(.ref ob6), (.ref ob2), (.ref ob2)]))
  refine gDup Xt9 hx (hb hby d_method_4_51) rfl ?_
  refine gIconst Xt9 hx (hb hby d_method_4_52) (v := (1 : Int32)) rfl ?_
  refine gIloadN Xt9 hx (hb hby d_method_4_53) rfl ?_
  refine goCastore Xt9 hx hZ et9 Y_ob6 (hb hby d_method_4_54) (by decide) rfl (fun Tt13 ht13 Xt13 et13 Wt13 => ?_)
  have N14 := Fr.snoc Xt13 N10 fr_ob6
  replace Y_ob6 : Ary Z ht13 ob6 .char [(.int c0), (.int c1)] := Y_ob6.set Wt13 (by rw [nc1]; rfl)
  replace At1 := At1.wr Wt13
  replace F_value_ob2 := F_value_ob2.other Wt13 (Or.inl ne_ob2_ob6)
  replace F_coder_ob2 := F_coder_ob2.other Wt13 (Or.inl ne_ob2_ob6)
  have O15 : Ext Z.heap ht13 := extW O11 Wt13 fr_ob6
  have K16 := K12.wr Wt13 (Or.inr pa_ob6)
  show Goes p e below _ (Tt13.setTop (mkF m 55 #[.val (.int (2 : Int32)), .val (.int c0), .val (.int c1), .val (.int c2)] [(.ref ob6), (.ref ob2), (.ref ob2)]))
  refine goCallI Xt13 hx hZ rfl hown (hw _ (List.mem_of_getElem? (i := 12) rfl)) (hw _ (List.mem_of_getElem? (i := 13) rfl)) (hw _ (List.mem_of_getElem? (i := 10) rfl)) (hw _ (List.mem_of_getElem? (i := 14) rfl)) (by decide) (rmS2 l Z a0 hw cs c0 c1 ob2 ob6 ht13 O15 S_cs hcs S_ua S_uh S_ul At1 F_value_ob2 F_coder_ob2 Y_ob6 ne_ob2_ob6 fr_ob2 q0_0 q1_0 q0_1 q1_1) 1 (by decide) (by decide) et13 (hsz rfl) ob2 [(.ref ob6)] [(.ref ob2)] pd_15 rfl rfl rfl (Nat.le_of_eq rfl) (hb hby d_method_4_55) (by decide) (by decide) (fun Tt17 vt17 Lt17 Xt17 qt17 => ?_)
  obtain ⟨ht17, et17⟩ : ∃ z, Tt17.heap = z := ⟨_, rfl⟩
  rw [et17] at qt17
  obtain ⟨rfl, N18, Kct17, u, pu, Gv, Ga⟩ := qt17
  have N19 := Fr.app N14 N18
  replace At1 := At1.keep Kct17
  replace Y_ob6 := Y_ob6.keep Kct17 (ninS (Ne.symm ne_ob2_ob6) nin0)
  have O20 : Ext Z.heap ht17 := extK O15 Kct17 (allS fr_ob2 all0)
  have K21 := K16.trans Kct17 (allS (Or.inr pa_ob2) all0)
  show Goes p e below _ (Tt17.setTop (mkF m 58 #[.val (.int (2 : Int32)), .val (.int c0), .val (.int c1), .val (.int c2)] [(.ref ob2)]))
  exact goRetA Xt17 hx hret hlocks rfl rfl (hb hby d_method_4_58) (by decide) (by decide) et17 (⟨ob2, rfl, N19, K21, At1, u, Gv, Ga⟩)
theorem ef_rmXe20 (m : MethodId) (x0 : Addr) : entryFrame m #[(.ref x0)] 1 = mkF m 0 #[.val (.ref x0)] [] := by first | (simp [entryFrame, mkF, argsToLocals, Value.category]; done) | rfl
set_option maxRecDepth 65536 in
set_option maxHeartbeats 40000000 in
theorem rmXe20 (l : Launch) (Z : State) (a0 : Array Value) (hw : ∀ d ∈ tables_1, d.before a0 Z = true) (u : Addr) (cs : Int32) (c0 c1 : Int32) (a1 : Addr) (h0 : Heap) (O0 : Ext Z.heap h0) (S_cs : Sta Z Z.heap "java/lang/String" "COMPACT_STRINGS" "Z" (.int cs)) (hcs : ¬ cs = 0) (E1 : Exa Z h0 a1 "java/lang/String") (V1 : Fld Z h0 a1 "java/lang/String" "value" "[B" (.ref u)) (C1 : Fld Z h0 a1 "java/lang/String" "coder" "B" (.int (0 : Int32))) (Y1 : Ary Z h0 u .byte [(.int (c0.toInt8.toInt32)), (.int (c1.toInt8.toInt32))]) :
    Ctr l Z (⟨"java/lang/String", "isEmpty", "()Z"⟩ : MethodName) jdk_42_method_55_code 1 (some .boolean) [] ({ frames := 0, cells := 0, slots := 0, locals := 0 } : Room) #[(.ref a1)] h0 (fun v h L => v = some (.int 0) ∧ Fr Z.heap.size L ∧ h = h0) := by
  refine ctr (plainFor_of_name pn_1) ?_
  intro p e s m below meth c s₁ hx hby hml hown hnm hret hlocks hZ X0 e0
  have N0 := Fr.nil Z.heap.size
  have hsz : ∀ {Ls : Array Slot}, Ls.size = 1 → Ls.size = c.maxLocals := fun q => q.trans hml.symm
  refine goE (ef_rmXe20 m (a1)) ?_
  show Goes p e below _ (s₁.setTop (mkF m 0 #[.val (.ref a1)] []))
  refine gAloadN X0 hx (hb hby d_jdk_42_method_55_0) rfl rfl ?_
  obtain ⟨Tt1, Xt1, et1, stt1⟩ := getF X0 hx hZ hown (host := "") (Or.inl (hw _ (List.mem_of_getElem? (i := 28) rfl))) Via.refl e0 V1 (g := (mkF m 1 #[.val (.ref a1)] [(.ref a1)])) rfl rfl (hb hby d_jdk_42_method_55_1)
  refine go stt1 ?_
  show Goes p e below _ (Tt1.setTop (mkF m 4 #[.val (.ref a1)] [(.ref u)]))
  refine goAlen Xt1 hx hZ et1 Y1 (n := (2 : Int32)) (hb hby d_jdk_42_method_55_4) rfl ?_
  refine gIfY Xt1 hx (hb hby d_jdk_42_method_55_5) (pc' := 12) (XT.i0_ne_t (by decide)) (by decide) (by decide) ?_
  show Goes p e below _ (Tt1.setTop (mkF m 12 #[.val (.ref a1)] []))
  refine gIconst Xt1 hx (hb hby d_jdk_42_method_55_12) (v := (0 : Int32)) rfl ?_
  exact goRetN Xt1 hx (t := .boolean) hret hlocks (by simp) (hb hby d_jdk_42_method_55_13) (z' := (0 : Int32)) rfl (by decide) (by decide) et1 (⟨rfl, N0, rfl⟩)
theorem ef_rmXc20 (m : MethodId) (x0 : Addr) : entryFrame m #[(.ref x0)] 1 = mkF m 0 #[.val (.ref x0)] [] := by first | (simp [entryFrame, mkF, argsToLocals, Value.category]; done) | rfl
set_option maxRecDepth 65536 in
set_option maxHeartbeats 40000000 in
theorem rmXc20 (l : Launch) (Z : State) (a0 : Array Value) (hw : ∀ d ∈ tables_1, d.before a0 Z = true) (u : Addr) (cs : Int32) (c0 c1 : Int32) (a1 : Addr) (h0 : Heap) (O0 : Ext Z.heap h0) (S_cs : Sta Z Z.heap "java/lang/String" "COMPACT_STRINGS" "Z" (.int cs)) (hcs : ¬ cs = 0) (E1 : Exa Z h0 a1 "java/lang/String") (V1 : Fld Z h0 a1 "java/lang/String" "value" "[B" (.ref u)) (C1 : Fld Z h0 a1 "java/lang/String" "coder" "B" (.int (0 : Int32))) (Y1 : Ary Z h0 u .byte [(.int (c0.toInt8.toInt32)), (.int (c1.toInt8.toInt32))]) :
    Ctr l Z (⟨"java/lang/String", "coder", "()B"⟩ : MethodName) jdk_42_method_152_code 1 (some .byte) [] ({ frames := 0, cells := 0, slots := 0, locals := 0 } : Room) #[(.ref a1)] h0 (fun v h L => v = some (.int (0 : Int32)) ∧ Fr Z.heap.size L ∧ h = h0) := by
  refine ctr (plainFor_of_name pn_1) ?_
  intro p e s m below meth c s₁ hx hby hml hown hnm hret hlocks hZ X0 e0
  have N0 := Fr.nil Z.heap.size
  have hsz : ∀ {Ls : Array Slot}, Ls.size = 1 → Ls.size = c.maxLocals := fun q => q.trans hml.symm
  refine goE (ef_rmXc20 m (a1)) ?_
  show Goes p e below _ (s₁.setTop (mkF m 0 #[.val (.ref a1)] []))
  obtain ⟨Tt1, Xt1, et1, stt1⟩ := getS2 X0 hx hZ hown (host := "") (Or.inl (hw _ (List.mem_of_getElem? (i := 39) rfl))) Via.refl e0 (S_cs.ext O0) (g := (mkF m 0 #[.val (.ref a1)] [])) rfl (hb hby d_jdk_42_method_152_0)
  refine go stt1 ?_
  show Goes p e below _ (Tt1.setTop (mkF m 3 #[.val (.ref a1)] [(.int cs)]))
  refine gIfN Xt1 hx (hb hby d_jdk_42_method_152_3) (XT.i0_eq_f hcs) ?_
  show Goes p e below _ (Tt1.setTop (mkF m 6 #[.val (.ref a1)] []))
  refine gAloadN Xt1 hx (hb hby d_jdk_42_method_152_6) rfl rfl ?_
  obtain ⟨Tt2, Xt2, et2, stt2⟩ := getF Xt1 hx hZ hown (host := "") (Or.inl (hw _ (List.mem_of_getElem? (i := 29) rfl))) Via.refl et1 C1 (g := (mkF m 7 #[.val (.ref a1)] [(.ref a1)])) rfl rfl (hb hby d_jdk_42_method_152_7)
  refine go stt2 ?_
  show Goes p e below _ (Tt2.setTop (mkF m 10 #[.val (.ref a1)] [(.int (0 : Int32))]))
  refine gGoto Xt2 hx (hb hby d_jdk_42_method_152_10) (pc' := 14) (by decide) (by decide) ?_
  show Goes p e below _ (Tt2.setTop (mkF m 14 #[.val (.ref a1)] [(.int (0 : Int32))]))
  exact goRetN Xt2 hx (t := .byte) hret hlocks (by simp) (hb hby d_jdk_42_method_152_14) (z' := (0 : Int32)) rfl (by decide) (by decide) et2 (⟨rfl, N0, rfl⟩)
theorem ef_rmXl20 (m : MethodId) (x0 : Addr) : entryFrame m #[(.ref x0)] 1 = mkF m 0 #[.val (.ref x0)] [] := by first | (simp [entryFrame, mkF, argsToLocals, Value.category]; done) | rfl
set_option maxRecDepth 65536 in
set_option maxHeartbeats 40000000 in
theorem rmXl20 (l : Launch) (Z : State) (a0 : Array Value) (hw : ∀ d ∈ tables_1, d.before a0 Z = true) (u : Addr) (cs : Int32) (c0 c1 : Int32) (a1 : Addr) (h0 : Heap) (O0 : Ext Z.heap h0) (S_cs : Sta Z Z.heap "java/lang/String" "COMPACT_STRINGS" "Z" (.int cs)) (hcs : ¬ cs = 0) (E1 : Exa Z h0 a1 "java/lang/String") (V1 : Fld Z h0 a1 "java/lang/String" "value" "[B" (.ref u)) (C1 : Fld Z h0 a1 "java/lang/String" "coder" "B" (.int (0 : Int32))) (Y1 : Ary Z h0 u .byte [(.int (c0.toInt8.toInt32)), (.int (c1.toInt8.toInt32))]) :
    Ctr l Z (⟨"java/lang/String", "length", "()I"⟩ : MethodName) jdk_42_method_54_code 1 (some .int) [] ({ frames := 1, cells := 0, slots := 0, locals := 13 } : Room) #[(.ref a1)] h0 (fun v h L => v = some (.int (2 : Int32)) ∧ Fr Z.heap.size L ∧ h = h0) := by
  refine ctr (plainFor_of_name pn_1) ?_
  intro p e s m below meth c s₁ hx hby hml hown hnm hret hlocks hZ X0 e0
  have N0 := Fr.nil Z.heap.size
  have hsz : ∀ {Ls : Array Slot}, Ls.size = 1 → Ls.size = c.maxLocals := fun q => q.trans hml.symm
  refine goE (ef_rmXl20 m (a1)) ?_
  show Goes p e below _ (s₁.setTop (mkF m 0 #[.val (.ref a1)] []))
  refine gAloadN X0 hx (hb hby d_jdk_42_method_54_0) rfl rfl ?_
  obtain ⟨Tt1, Xt1, et1, stt1⟩ := getF X0 hx hZ hown (host := "") (Or.inl (hw _ (List.mem_of_getElem? (i := 28) rfl))) Via.refl e0 V1 (g := (mkF m 1 #[.val (.ref a1)] [(.ref a1)])) rfl rfl (hb hby d_jdk_42_method_54_1)
  refine go stt1 ?_
  show Goes p e below _ (Tt1.setTop (mkF m 4 #[.val (.ref a1)] [(.ref u)]))
  refine goAlen Xt1 hx hZ et1 Y1 (n := (2 : Int32)) (hb hby d_jdk_42_method_54_4) rfl ?_
  refine gAloadN Xt1 hx (hb hby d_jdk_42_method_54_5) rfl rfl ?_
  refine goCallV Xt1 hx hZ hown (hw _ (List.mem_of_getElem? (i := 58) rfl)) (hw _ (List.mem_of_getElem? (i := 59) rfl)) (hw _ (List.mem_of_getElem? (i := 61) rfl)) (hw _ (List.mem_of_getElem? (i := 60) rfl)) (hw _ (List.mem_of_getElem? (i := 10) rfl)) (hw _ (List.mem_of_getElem? (i := 62) rfl)) (by decide) (rmXc20 l Z a0 hw u cs c0 c1 a1 h0 O0 S_cs hcs E1 V1 C1 Y1) 1 (by decide) (by decide) et1 E1 (hsz rfl) [] [(.int (2 : Int32))] pd_3 rfl rfl rfl (Nat.le_of_eq rfl) (hb hby d_jdk_42_method_54_6) (by decide) (by decide) (fun Tt2 vt2 Lt2 Xt2 qt2 => ?_)
  obtain ⟨rfl, N3, et2⟩ := qt2
  have N4 := Fr.app N0 N3
  show Goes p e below _ (Tt2.setTop (mkF m 9 #[.val (.ref a1)] [(.int (0 : Int32)), (.int (2 : Int32))]))
  refine gIshr Xt2 hx (hb hby d_jdk_42_method_54_9) ?_
  exact goRetI Xt2 hx hret hlocks (hb hby d_jdk_42_method_54_10) (by decide) (by decide) et2 (⟨congrArg (fun z => some (Value.int z)) (by decide), N4, rfl⟩)
theorem ef_rmXi20 (m : MethodId) (x0 : Addr) : entryFrame m #[(.ref x0)] 1 = mkF m 0 #[.val (.ref x0)] [] := by first | (simp [entryFrame, mkF, argsToLocals, Value.category]; done) | rfl
set_option maxRecDepth 65536 in
set_option maxHeartbeats 40000000 in
theorem rmXi20 (l : Launch) (Z : State) (a0 : Array Value) (hw : ∀ d ∈ tables_1, d.before a0 Z = true) (u : Addr) (cs : Int32) (c0 c1 : Int32) (a1 : Addr) (h0 : Heap) (O0 : Ext Z.heap h0) (S_cs : Sta Z Z.heap "java/lang/String" "COMPACT_STRINGS" "Z" (.int cs)) (hcs : ¬ cs = 0) (E1 : Exa Z h0 a1 "java/lang/String") (V1 : Fld Z h0 a1 "java/lang/String" "value" "[B" (.ref u)) (C1 : Fld Z h0 a1 "java/lang/String" "coder" "B" (.int (0 : Int32))) (Y1 : Ary Z h0 u .byte [(.int (c0.toInt8.toInt32)), (.int (c1.toInt8.toInt32))]) :
    Ctr l Z (⟨"java/lang/String", "isLatin1", "()Z"⟩ : MethodName) jdk_42_method_154_code 1 (some .boolean) [] ({ frames := 0, cells := 0, slots := 0, locals := 0 } : Room) #[(.ref a1)] h0 (fun v h L => v = some (.int (1 : Int32)) ∧ Fr Z.heap.size L ∧ h = h0) := by
  refine ctr (plainFor_of_name pn_1) ?_
  intro p e s m below meth c s₁ hx hby hml hown hnm hret hlocks hZ X0 e0
  have N0 := Fr.nil Z.heap.size
  have hsz : ∀ {Ls : Array Slot}, Ls.size = 1 → Ls.size = c.maxLocals := fun q => q.trans hml.symm
  refine goE (ef_rmXi20 m (a1)) ?_
  show Goes p e below _ (s₁.setTop (mkF m 0 #[.val (.ref a1)] []))
  obtain ⟨Tt1, Xt1, et1, stt1⟩ := getS2 X0 hx hZ hown (host := "") (Or.inl (hw _ (List.mem_of_getElem? (i := 39) rfl))) Via.refl e0 (S_cs.ext O0) (g := (mkF m 0 #[.val (.ref a1)] [])) rfl (hb hby d_jdk_42_method_154_0)
  refine go stt1 ?_
  show Goes p e below _ (Tt1.setTop (mkF m 3 #[.val (.ref a1)] [(.int cs)]))
  refine gIfN Xt1 hx (hb hby d_jdk_42_method_154_3) (XT.i0_eq_f hcs) ?_
  show Goes p e below _ (Tt1.setTop (mkF m 6 #[.val (.ref a1)] []))
  refine gAloadN Xt1 hx (hb hby d_jdk_42_method_154_6) rfl rfl ?_
  obtain ⟨Tt2, Xt2, et2, stt2⟩ := getF Xt1 hx hZ hown (host := "") (Or.inl (hw _ (List.mem_of_getElem? (i := 29) rfl))) Via.refl et1 C1 (g := (mkF m 7 #[.val (.ref a1)] [(.ref a1)])) rfl rfl (hb hby d_jdk_42_method_154_7)
  refine go stt2 ?_
  show Goes p e below _ (Tt2.setTop (mkF m 10 #[.val (.ref a1)] [(.int (0 : Int32))]))
  refine gIfN Xt2 hx (hb hby d_jdk_42_method_154_10) (XT.i0_ne_f (by decide)) ?_
  show Goes p e below _ (Tt2.setTop (mkF m 13 #[.val (.ref a1)] []))
  refine gIconst Xt2 hx (hb hby d_jdk_42_method_154_13) (v := (1 : Int32)) rfl ?_
  refine gGoto Xt2 hx (hb hby d_jdk_42_method_154_14) (pc' := 18) (by decide) (by decide) ?_
  show Goes p e below _ (Tt2.setTop (mkF m 18 #[.val (.ref a1)] [(.int (1 : Int32))]))
  exact goRetN Xt2 hx (t := .boolean) hret hlocks (by simp) (hb hby d_jdk_42_method_154_18) (z' := (1 : Int32)) rfl (by decide) (by decide) et2 (⟨rfl, N0, rfl⟩)
theorem ef_rmLc20 (m : MethodId) (x0 : Addr) (x1 : Int32) : entryFrame m #[(.ref x0), (.int x1)] 2 = mkF m 0 #[.val (.ref x0), .val (.int x1)] [] := by first | (simp [entryFrame, mkF, argsToLocals, Value.category]; done) | rfl
set_option maxRecDepth 65536 in
set_option maxHeartbeats 40000000 in
theorem rmLc20 (l : Launch) (Z : State) (a0 : Array Value) (hw : ∀ d ∈ tables_1, d.before a0 Z = true) (fm : Value) (c0 c1 : Int32) (u : Addr) (h0 : Heap) (O0 : Ext Z.heap h0) (S_fm : Sta Z Z.heap "jdk/internal/util/Preconditions" "SIOOBE_FORMATTER" "Ljava/util/function/BiFunction;" fm) (rf : fm.isRef = true) (Y1 : Ary Z h0 u .byte [(.int (c0.toInt8.toInt32)), (.int (c1.toInt8.toInt32))]) (g0 : ¬ c0 < 0) (g1 : ¬ (255 : Int32) < c0) :
    Ctr l Z (⟨"java/lang/StringLatin1", "charAt", "([BI)C"⟩ : MethodName) jdk_43_method_2_code 2 (some .char) [] ({ frames := 2, cells := 0, slots := 0, locals := 27 } : Room) #[(.ref u), (.int (0 : Int32))] h0 (fun v h L => v = some (.int c0) ∧ Fr Z.heap.size L ∧ h = h0) := by
  refine ctr (plainFor_of_name pn_0) ?_
  intro p e s m below meth c s₁ hx hby hml hown hnm hret hlocks hZ X0 e0
  have N0 := Fr.nil Z.heap.size
  have hsz : ∀ {Ls : Array Slot}, Ls.size = 2 → Ls.size = c.maxLocals := fun q => q.trans hml.symm
  refine goE (ef_rmLc20 m (u) ((0 : Int32))) ?_
  show Goes p e below _ (s₁.setTop (mkF m 0 #[.val (.ref u), .val (.int (0 : Int32))] []))
  refine gIloadN X0 hx (hb hby d_jdk_43_method_2_0) rfl ?_
  refine gAloadN X0 hx (hb hby d_jdk_43_method_2_1) rfl rfl ?_
  refine goAlen X0 hx hZ e0 Y1 (n := (2 : Int32)) (hb hby d_jdk_43_method_2_2) rfl ?_
  refine goCallS X0 hx hZ hown (hw _ (List.mem_of_getElem? (i := 77) rfl)) (hw _ (List.mem_of_getElem? (i := 78) rfl)) (hw _ (List.mem_of_getElem? (i := 10) rfl)) (hw _ (List.mem_of_getElem? (i := 79) rfl)) (by decide) (rmCk l Z a0 hw fm (0 : Int32) (2 : Int32) h0 O0 S_fm rf (by decide) (by decide)) 0 (by decide) (by decide) e0 (hsz rfl) [(.int (0 : Int32)), (.int (2 : Int32))] [] pd_16 rfl rfl rfl (Nat.le_of_eq rfl) (hb hby d_jdk_43_method_2_3) (by decide) (by decide) (fun Tt1 vt1 Lt1 Xt1 qt1 => ?_)
  obtain ⟨rfl, N2, et1⟩ := qt1
  have N3 := Fr.app N0 N2
  show Goes p e below _ (Tt1.setTop (mkF m 6 #[.val (.ref u), .val (.int (0 : Int32))] []))
  refine gAloadN Xt1 hx (hb hby d_jdk_43_method_2_6) rfl rfl ?_
  refine gIloadN Xt1 hx (hb hby d_jdk_43_method_2_7) rfl ?_
  refine goBaload Xt1 hx hZ et1 Y1 (x := (c0.toInt8.toInt32)) (hb hby d_jdk_43_method_2_8) (by decide) rfl ?_
  refine gSipush Xt1 hx (hb hby d_jdk_43_method_2_9) (v := (255 : Int32)) rfl ?_
  refine gIand Xt1 hx (hb hby d_jdk_43_method_2_12) ?_
  refine gI2c Xt1 hx (hb hby d_jdk_43_method_2_13) ?_
  exact goRetN Xt1 hx (t := .char) hret hlocks (by simp) (hb hby d_jdk_43_method_2_14) (z' := c0) ((narc _).trans (own_lc g0 g1)) (by decide) (by decide) et1 (⟨rfl, N3, rfl⟩)
theorem ef_rmXa200 (m : MethodId) (x0 : Addr) (x1 : Int32) : entryFrame m #[(.ref x0), (.int x1)] 2 = mkF m 0 #[.val (.ref x0), .val (.int x1)] [] := by first | (simp [entryFrame, mkF, argsToLocals, Value.category]; done) | rfl
set_option maxRecDepth 65536 in
set_option maxHeartbeats 40000000 in
theorem rmXa200 (l : Launch) (Z : State) (a0 : Array Value) (hw : ∀ d ∈ tables_1, d.before a0 Z = true) (fm : Value) (u : Addr) (cs : Int32) (c0 c1 : Int32) (a1 : Addr) (h0 : Heap) (O0 : Ext Z.heap h0) (S_cs : Sta Z Z.heap "java/lang/String" "COMPACT_STRINGS" "Z" (.int cs)) (hcs : ¬ cs = 0) (E1 : Exa Z h0 a1 "java/lang/String") (V1 : Fld Z h0 a1 "java/lang/String" "value" "[B" (.ref u)) (C1 : Fld Z h0 a1 "java/lang/String" "coder" "B" (.int (0 : Int32))) (Y1 : Ary Z h0 u .byte [(.int (c0.toInt8.toInt32)), (.int (c1.toInt8.toInt32))]) (S_fm : Sta Z Z.heap "jdk/internal/util/Preconditions" "SIOOBE_FORMATTER" "Ljava/util/function/BiFunction;" fm) (rf : fm.isRef = true) (g0 : ¬ c0 < 0) (g1 : ¬ (255 : Int32) < c0) (nc : nar .char c0 = c0) :
    Ctr l Z (⟨"java/lang/String", "charAt", "(I)C"⟩ : MethodName) jdk_42_method_56_code 2 (some .char) [] ({ frames := 4, cells := 0, slots := 0, locals := 53 } : Room) #[(.ref a1), (.int (0 : Int32))] h0 (fun v h L => v = some (.int c0) ∧ Fr Z.heap.size L ∧ h = h0) := by
  refine ctr (plainFor_of_name pn_1) ?_
  intro p e s m below meth c s₁ hx hby hml hown hnm hret hlocks hZ X0 e0
  have N0 := Fr.nil Z.heap.size
  have hsz : ∀ {Ls : Array Slot}, Ls.size = 2 → Ls.size = c.maxLocals := fun q => q.trans hml.symm
  refine goE (ef_rmXa200 m (a1) ((0 : Int32))) ?_
  show Goes p e below _ (s₁.setTop (mkF m 0 #[.val (.ref a1), .val (.int (0 : Int32))] []))
  refine gAloadN X0 hx (hb hby d_jdk_42_method_56_0) rfl rfl ?_
  refine goCallV X0 hx hZ hown (hw _ (List.mem_of_getElem? (i := 68) rfl)) (hw _ (List.mem_of_getElem? (i := 69) rfl)) (hw _ (List.mem_of_getElem? (i := 71) rfl)) (hw _ (List.mem_of_getElem? (i := 70) rfl)) (hw _ (List.mem_of_getElem? (i := 10) rfl)) (hw _ (List.mem_of_getElem? (i := 72) rfl)) (by decide) (rmXi20 l Z a0 hw u cs c0 c1 a1 h0 O0 S_cs hcs E1 V1 C1 Y1) 0 (by decide) (by decide) e0 E1 (hsz rfl) [] [] pd_4 rfl rfl rfl (Nat.le_of_eq rfl) (hb hby d_jdk_42_method_56_1) (by decide) (by decide) (fun Tt1 vt1 Lt1 Xt1 qt1 => ?_)
  obtain ⟨rfl, N2, et1⟩ := qt1
  have N3 := Fr.app N0 N2
  show Goes p e below _ (Tt1.setTop (mkF m 4 #[.val (.ref a1), .val (.int (0 : Int32))] [(.int (1 : Int32))]))
  refine gIfN Xt1 hx (hb hby d_jdk_42_method_56_4) (XT.i0_eq_f (by decide)) ?_
  show Goes p e below _ (Tt1.setTop (mkF m 7 #[.val (.ref a1), .val (.int (0 : Int32))] []))
  refine gAloadN Xt1 hx (hb hby d_jdk_42_method_56_7) rfl rfl ?_
  obtain ⟨Tt4, Xt4, et4, stt4⟩ := getF Xt1 hx hZ hown (host := "") (Or.inl (hw _ (List.mem_of_getElem? (i := 28) rfl))) Via.refl et1 V1 (g := (mkF m 8 #[.val (.ref a1), .val (.int (0 : Int32))] [(.ref a1)])) rfl rfl (hb hby d_jdk_42_method_56_8)
  refine go stt4 ?_
  show Goes p e below _ (Tt4.setTop (mkF m 11 #[.val (.ref a1), .val (.int (0 : Int32))] [(.ref u)]))
  refine gIloadN Xt4 hx (hb hby d_jdk_42_method_56_11) rfl ?_
  refine goCallS Xt4 hx hZ hown (hw _ (List.mem_of_getElem? (i := 73) rfl)) (hw _ (List.mem_of_getElem? (i := 74) rfl)) (hw _ (List.mem_of_getElem? (i := 75) rfl)) (hw _ (List.mem_of_getElem? (i := 76) rfl)) (by decide) (rmLc20 l Z a0 hw fm c0 c1 u h0 O0 S_fm rf Y1 g0 g1) 0 (by decide) (by decide) et4 (hsz rfl) [(.ref u), (.int (0 : Int32))] [] pd_12 rfl rfl rfl (Nat.le_of_eq rfl) (hb hby d_jdk_42_method_56_12) (by decide) (by decide) (fun Tt5 vt5 Lt5 Xt5 qt5 => ?_)
  obtain ⟨rfl, N6, et5⟩ := qt5
  have N7 := Fr.app N3 N6
  show Goes p e below _ (Tt5.setTop (mkF m 15 #[.val (.ref a1), .val (.int (0 : Int32))] [(.int c0)]))
  exact goRetN Xt5 hx (t := .char) hret hlocks (by simp) (hb hby d_jdk_42_method_56_15) (z' := c0) nc (by decide) (by decide) et5 (⟨rfl, N7, rfl⟩)
theorem ef_rmLc21 (m : MethodId) (x0 : Addr) (x1 : Int32) : entryFrame m #[(.ref x0), (.int x1)] 2 = mkF m 0 #[.val (.ref x0), .val (.int x1)] [] := by first | (simp [entryFrame, mkF, argsToLocals, Value.category]; done) | rfl
set_option maxRecDepth 65536 in
set_option maxHeartbeats 40000000 in
theorem rmLc21 (l : Launch) (Z : State) (a0 : Array Value) (hw : ∀ d ∈ tables_1, d.before a0 Z = true) (fm : Value) (c0 c1 : Int32) (u : Addr) (h0 : Heap) (O0 : Ext Z.heap h0) (S_fm : Sta Z Z.heap "jdk/internal/util/Preconditions" "SIOOBE_FORMATTER" "Ljava/util/function/BiFunction;" fm) (rf : fm.isRef = true) (Y1 : Ary Z h0 u .byte [(.int (c0.toInt8.toInt32)), (.int (c1.toInt8.toInt32))]) (g0 : ¬ c1 < 0) (g1 : ¬ (255 : Int32) < c1) :
    Ctr l Z (⟨"java/lang/StringLatin1", "charAt", "([BI)C"⟩ : MethodName) jdk_43_method_2_code 2 (some .char) [] ({ frames := 2, cells := 0, slots := 0, locals := 27 } : Room) #[(.ref u), (.int (1 : Int32))] h0 (fun v h L => v = some (.int c1) ∧ Fr Z.heap.size L ∧ h = h0) := by
  refine ctr (plainFor_of_name pn_0) ?_
  intro p e s m below meth c s₁ hx hby hml hown hnm hret hlocks hZ X0 e0
  have N0 := Fr.nil Z.heap.size
  have hsz : ∀ {Ls : Array Slot}, Ls.size = 2 → Ls.size = c.maxLocals := fun q => q.trans hml.symm
  refine goE (ef_rmLc21 m (u) ((1 : Int32))) ?_
  show Goes p e below _ (s₁.setTop (mkF m 0 #[.val (.ref u), .val (.int (1 : Int32))] []))
  refine gIloadN X0 hx (hb hby d_jdk_43_method_2_0) rfl ?_
  refine gAloadN X0 hx (hb hby d_jdk_43_method_2_1) rfl rfl ?_
  refine goAlen X0 hx hZ e0 Y1 (n := (2 : Int32)) (hb hby d_jdk_43_method_2_2) rfl ?_
  refine goCallS X0 hx hZ hown (hw _ (List.mem_of_getElem? (i := 77) rfl)) (hw _ (List.mem_of_getElem? (i := 78) rfl)) (hw _ (List.mem_of_getElem? (i := 10) rfl)) (hw _ (List.mem_of_getElem? (i := 79) rfl)) (by decide) (rmCk l Z a0 hw fm (1 : Int32) (2 : Int32) h0 O0 S_fm rf (by decide) (by decide)) 0 (by decide) (by decide) e0 (hsz rfl) [(.int (1 : Int32)), (.int (2 : Int32))] [] pd_16 rfl rfl rfl (Nat.le_of_eq rfl) (hb hby d_jdk_43_method_2_3) (by decide) (by decide) (fun Tt1 vt1 Lt1 Xt1 qt1 => ?_)
  obtain ⟨rfl, N2, et1⟩ := qt1
  have N3 := Fr.app N0 N2
  show Goes p e below _ (Tt1.setTop (mkF m 6 #[.val (.ref u), .val (.int (1 : Int32))] []))
  refine gAloadN Xt1 hx (hb hby d_jdk_43_method_2_6) rfl rfl ?_
  refine gIloadN Xt1 hx (hb hby d_jdk_43_method_2_7) rfl ?_
  refine goBaload Xt1 hx hZ et1 Y1 (x := (c1.toInt8.toInt32)) (hb hby d_jdk_43_method_2_8) (by decide) rfl ?_
  refine gSipush Xt1 hx (hb hby d_jdk_43_method_2_9) (v := (255 : Int32)) rfl ?_
  refine gIand Xt1 hx (hb hby d_jdk_43_method_2_12) ?_
  refine gI2c Xt1 hx (hb hby d_jdk_43_method_2_13) ?_
  exact goRetN Xt1 hx (t := .char) hret hlocks (by simp) (hb hby d_jdk_43_method_2_14) (z' := c1) ((narc _).trans (own_lc g0 g1)) (by decide) (by decide) et1 (⟨rfl, N3, rfl⟩)
theorem ef_rmXa201 (m : MethodId) (x0 : Addr) (x1 : Int32) : entryFrame m #[(.ref x0), (.int x1)] 2 = mkF m 0 #[.val (.ref x0), .val (.int x1)] [] := by first | (simp [entryFrame, mkF, argsToLocals, Value.category]; done) | rfl
set_option maxRecDepth 65536 in
set_option maxHeartbeats 40000000 in
theorem rmXa201 (l : Launch) (Z : State) (a0 : Array Value) (hw : ∀ d ∈ tables_1, d.before a0 Z = true) (fm : Value) (u : Addr) (cs : Int32) (c0 c1 : Int32) (a1 : Addr) (h0 : Heap) (O0 : Ext Z.heap h0) (S_cs : Sta Z Z.heap "java/lang/String" "COMPACT_STRINGS" "Z" (.int cs)) (hcs : ¬ cs = 0) (E1 : Exa Z h0 a1 "java/lang/String") (V1 : Fld Z h0 a1 "java/lang/String" "value" "[B" (.ref u)) (C1 : Fld Z h0 a1 "java/lang/String" "coder" "B" (.int (0 : Int32))) (Y1 : Ary Z h0 u .byte [(.int (c0.toInt8.toInt32)), (.int (c1.toInt8.toInt32))]) (S_fm : Sta Z Z.heap "jdk/internal/util/Preconditions" "SIOOBE_FORMATTER" "Ljava/util/function/BiFunction;" fm) (rf : fm.isRef = true) (g0 : ¬ c1 < 0) (g1 : ¬ (255 : Int32) < c1) (nc : nar .char c1 = c1) :
    Ctr l Z (⟨"java/lang/String", "charAt", "(I)C"⟩ : MethodName) jdk_42_method_56_code 2 (some .char) [] ({ frames := 4, cells := 0, slots := 0, locals := 53 } : Room) #[(.ref a1), (.int (1 : Int32))] h0 (fun v h L => v = some (.int c1) ∧ Fr Z.heap.size L ∧ h = h0) := by
  refine ctr (plainFor_of_name pn_1) ?_
  intro p e s m below meth c s₁ hx hby hml hown hnm hret hlocks hZ X0 e0
  have N0 := Fr.nil Z.heap.size
  have hsz : ∀ {Ls : Array Slot}, Ls.size = 2 → Ls.size = c.maxLocals := fun q => q.trans hml.symm
  refine goE (ef_rmXa201 m (a1) ((1 : Int32))) ?_
  show Goes p e below _ (s₁.setTop (mkF m 0 #[.val (.ref a1), .val (.int (1 : Int32))] []))
  refine gAloadN X0 hx (hb hby d_jdk_42_method_56_0) rfl rfl ?_
  refine goCallV X0 hx hZ hown (hw _ (List.mem_of_getElem? (i := 68) rfl)) (hw _ (List.mem_of_getElem? (i := 69) rfl)) (hw _ (List.mem_of_getElem? (i := 71) rfl)) (hw _ (List.mem_of_getElem? (i := 70) rfl)) (hw _ (List.mem_of_getElem? (i := 10) rfl)) (hw _ (List.mem_of_getElem? (i := 72) rfl)) (by decide) (rmXi20 l Z a0 hw u cs c0 c1 a1 h0 O0 S_cs hcs E1 V1 C1 Y1) 0 (by decide) (by decide) e0 E1 (hsz rfl) [] [] pd_4 rfl rfl rfl (Nat.le_of_eq rfl) (hb hby d_jdk_42_method_56_1) (by decide) (by decide) (fun Tt1 vt1 Lt1 Xt1 qt1 => ?_)
  obtain ⟨rfl, N2, et1⟩ := qt1
  have N3 := Fr.app N0 N2
  show Goes p e below _ (Tt1.setTop (mkF m 4 #[.val (.ref a1), .val (.int (1 : Int32))] [(.int (1 : Int32))]))
  refine gIfN Xt1 hx (hb hby d_jdk_42_method_56_4) (XT.i0_eq_f (by decide)) ?_
  show Goes p e below _ (Tt1.setTop (mkF m 7 #[.val (.ref a1), .val (.int (1 : Int32))] []))
  refine gAloadN Xt1 hx (hb hby d_jdk_42_method_56_7) rfl rfl ?_
  obtain ⟨Tt4, Xt4, et4, stt4⟩ := getF Xt1 hx hZ hown (host := "") (Or.inl (hw _ (List.mem_of_getElem? (i := 28) rfl))) Via.refl et1 V1 (g := (mkF m 8 #[.val (.ref a1), .val (.int (1 : Int32))] [(.ref a1)])) rfl rfl (hb hby d_jdk_42_method_56_8)
  refine go stt4 ?_
  show Goes p e below _ (Tt4.setTop (mkF m 11 #[.val (.ref a1), .val (.int (1 : Int32))] [(.ref u)]))
  refine gIloadN Xt4 hx (hb hby d_jdk_42_method_56_11) rfl ?_
  refine goCallS Xt4 hx hZ hown (hw _ (List.mem_of_getElem? (i := 73) rfl)) (hw _ (List.mem_of_getElem? (i := 74) rfl)) (hw _ (List.mem_of_getElem? (i := 75) rfl)) (hw _ (List.mem_of_getElem? (i := 76) rfl)) (by decide) (rmLc21 l Z a0 hw fm c0 c1 u h0 O0 S_fm rf Y1 g0 g1) 0 (by decide) (by decide) et4 (hsz rfl) [(.ref u), (.int (1 : Int32))] [] pd_12 rfl rfl rfl (Nat.le_of_eq rfl) (hb hby d_jdk_42_method_56_12) (by decide) (by decide) (fun Tt5 vt5 Lt5 Xt5 qt5 => ?_)
  obtain ⟨rfl, N6, et5⟩ := qt5
  have N7 := Fr.app N3 N6
  show Goes p e below _ (Tt5.setTop (mkF m 15 #[.val (.ref a1), .val (.int (1 : Int32))] [(.int c1)]))
  exact goRetN Xt5 hx (t := .char) hret hlocks (by simp) (hb hby d_jdk_42_method_56_15) (z' := c1) nc (by decide) (by decide) et5 (⟨rfl, N7, rfl⟩)
theorem ef_rmXe21 (m : MethodId) (x0 : Addr) : entryFrame m #[(.ref x0)] 1 = mkF m 0 #[.val (.ref x0)] [] := by first | (simp [entryFrame, mkF, argsToLocals, Value.category]; done) | rfl
set_option maxRecDepth 65536 in
set_option maxHeartbeats 40000000 in
theorem rmXe21 (l : Launch) (Z : State) (a0 : Array Value) (hw : ∀ d ∈ tables_1, d.before a0 Z = true) (u : Addr) (cs : Int32) (c0 c1 : Int32) (a1 : Addr) (h0 : Heap) (O0 : Ext Z.heap h0) (S_cs : Sta Z Z.heap "java/lang/String" "COMPACT_STRINGS" "Z" (.int cs)) (hcs : ¬ cs = 0) (E1 : Exa Z h0 a1 "java/lang/String") (V1 : Fld Z h0 a1 "java/lang/String" "value" "[B" (.ref u)) (C1 : Fld Z h0 a1 "java/lang/String" "coder" "B" (.int (1 : Int32))) (Y1 : Ary Z h0 u .byte [(.int ((c0 >>> ((0 : Int32) &&& 31)).toInt8.toInt32)), (.int ((c0 >>> ((8 : Int32) &&& 31)).toInt8.toInt32)), (.int ((c1 >>> ((0 : Int32) &&& 31)).toInt8.toInt32)), (.int ((c1 >>> ((8 : Int32) &&& 31)).toInt8.toInt32))]) :
    Ctr l Z (⟨"java/lang/String", "isEmpty", "()Z"⟩ : MethodName) jdk_42_method_55_code 1 (some .boolean) [] ({ frames := 0, cells := 0, slots := 0, locals := 0 } : Room) #[(.ref a1)] h0 (fun v h L => v = some (.int 0) ∧ Fr Z.heap.size L ∧ h = h0) := by
  refine ctr (plainFor_of_name pn_1) ?_
  intro p e s m below meth c s₁ hx hby hml hown hnm hret hlocks hZ X0 e0
  have N0 := Fr.nil Z.heap.size
  have hsz : ∀ {Ls : Array Slot}, Ls.size = 1 → Ls.size = c.maxLocals := fun q => q.trans hml.symm
  refine goE (ef_rmXe21 m (a1)) ?_
  show Goes p e below _ (s₁.setTop (mkF m 0 #[.val (.ref a1)] []))
  refine gAloadN X0 hx (hb hby d_jdk_42_method_55_0) rfl rfl ?_
  obtain ⟨Tt1, Xt1, et1, stt1⟩ := getF X0 hx hZ hown (host := "") (Or.inl (hw _ (List.mem_of_getElem? (i := 28) rfl))) Via.refl e0 V1 (g := (mkF m 1 #[.val (.ref a1)] [(.ref a1)])) rfl rfl (hb hby d_jdk_42_method_55_1)
  refine go stt1 ?_
  show Goes p e below _ (Tt1.setTop (mkF m 4 #[.val (.ref a1)] [(.ref u)]))
  refine goAlen Xt1 hx hZ et1 Y1 (n := (4 : Int32)) (hb hby d_jdk_42_method_55_4) rfl ?_
  refine gIfY Xt1 hx (hb hby d_jdk_42_method_55_5) (pc' := 12) (XT.i0_ne_t (by decide)) (by decide) (by decide) ?_
  show Goes p e below _ (Tt1.setTop (mkF m 12 #[.val (.ref a1)] []))
  refine gIconst Xt1 hx (hb hby d_jdk_42_method_55_12) (v := (0 : Int32)) rfl ?_
  exact goRetN Xt1 hx (t := .boolean) hret hlocks (by simp) (hb hby d_jdk_42_method_55_13) (z' := (0 : Int32)) rfl (by decide) (by decide) et1 (⟨rfl, N0, rfl⟩)
theorem ef_rmXc21 (m : MethodId) (x0 : Addr) : entryFrame m #[(.ref x0)] 1 = mkF m 0 #[.val (.ref x0)] [] := by first | (simp [entryFrame, mkF, argsToLocals, Value.category]; done) | rfl
set_option maxRecDepth 65536 in
set_option maxHeartbeats 40000000 in
theorem rmXc21 (l : Launch) (Z : State) (a0 : Array Value) (hw : ∀ d ∈ tables_1, d.before a0 Z = true) (u : Addr) (cs : Int32) (c0 c1 : Int32) (a1 : Addr) (h0 : Heap) (O0 : Ext Z.heap h0) (S_cs : Sta Z Z.heap "java/lang/String" "COMPACT_STRINGS" "Z" (.int cs)) (hcs : ¬ cs = 0) (E1 : Exa Z h0 a1 "java/lang/String") (V1 : Fld Z h0 a1 "java/lang/String" "value" "[B" (.ref u)) (C1 : Fld Z h0 a1 "java/lang/String" "coder" "B" (.int (1 : Int32))) (Y1 : Ary Z h0 u .byte [(.int ((c0 >>> ((0 : Int32) &&& 31)).toInt8.toInt32)), (.int ((c0 >>> ((8 : Int32) &&& 31)).toInt8.toInt32)), (.int ((c1 >>> ((0 : Int32) &&& 31)).toInt8.toInt32)), (.int ((c1 >>> ((8 : Int32) &&& 31)).toInt8.toInt32))]) :
    Ctr l Z (⟨"java/lang/String", "coder", "()B"⟩ : MethodName) jdk_42_method_152_code 1 (some .byte) [] ({ frames := 0, cells := 0, slots := 0, locals := 0 } : Room) #[(.ref a1)] h0 (fun v h L => v = some (.int (1 : Int32)) ∧ Fr Z.heap.size L ∧ h = h0) := by
  refine ctr (plainFor_of_name pn_1) ?_
  intro p e s m below meth c s₁ hx hby hml hown hnm hret hlocks hZ X0 e0
  have N0 := Fr.nil Z.heap.size
  have hsz : ∀ {Ls : Array Slot}, Ls.size = 1 → Ls.size = c.maxLocals := fun q => q.trans hml.symm
  refine goE (ef_rmXc21 m (a1)) ?_
  show Goes p e below _ (s₁.setTop (mkF m 0 #[.val (.ref a1)] []))
  obtain ⟨Tt1, Xt1, et1, stt1⟩ := getS2 X0 hx hZ hown (host := "") (Or.inl (hw _ (List.mem_of_getElem? (i := 39) rfl))) Via.refl e0 (S_cs.ext O0) (g := (mkF m 0 #[.val (.ref a1)] [])) rfl (hb hby d_jdk_42_method_152_0)
  refine go stt1 ?_
  show Goes p e below _ (Tt1.setTop (mkF m 3 #[.val (.ref a1)] [(.int cs)]))
  refine gIfN Xt1 hx (hb hby d_jdk_42_method_152_3) (XT.i0_eq_f hcs) ?_
  show Goes p e below _ (Tt1.setTop (mkF m 6 #[.val (.ref a1)] []))
  refine gAloadN Xt1 hx (hb hby d_jdk_42_method_152_6) rfl rfl ?_
  obtain ⟨Tt2, Xt2, et2, stt2⟩ := getF Xt1 hx hZ hown (host := "") (Or.inl (hw _ (List.mem_of_getElem? (i := 29) rfl))) Via.refl et1 C1 (g := (mkF m 7 #[.val (.ref a1)] [(.ref a1)])) rfl rfl (hb hby d_jdk_42_method_152_7)
  refine go stt2 ?_
  show Goes p e below _ (Tt2.setTop (mkF m 10 #[.val (.ref a1)] [(.int (1 : Int32))]))
  refine gGoto Xt2 hx (hb hby d_jdk_42_method_152_10) (pc' := 14) (by decide) (by decide) ?_
  show Goes p e below _ (Tt2.setTop (mkF m 14 #[.val (.ref a1)] [(.int (1 : Int32))]))
  exact goRetN Xt2 hx (t := .byte) hret hlocks (by simp) (hb hby d_jdk_42_method_152_14) (z' := (1 : Int32)) rfl (by decide) (by decide) et2 (⟨rfl, N0, rfl⟩)
theorem ef_rmXl21 (m : MethodId) (x0 : Addr) : entryFrame m #[(.ref x0)] 1 = mkF m 0 #[.val (.ref x0)] [] := by first | (simp [entryFrame, mkF, argsToLocals, Value.category]; done) | rfl
set_option maxRecDepth 65536 in
set_option maxHeartbeats 40000000 in
theorem rmXl21 (l : Launch) (Z : State) (a0 : Array Value) (hw : ∀ d ∈ tables_1, d.before a0 Z = true) (u : Addr) (cs : Int32) (c0 c1 : Int32) (a1 : Addr) (h0 : Heap) (O0 : Ext Z.heap h0) (S_cs : Sta Z Z.heap "java/lang/String" "COMPACT_STRINGS" "Z" (.int cs)) (hcs : ¬ cs = 0) (E1 : Exa Z h0 a1 "java/lang/String") (V1 : Fld Z h0 a1 "java/lang/String" "value" "[B" (.ref u)) (C1 : Fld Z h0 a1 "java/lang/String" "coder" "B" (.int (1 : Int32))) (Y1 : Ary Z h0 u .byte [(.int ((c0 >>> ((0 : Int32) &&& 31)).toInt8.toInt32)), (.int ((c0 >>> ((8 : Int32) &&& 31)).toInt8.toInt32)), (.int ((c1 >>> ((0 : Int32) &&& 31)).toInt8.toInt32)), (.int ((c1 >>> ((8 : Int32) &&& 31)).toInt8.toInt32))]) :
    Ctr l Z (⟨"java/lang/String", "length", "()I"⟩ : MethodName) jdk_42_method_54_code 1 (some .int) [] ({ frames := 1, cells := 0, slots := 0, locals := 13 } : Room) #[(.ref a1)] h0 (fun v h L => v = some (.int (2 : Int32)) ∧ Fr Z.heap.size L ∧ h = h0) := by
  refine ctr (plainFor_of_name pn_1) ?_
  intro p e s m below meth c s₁ hx hby hml hown hnm hret hlocks hZ X0 e0
  have N0 := Fr.nil Z.heap.size
  have hsz : ∀ {Ls : Array Slot}, Ls.size = 1 → Ls.size = c.maxLocals := fun q => q.trans hml.symm
  refine goE (ef_rmXl21 m (a1)) ?_
  show Goes p e below _ (s₁.setTop (mkF m 0 #[.val (.ref a1)] []))
  refine gAloadN X0 hx (hb hby d_jdk_42_method_54_0) rfl rfl ?_
  obtain ⟨Tt1, Xt1, et1, stt1⟩ := getF X0 hx hZ hown (host := "") (Or.inl (hw _ (List.mem_of_getElem? (i := 28) rfl))) Via.refl e0 V1 (g := (mkF m 1 #[.val (.ref a1)] [(.ref a1)])) rfl rfl (hb hby d_jdk_42_method_54_1)
  refine go stt1 ?_
  show Goes p e below _ (Tt1.setTop (mkF m 4 #[.val (.ref a1)] [(.ref u)]))
  refine goAlen Xt1 hx hZ et1 Y1 (n := (4 : Int32)) (hb hby d_jdk_42_method_54_4) rfl ?_
  refine gAloadN Xt1 hx (hb hby d_jdk_42_method_54_5) rfl rfl ?_
  refine goCallV Xt1 hx hZ hown (hw _ (List.mem_of_getElem? (i := 58) rfl)) (hw _ (List.mem_of_getElem? (i := 59) rfl)) (hw _ (List.mem_of_getElem? (i := 61) rfl)) (hw _ (List.mem_of_getElem? (i := 60) rfl)) (hw _ (List.mem_of_getElem? (i := 10) rfl)) (hw _ (List.mem_of_getElem? (i := 62) rfl)) (by decide) (rmXc21 l Z a0 hw u cs c0 c1 a1 h0 O0 S_cs hcs E1 V1 C1 Y1) 1 (by decide) (by decide) et1 E1 (hsz rfl) [] [(.int (4 : Int32))] pd_3 rfl rfl rfl (Nat.le_of_eq rfl) (hb hby d_jdk_42_method_54_6) (by decide) (by decide) (fun Tt2 vt2 Lt2 Xt2 qt2 => ?_)
  obtain ⟨rfl, N3, et2⟩ := qt2
  have N4 := Fr.app N0 N3
  show Goes p e below _ (Tt2.setTop (mkF m 9 #[.val (.ref a1)] [(.int (1 : Int32)), (.int (4 : Int32))]))
  refine gIshr Xt2 hx (hb hby d_jdk_42_method_54_9) ?_
  exact goRetI Xt2 hx hret hlocks (hb hby d_jdk_42_method_54_10) (by decide) (by decide) et2 (⟨congrArg (fun z => some (Value.int z)) (by decide), N4, rfl⟩)
theorem ef_rmXi21 (m : MethodId) (x0 : Addr) : entryFrame m #[(.ref x0)] 1 = mkF m 0 #[.val (.ref x0)] [] := by first | (simp [entryFrame, mkF, argsToLocals, Value.category]; done) | rfl
set_option maxRecDepth 65536 in
set_option maxHeartbeats 40000000 in
theorem rmXi21 (l : Launch) (Z : State) (a0 : Array Value) (hw : ∀ d ∈ tables_1, d.before a0 Z = true) (u : Addr) (cs : Int32) (c0 c1 : Int32) (a1 : Addr) (h0 : Heap) (O0 : Ext Z.heap h0) (S_cs : Sta Z Z.heap "java/lang/String" "COMPACT_STRINGS" "Z" (.int cs)) (hcs : ¬ cs = 0) (E1 : Exa Z h0 a1 "java/lang/String") (V1 : Fld Z h0 a1 "java/lang/String" "value" "[B" (.ref u)) (C1 : Fld Z h0 a1 "java/lang/String" "coder" "B" (.int (1 : Int32))) (Y1 : Ary Z h0 u .byte [(.int ((c0 >>> ((0 : Int32) &&& 31)).toInt8.toInt32)), (.int ((c0 >>> ((8 : Int32) &&& 31)).toInt8.toInt32)), (.int ((c1 >>> ((0 : Int32) &&& 31)).toInt8.toInt32)), (.int ((c1 >>> ((8 : Int32) &&& 31)).toInt8.toInt32))]) :
    Ctr l Z (⟨"java/lang/String", "isLatin1", "()Z"⟩ : MethodName) jdk_42_method_154_code 1 (some .boolean) [] ({ frames := 0, cells := 0, slots := 0, locals := 0 } : Room) #[(.ref a1)] h0 (fun v h L => v = some (.int (0 : Int32)) ∧ Fr Z.heap.size L ∧ h = h0) := by
  refine ctr (plainFor_of_name pn_1) ?_
  intro p e s m below meth c s₁ hx hby hml hown hnm hret hlocks hZ X0 e0
  have N0 := Fr.nil Z.heap.size
  have hsz : ∀ {Ls : Array Slot}, Ls.size = 1 → Ls.size = c.maxLocals := fun q => q.trans hml.symm
  refine goE (ef_rmXi21 m (a1)) ?_
  show Goes p e below _ (s₁.setTop (mkF m 0 #[.val (.ref a1)] []))
  obtain ⟨Tt1, Xt1, et1, stt1⟩ := getS2 X0 hx hZ hown (host := "") (Or.inl (hw _ (List.mem_of_getElem? (i := 39) rfl))) Via.refl e0 (S_cs.ext O0) (g := (mkF m 0 #[.val (.ref a1)] [])) rfl (hb hby d_jdk_42_method_154_0)
  refine go stt1 ?_
  show Goes p e below _ (Tt1.setTop (mkF m 3 #[.val (.ref a1)] [(.int cs)]))
  refine gIfN Xt1 hx (hb hby d_jdk_42_method_154_3) (XT.i0_eq_f hcs) ?_
  show Goes p e below _ (Tt1.setTop (mkF m 6 #[.val (.ref a1)] []))
  refine gAloadN Xt1 hx (hb hby d_jdk_42_method_154_6) rfl rfl ?_
  obtain ⟨Tt2, Xt2, et2, stt2⟩ := getF Xt1 hx hZ hown (host := "") (Or.inl (hw _ (List.mem_of_getElem? (i := 29) rfl))) Via.refl et1 C1 (g := (mkF m 7 #[.val (.ref a1)] [(.ref a1)])) rfl rfl (hb hby d_jdk_42_method_154_7)
  refine go stt2 ?_
  show Goes p e below _ (Tt2.setTop (mkF m 10 #[.val (.ref a1)] [(.int (1 : Int32))]))
  refine gIfY Xt2 hx (hb hby d_jdk_42_method_154_10) (pc' := 17) (XT.i0_ne_t (by decide)) (by decide) (by decide) ?_
  show Goes p e below _ (Tt2.setTop (mkF m 17 #[.val (.ref a1)] []))
  refine gIconst Xt2 hx (hb hby d_jdk_42_method_154_17) (v := (0 : Int32)) rfl ?_
  exact goRetN Xt2 hx (t := .boolean) hret hlocks (by simp) (hb hby d_jdk_42_method_154_18) (z' := (0 : Int32)) rfl (by decide) (by decide) et2 (⟨rfl, N0, rfl⟩)
theorem ef_rmUl2 (m : MethodId) (x0 : Addr) : entryFrame m #[(.ref x0)] 1 = mkF m 0 #[.val (.ref x0)] [] := by first | (simp [entryFrame, mkF, argsToLocals, Value.category]; done) | rfl
set_option maxRecDepth 65536 in
set_option maxHeartbeats 40000000 in
theorem rmUl2 (l : Launch) (Z : State) (a0 : Array Value) (hw : ∀ d ∈ tables_1, d.before a0 Z = true) (c0 c1 : Int32) (u : Addr) (h0 : Heap) (O0 : Ext Z.heap h0) (Y1 : Ary Z h0 u .byte [(.int ((c0 >>> ((0 : Int32) &&& 31)).toInt8.toInt32)), (.int ((c0 >>> ((8 : Int32) &&& 31)).toInt8.toInt32)), (.int ((c1 >>> ((0 : Int32) &&& 31)).toInt8.toInt32)), (.int ((c1 >>> ((8 : Int32) &&& 31)).toInt8.toInt32))]) :
    Ctr l Z (⟨"java/lang/StringUTF16", "length", "([B)I"⟩ : MethodName) jdk_52_method_6_code 1 (some .int) [] ({ frames := 0, cells := 0, slots := 0, locals := 0 } : Room) #[(.ref u)] h0 (fun v h L => v = some (.int (2 : Int32)) ∧ Fr Z.heap.size L ∧ h = h0) := by
  refine ctr (plainFor_of_name pn_4) ?_
  intro p e s m below meth c s₁ hx hby hml hown hnm hret hlocks hZ X0 e0
  have N0 := Fr.nil Z.heap.size
  have hsz : ∀ {Ls : Array Slot}, Ls.size = 1 → Ls.size = c.maxLocals := fun q => q.trans hml.symm
  refine goE (ef_rmUl2 m (u)) ?_
  show Goes p e below _ (s₁.setTop (mkF m 0 #[.val (.ref u)] []))
  refine gAloadN X0 hx (hb hby d_jdk_52_method_6_0) rfl rfl ?_
  refine goAlen X0 hx hZ e0 Y1 (n := (4 : Int32)) (hb hby d_jdk_52_method_6_1) rfl ?_
  refine gIconst X0 hx (hb hby d_jdk_52_method_6_2) (v := (1 : Int32)) rfl ?_
  refine gIshr X0 hx (hb hby d_jdk_52_method_6_3) ?_
  exact goRetI X0 hx hret hlocks (hb hby d_jdk_52_method_6_4) (by decide) (by decide) e0 (⟨congrArg (fun z => some (Value.int z)) (by decide), N0, rfl⟩)
theorem ef_rmUk2 (m : MethodId) (x0 : Int32) (x1 : Addr) : entryFrame m #[(.int x0), (.ref x1)] 2 = mkF m 0 #[.val (.int x0), .val (.ref x1)] [] := by first | (simp [entryFrame, mkF, argsToLocals, Value.category]; done) | rfl
set_option maxRecDepth 65536 in
set_option maxHeartbeats 40000000 in
theorem rmUk2 (l : Launch) (Z : State) (a0 : Array Value) (hw : ∀ d ∈ tables_1, d.before a0 Z = true) (fm : Value) (c0 c1 : Int32) (i_ : Int32) (u : Addr) (h0 : Heap) (O0 : Ext Z.heap h0) (S_fm : Sta Z Z.heap "jdk/internal/util/Preconditions" "SIOOBE_FORMATTER" "Ljava/util/function/BiFunction;" fm) (rf : fm.isRef = true) (Y1 : Ary Z h0 u .byte [(.int ((c0 >>> ((0 : Int32) &&& 31)).toInt8.toInt32)), (.int ((c0 >>> ((8 : Int32) &&& 31)).toInt8.toInt32)), (.int ((c1 >>> ((0 : Int32) &&& 31)).toInt8.toInt32)), (.int ((c1 >>> ((8 : Int32) &&& 31)).toInt8.toInt32))]) (k1 : ¬ i_ < 0) (k2 : i_ < (2 : Int32)) :
    Ctr l Z (⟨"java/lang/StringUTF16", "checkIndex", "(I[B)V"⟩ : MethodName) jdk_52_method_91_code 2 none [] ({ frames := 2, cells := 0, slots := 0, locals := 27 } : Room) #[(.int i_), (.ref u)] h0 (fun v h L => v = none ∧ Fr Z.heap.size L ∧ h = h0) := by
  refine ctr (plainFor_of_name pn_4) ?_
  intro p e s m below meth c s₁ hx hby hml hown hnm hret hlocks hZ X0 e0
  have N0 := Fr.nil Z.heap.size
  have hsz : ∀ {Ls : Array Slot}, Ls.size = 2 → Ls.size = c.maxLocals := fun q => q.trans hml.symm
  refine goE (ef_rmUk2 m (i_) (u)) ?_
  show Goes p e below _ (s₁.setTop (mkF m 0 #[.val (.int i_), .val (.ref u)] []))
  refine gIloadN X0 hx (hb hby d_jdk_52_method_91_0) rfl ?_
  refine gAloadN X0 hx (hb hby d_jdk_52_method_91_1) rfl rfl ?_
  refine goCallS X0 hx hZ hown (hw _ (List.mem_of_getElem? (i := 142) rfl)) (hw _ (List.mem_of_getElem? (i := 143) rfl)) (hw _ (List.mem_of_getElem? (i := 42) rfl)) (hw _ (List.mem_of_getElem? (i := 144) rfl)) (by decide) (rmUl2 l Z a0 hw c0 c1 u h0 O0 Y1) 1 (by decide) (by decide) e0 (hsz rfl) [(.ref u)] [(.int i_)] pd_17 rfl rfl rfl (Nat.le_of_eq rfl) (hb hby d_jdk_52_method_91_2) (by decide) (by decide) (fun Tt1 vt1 Lt1 Xt1 qt1 => ?_)
  obtain ⟨rfl, N2, et1⟩ := qt1
  have N3 := Fr.app N0 N2
  show Goes p e below _ (Tt1.setTop (mkF m 5 #[.val (.int i_), .val (.ref u)] [(.int (2 : Int32)), (.int i_)]))
  refine goCallS Xt1 hx hZ hown (hw _ (List.mem_of_getElem? (i := 145) rfl)) (hw _ (List.mem_of_getElem? (i := 78) rfl)) (hw _ (List.mem_of_getElem? (i := 10) rfl)) (hw _ (List.mem_of_getElem? (i := 79) rfl)) (by decide) (rmCk l Z a0 hw fm i_ (2 : Int32) h0 O0 S_fm rf k1 k2) 0 (by decide) (by decide) et1 (hsz rfl) [(.int i_), (.int (2 : Int32))] [] pd_16 rfl rfl rfl (Nat.le_of_eq rfl) (hb hby d_jdk_52_method_91_5) (by decide) (by decide) (fun Tt4 vt4 Lt4 Xt4 qt4 => ?_)
  obtain ⟨rfl, N5, et4⟩ := qt4
  have N6 := Fr.app N3 N5
  show Goes p e below _ (Tt4.setTop (mkF m 8 #[.val (.int i_), .val (.ref u)] []))
  exact goRet0 Xt4 hx hret hlocks (hb hby d_jdk_52_method_91_8) (by decide) (by decide) et4 (⟨rfl, N6, rfl⟩)
theorem ef_rmUc20 (m : MethodId) (x0 : Addr) (x1 : Int32) : entryFrame m #[(.ref x0), (.int x1)] 2 = mkF m 0 #[.val (.ref x0), .val (.int x1)] [] := by first | (simp [entryFrame, mkF, argsToLocals, Value.category]; done) | rfl
set_option maxRecDepth 65536 in
set_option maxHeartbeats 40000000 in
theorem rmUc20 (l : Launch) (Z : State) (a0 : Array Value) (hw : ∀ d ∈ tables_1, d.before a0 Z = true) (fm : Value) (c0 c1 : Int32) (u : Addr) (h0 : Heap) (O0 : Ext Z.heap h0) (S_fm : Sta Z Z.heap "jdk/internal/util/Preconditions" "SIOOBE_FORMATTER" "Ljava/util/function/BiFunction;" fm) (rf : fm.isRef = true) (S_ua : Sta Z Z.heap "java/lang/StringUTF16" "$assertionsDisabled" "Z" (.int (1 : Int32))) (S_uh : Sta Z Z.heap "java/lang/StringUTF16" "HI_BYTE_SHIFT" "I" (.int (0 : Int32))) (S_ul : Sta Z Z.heap "java/lang/StringUTF16" "LO_BYTE_SHIFT" "I" (.int (8 : Int32))) (Y1 : Ary Z h0 u .byte [(.int ((c0 >>> ((0 : Int32) &&& 31)).toInt8.toInt32)), (.int ((c0 >>> ((8 : Int32) &&& 31)).toInt8.toInt32)), (.int ((c1 >>> ((0 : Int32) &&& 31)).toInt8.toInt32)), (.int ((c1 >>> ((8 : Int32) &&& 31)).toInt8.toInt32))]) (g0 : ¬ c0 < 0) (g1 : ¬ (65535 : Int32) < c0) (nc : nar .char c0 = c0) :
    Ctr l Z (⟨"java/lang/StringUTF16", "charAt", "([BI)C"⟩ : MethodName) jdk_52_method_83_code 2 (some .char) [] ({ frames := 3, cells := 0, slots := 0, locals := 40 } : Room) #[(.ref u), (.int (0 : Int32))] h0 (fun v h L => v = some (.int c0) ∧ Fr Z.heap.size L ∧ h = h0) := by
  refine ctr (plainFor_of_name pn_4) ?_
  intro p e s m below meth c s₁ hx hby hml hown hnm hret hlocks hZ X0 e0
  have N0 := Fr.nil Z.heap.size
  have hsz : ∀ {Ls : Array Slot}, Ls.size = 2 → Ls.size = c.maxLocals := fun q => q.trans hml.symm
  refine goE (ef_rmUc20 m (u) ((0 : Int32))) ?_
  show Goes p e below _ (s₁.setTop (mkF m 0 #[.val (.ref u), .val (.int (0 : Int32))] []))
  refine gIloadN X0 hx (hb hby d_jdk_52_method_83_0) rfl ?_
  refine gAloadN X0 hx (hb hby d_jdk_52_method_83_1) rfl rfl ?_
  refine goCallS X0 hx hZ hown (hw _ (List.mem_of_getElem? (i := 139) rfl)) (hw _ (List.mem_of_getElem? (i := 140) rfl)) (hw _ (List.mem_of_getElem? (i := 42) rfl)) (hw _ (List.mem_of_getElem? (i := 141) rfl)) (by decide) (rmUk2 l Z a0 hw fm c0 c1 (0 : Int32) u h0 O0 S_fm rf Y1 (by decide) (by decide)) 0 (by decide) (by decide) e0 (hsz rfl) [(.int (0 : Int32)), (.ref u)] [] pd_18 rfl rfl rfl (Nat.le_of_eq rfl) (hb hby d_jdk_52_method_83_2) (by decide) (by decide) (fun Tt1 vt1 Lt1 Xt1 qt1 => ?_)
  obtain ⟨rfl, N2, et1⟩ := qt1
  have N3 := Fr.app N0 N2
  show Goes p e below _ (Tt1.setTop (mkF m 5 #[.val (.ref u), .val (.int (0 : Int32))] []))
  refine gAloadN Xt1 hx (hb hby d_jdk_52_method_83_5) rfl rfl ?_
  refine gIloadN Xt1 hx (hb hby d_jdk_52_method_83_6) rfl ?_
  refine goCallS Xt1 hx hZ hown (hw _ (List.mem_of_getElem? (i := 133) rfl)) (hw _ (List.mem_of_getElem? (i := 134) rfl)) (hw _ (List.mem_of_getElem? (i := 42) rfl)) (hw _ (List.mem_of_getElem? (i := 135) rfl)) (by decide) (rmGc20 l Z a0 hw ((c0 >>> ((0 : Int32) &&& 31)).toInt8.toInt32) ((c0 >>> ((8 : Int32) &&& 31)).toInt8.toInt32) ((c1 >>> ((0 : Int32) &&& 31)).toInt8.toInt32) ((c1 >>> ((8 : Int32) &&& 31)).toInt8.toInt32) u h0 O0 S_ua S_uh S_ul Y1) 0 (by decide) (by decide) et1 (hsz rfl) [(.ref u), (.int (0 : Int32))] [] pd_12 rfl rfl rfl (Nat.le_of_eq rfl) (hb hby d_jdk_52_method_83_7) (by decide) (by decide) (fun Tt4 vt4 Lt4 Xt4 qt4 => ?_)
  obtain ⟨rfl, N5, et4⟩ := qt4
  have N6 := Fr.app N3 N5
  show Goes p e below _ (Tt4.setTop (mkF m 10 #[.val (.ref u), .val (.int (0 : Int32))] [(.int (own_gc ((c0 >>> ((0 : Int32) &&& 31)).toInt8.toInt32) ((c0 >>> ((8 : Int32) &&& 31)).toInt8.toInt32)))]))
  rw [own_gcc g0 g1]
  show Goes p e below _ (Tt4.setTop (mkF m 10 #[.val (.ref u), .val (.int (0 : Int32))] [(.int c0)]))
  exact goRetN Xt4 hx (t := .char) hret hlocks (by simp) (hb hby d_jdk_52_method_83_10) (z' := c0) nc (by decide) (by decide) et4 (⟨rfl, N6, rfl⟩)
theorem ef_rmXa210 (m : MethodId) (x0 : Addr) (x1 : Int32) : entryFrame m #[(.ref x0), (.int x1)] 2 = mkF m 0 #[.val (.ref x0), .val (.int x1)] [] := by first | (simp [entryFrame, mkF, argsToLocals, Value.category]; done) | rfl
set_option maxRecDepth 65536 in
set_option maxHeartbeats 40000000 in
theorem rmXa210 (l : Launch) (Z : State) (a0 : Array Value) (hw : ∀ d ∈ tables_1, d.before a0 Z = true) (fm : Value) (u : Addr) (cs : Int32) (c0 c1 : Int32) (a1 : Addr) (h0 : Heap) (O0 : Ext Z.heap h0) (S_cs : Sta Z Z.heap "java/lang/String" "COMPACT_STRINGS" "Z" (.int cs)) (hcs : ¬ cs = 0) (E1 : Exa Z h0 a1 "java/lang/String") (V1 : Fld Z h0 a1 "java/lang/String" "value" "[B" (.ref u)) (C1 : Fld Z h0 a1 "java/lang/String" "coder" "B" (.int (1 : Int32))) (Y1 : Ary Z h0 u .byte [(.int ((c0 >>> ((0 : Int32) &&& 31)).toInt8.toInt32)), (.int ((c0 >>> ((8 : Int32) &&& 31)).toInt8.toInt32)), (.int ((c1 >>> ((0 : Int32) &&& 31)).toInt8.toInt32)), (.int ((c1 >>> ((8 : Int32) &&& 31)).toInt8.toInt32))]) (S_fm : Sta Z Z.heap "jdk/internal/util/Preconditions" "SIOOBE_FORMATTER" "Ljava/util/function/BiFunction;" fm) (rf : fm.isRef = true) (S_ua : Sta Z Z.heap "java/lang/StringUTF16" "$assertionsDisabled" "Z" (.int (1 : Int32))) (S_uh : Sta Z Z.heap "java/lang/StringUTF16" "HI_BYTE_SHIFT" "I" (.int (0 : Int32))) (S_ul : Sta Z Z.heap "java/lang/StringUTF16" "LO_BYTE_SHIFT" "I" (.int (8 : Int32))) (g0 : ¬ c0 < 0) (g1 : ¬ (65535 : Int32) < c0) (nc : nar .char c0 = c0) :
    Ctr l Z (⟨"java/lang/String", "charAt", "(I)C"⟩ : MethodName) jdk_42_method_56_code 2 (some .char) [] ({ frames := 4, cells := 0, slots := 0, locals := 53 } : Room) #[(.ref a1), (.int (0 : Int32))] h0 (fun v h L => v = some (.int c0) ∧ Fr Z.heap.size L ∧ h = h0) := by
  refine ctr (plainFor_of_name pn_1) ?_
  intro p e s m below meth c s₁ hx hby hml hown hnm hret hlocks hZ X0 e0
  have N0 := Fr.nil Z.heap.size
  have hsz : ∀ {Ls : Array Slot}, Ls.size = 2 → Ls.size = c.maxLocals := fun q => q.trans hml.symm
  refine goE (ef_rmXa210 m (a1) ((0 : Int32))) ?_
  show Goes p e below _ (s₁.setTop (mkF m 0 #[.val (.ref a1), .val (.int (0 : Int32))] []))
  refine gAloadN X0 hx (hb hby d_jdk_42_method_56_0) rfl rfl ?_
  refine goCallV X0 hx hZ hown (hw _ (List.mem_of_getElem? (i := 68) rfl)) (hw _ (List.mem_of_getElem? (i := 69) rfl)) (hw _ (List.mem_of_getElem? (i := 71) rfl)) (hw _ (List.mem_of_getElem? (i := 70) rfl)) (hw _ (List.mem_of_getElem? (i := 10) rfl)) (hw _ (List.mem_of_getElem? (i := 72) rfl)) (by decide) (rmXi21 l Z a0 hw u cs c0 c1 a1 h0 O0 S_cs hcs E1 V1 C1 Y1) 0 (by decide) (by decide) e0 E1 (hsz rfl) [] [] pd_4 rfl rfl rfl (Nat.le_of_eq rfl) (hb hby d_jdk_42_method_56_1) (by decide) (by decide) (fun Tt1 vt1 Lt1 Xt1 qt1 => ?_)
  obtain ⟨rfl, N2, et1⟩ := qt1
  have N3 := Fr.app N0 N2
  show Goes p e below _ (Tt1.setTop (mkF m 4 #[.val (.ref a1), .val (.int (0 : Int32))] [(.int (0 : Int32))]))
  refine gIfY Xt1 hx (hb hby d_jdk_42_method_56_4) (pc' := 16) (XT.i0_eq_t (by decide)) (by decide) (by decide) ?_
  show Goes p e below _ (Tt1.setTop (mkF m 16 #[.val (.ref a1), .val (.int (0 : Int32))] []))
  refine gAloadN Xt1 hx (hb hby d_jdk_42_method_56_16) rfl rfl ?_
  obtain ⟨Tt4, Xt4, et4, stt4⟩ := getF Xt1 hx hZ hown (host := "") (Or.inl (hw _ (List.mem_of_getElem? (i := 28) rfl))) Via.refl et1 V1 (g := (mkF m 17 #[.val (.ref a1), .val (.int (0 : Int32))] [(.ref a1)])) rfl rfl (hb hby d_jdk_42_method_56_17)
  refine go stt4 ?_
  show Goes p e below _ (Tt4.setTop (mkF m 20 #[.val (.ref a1), .val (.int (0 : Int32))] [(.ref u)]))
  refine gIloadN Xt4 hx (hb hby d_jdk_42_method_56_20) rfl ?_
  refine goCallS Xt4 hx hZ hown (hw _ (List.mem_of_getElem? (i := 136) rfl)) (hw _ (List.mem_of_getElem? (i := 137) rfl)) (hw _ (List.mem_of_getElem? (i := 42) rfl)) (hw _ (List.mem_of_getElem? (i := 138) rfl)) (by decide) (rmUc20 l Z a0 hw fm c0 c1 u h0 O0 S_fm rf S_ua S_uh S_ul Y1 g0 g1 nc) 0 (by decide) (by decide) et4 (hsz rfl) [(.ref u), (.int (0 : Int32))] [] pd_12 rfl rfl rfl (Nat.le_of_eq rfl) (hb hby d_jdk_42_method_56_21) (by decide) (by decide) (fun Tt5 vt5 Lt5 Xt5 qt5 => ?_)
  obtain ⟨rfl, N6, et5⟩ := qt5
  have N7 := Fr.app N3 N6
  show Goes p e below _ (Tt5.setTop (mkF m 24 #[.val (.ref a1), .val (.int (0 : Int32))] [(.int c0)]))
  exact goRetN Xt5 hx (t := .char) hret hlocks (by simp) (hb hby d_jdk_42_method_56_24) (z' := c0) nc (by decide) (by decide) et5 (⟨rfl, N7, rfl⟩)
theorem ef_rmUc21 (m : MethodId) (x0 : Addr) (x1 : Int32) : entryFrame m #[(.ref x0), (.int x1)] 2 = mkF m 0 #[.val (.ref x0), .val (.int x1)] [] := by first | (simp [entryFrame, mkF, argsToLocals, Value.category]; done) | rfl
set_option maxRecDepth 65536 in
set_option maxHeartbeats 40000000 in
theorem rmUc21 (l : Launch) (Z : State) (a0 : Array Value) (hw : ∀ d ∈ tables_1, d.before a0 Z = true) (fm : Value) (c0 c1 : Int32) (u : Addr) (h0 : Heap) (O0 : Ext Z.heap h0) (S_fm : Sta Z Z.heap "jdk/internal/util/Preconditions" "SIOOBE_FORMATTER" "Ljava/util/function/BiFunction;" fm) (rf : fm.isRef = true) (S_ua : Sta Z Z.heap "java/lang/StringUTF16" "$assertionsDisabled" "Z" (.int (1 : Int32))) (S_uh : Sta Z Z.heap "java/lang/StringUTF16" "HI_BYTE_SHIFT" "I" (.int (0 : Int32))) (S_ul : Sta Z Z.heap "java/lang/StringUTF16" "LO_BYTE_SHIFT" "I" (.int (8 : Int32))) (Y1 : Ary Z h0 u .byte [(.int ((c0 >>> ((0 : Int32) &&& 31)).toInt8.toInt32)), (.int ((c0 >>> ((8 : Int32) &&& 31)).toInt8.toInt32)), (.int ((c1 >>> ((0 : Int32) &&& 31)).toInt8.toInt32)), (.int ((c1 >>> ((8 : Int32) &&& 31)).toInt8.toInt32))]) (g0 : ¬ c1 < 0) (g1 : ¬ (65535 : Int32) < c1) (nc : nar .char c1 = c1) :
    Ctr l Z (⟨"java/lang/StringUTF16", "charAt", "([BI)C"⟩ : MethodName) jdk_52_method_83_code 2 (some .char) [] ({ frames := 3, cells := 0, slots := 0, locals := 40 } : Room) #[(.ref u), (.int (1 : Int32))] h0 (fun v h L => v = some (.int c1) ∧ Fr Z.heap.size L ∧ h = h0) := by
  refine ctr (plainFor_of_name pn_4) ?_
  intro p e s m below meth c s₁ hx hby hml hown hnm hret hlocks hZ X0 e0
  have N0 := Fr.nil Z.heap.size
  have hsz : ∀ {Ls : Array Slot}, Ls.size = 2 → Ls.size = c.maxLocals := fun q => q.trans hml.symm
  refine goE (ef_rmUc21 m (u) ((1 : Int32))) ?_
  show Goes p e below _ (s₁.setTop (mkF m 0 #[.val (.ref u), .val (.int (1 : Int32))] []))
  refine gIloadN X0 hx (hb hby d_jdk_52_method_83_0) rfl ?_
  refine gAloadN X0 hx (hb hby d_jdk_52_method_83_1) rfl rfl ?_
  refine goCallS X0 hx hZ hown (hw _ (List.mem_of_getElem? (i := 139) rfl)) (hw _ (List.mem_of_getElem? (i := 140) rfl)) (hw _ (List.mem_of_getElem? (i := 42) rfl)) (hw _ (List.mem_of_getElem? (i := 141) rfl)) (by decide) (rmUk2 l Z a0 hw fm c0 c1 (1 : Int32) u h0 O0 S_fm rf Y1 (by decide) (by decide)) 0 (by decide) (by decide) e0 (hsz rfl) [(.int (1 : Int32)), (.ref u)] [] pd_18 rfl rfl rfl (Nat.le_of_eq rfl) (hb hby d_jdk_52_method_83_2) (by decide) (by decide) (fun Tt1 vt1 Lt1 Xt1 qt1 => ?_)
  obtain ⟨rfl, N2, et1⟩ := qt1
  have N3 := Fr.app N0 N2
  show Goes p e below _ (Tt1.setTop (mkF m 5 #[.val (.ref u), .val (.int (1 : Int32))] []))
  refine gAloadN Xt1 hx (hb hby d_jdk_52_method_83_5) rfl rfl ?_
  refine gIloadN Xt1 hx (hb hby d_jdk_52_method_83_6) rfl ?_
  refine goCallS Xt1 hx hZ hown (hw _ (List.mem_of_getElem? (i := 133) rfl)) (hw _ (List.mem_of_getElem? (i := 134) rfl)) (hw _ (List.mem_of_getElem? (i := 42) rfl)) (hw _ (List.mem_of_getElem? (i := 135) rfl)) (by decide) (rmGc21 l Z a0 hw ((c0 >>> ((0 : Int32) &&& 31)).toInt8.toInt32) ((c0 >>> ((8 : Int32) &&& 31)).toInt8.toInt32) ((c1 >>> ((0 : Int32) &&& 31)).toInt8.toInt32) ((c1 >>> ((8 : Int32) &&& 31)).toInt8.toInt32) u h0 O0 S_ua S_uh S_ul Y1) 0 (by decide) (by decide) et1 (hsz rfl) [(.ref u), (.int (1 : Int32))] [] pd_12 rfl rfl rfl (Nat.le_of_eq rfl) (hb hby d_jdk_52_method_83_7) (by decide) (by decide) (fun Tt4 vt4 Lt4 Xt4 qt4 => ?_)
  obtain ⟨rfl, N5, et4⟩ := qt4
  have N6 := Fr.app N3 N5
  show Goes p e below _ (Tt4.setTop (mkF m 10 #[.val (.ref u), .val (.int (1 : Int32))] [(.int (own_gc ((c1 >>> ((0 : Int32) &&& 31)).toInt8.toInt32) ((c1 >>> ((8 : Int32) &&& 31)).toInt8.toInt32)))]))
  rw [own_gcc g0 g1]
  show Goes p e below _ (Tt4.setTop (mkF m 10 #[.val (.ref u), .val (.int (1 : Int32))] [(.int c1)]))
  exact goRetN Xt4 hx (t := .char) hret hlocks (by simp) (hb hby d_jdk_52_method_83_10) (z' := c1) nc (by decide) (by decide) et4 (⟨rfl, N6, rfl⟩)
theorem ef_rmXa211 (m : MethodId) (x0 : Addr) (x1 : Int32) : entryFrame m #[(.ref x0), (.int x1)] 2 = mkF m 0 #[.val (.ref x0), .val (.int x1)] [] := by first | (simp [entryFrame, mkF, argsToLocals, Value.category]; done) | rfl
set_option maxRecDepth 65536 in
set_option maxHeartbeats 40000000 in
theorem rmXa211 (l : Launch) (Z : State) (a0 : Array Value) (hw : ∀ d ∈ tables_1, d.before a0 Z = true) (fm : Value) (u : Addr) (cs : Int32) (c0 c1 : Int32) (a1 : Addr) (h0 : Heap) (O0 : Ext Z.heap h0) (S_cs : Sta Z Z.heap "java/lang/String" "COMPACT_STRINGS" "Z" (.int cs)) (hcs : ¬ cs = 0) (E1 : Exa Z h0 a1 "java/lang/String") (V1 : Fld Z h0 a1 "java/lang/String" "value" "[B" (.ref u)) (C1 : Fld Z h0 a1 "java/lang/String" "coder" "B" (.int (1 : Int32))) (Y1 : Ary Z h0 u .byte [(.int ((c0 >>> ((0 : Int32) &&& 31)).toInt8.toInt32)), (.int ((c0 >>> ((8 : Int32) &&& 31)).toInt8.toInt32)), (.int ((c1 >>> ((0 : Int32) &&& 31)).toInt8.toInt32)), (.int ((c1 >>> ((8 : Int32) &&& 31)).toInt8.toInt32))]) (S_fm : Sta Z Z.heap "jdk/internal/util/Preconditions" "SIOOBE_FORMATTER" "Ljava/util/function/BiFunction;" fm) (rf : fm.isRef = true) (S_ua : Sta Z Z.heap "java/lang/StringUTF16" "$assertionsDisabled" "Z" (.int (1 : Int32))) (S_uh : Sta Z Z.heap "java/lang/StringUTF16" "HI_BYTE_SHIFT" "I" (.int (0 : Int32))) (S_ul : Sta Z Z.heap "java/lang/StringUTF16" "LO_BYTE_SHIFT" "I" (.int (8 : Int32))) (g0 : ¬ c1 < 0) (g1 : ¬ (65535 : Int32) < c1) (nc : nar .char c1 = c1) :
    Ctr l Z (⟨"java/lang/String", "charAt", "(I)C"⟩ : MethodName) jdk_42_method_56_code 2 (some .char) [] ({ frames := 4, cells := 0, slots := 0, locals := 53 } : Room) #[(.ref a1), (.int (1 : Int32))] h0 (fun v h L => v = some (.int c1) ∧ Fr Z.heap.size L ∧ h = h0) := by
  refine ctr (plainFor_of_name pn_1) ?_
  intro p e s m below meth c s₁ hx hby hml hown hnm hret hlocks hZ X0 e0
  have N0 := Fr.nil Z.heap.size
  have hsz : ∀ {Ls : Array Slot}, Ls.size = 2 → Ls.size = c.maxLocals := fun q => q.trans hml.symm
  refine goE (ef_rmXa211 m (a1) ((1 : Int32))) ?_
  show Goes p e below _ (s₁.setTop (mkF m 0 #[.val (.ref a1), .val (.int (1 : Int32))] []))
  refine gAloadN X0 hx (hb hby d_jdk_42_method_56_0) rfl rfl ?_
  refine goCallV X0 hx hZ hown (hw _ (List.mem_of_getElem? (i := 68) rfl)) (hw _ (List.mem_of_getElem? (i := 69) rfl)) (hw _ (List.mem_of_getElem? (i := 71) rfl)) (hw _ (List.mem_of_getElem? (i := 70) rfl)) (hw _ (List.mem_of_getElem? (i := 10) rfl)) (hw _ (List.mem_of_getElem? (i := 72) rfl)) (by decide) (rmXi21 l Z a0 hw u cs c0 c1 a1 h0 O0 S_cs hcs E1 V1 C1 Y1) 0 (by decide) (by decide) e0 E1 (hsz rfl) [] [] pd_4 rfl rfl rfl (Nat.le_of_eq rfl) (hb hby d_jdk_42_method_56_1) (by decide) (by decide) (fun Tt1 vt1 Lt1 Xt1 qt1 => ?_)
  obtain ⟨rfl, N2, et1⟩ := qt1
  have N3 := Fr.app N0 N2
  show Goes p e below _ (Tt1.setTop (mkF m 4 #[.val (.ref a1), .val (.int (1 : Int32))] [(.int (0 : Int32))]))
  refine gIfY Xt1 hx (hb hby d_jdk_42_method_56_4) (pc' := 16) (XT.i0_eq_t (by decide)) (by decide) (by decide) ?_
  show Goes p e below _ (Tt1.setTop (mkF m 16 #[.val (.ref a1), .val (.int (1 : Int32))] []))
  refine gAloadN Xt1 hx (hb hby d_jdk_42_method_56_16) rfl rfl ?_
  obtain ⟨Tt4, Xt4, et4, stt4⟩ := getF Xt1 hx hZ hown (host := "") (Or.inl (hw _ (List.mem_of_getElem? (i := 28) rfl))) Via.refl et1 V1 (g := (mkF m 17 #[.val (.ref a1), .val (.int (1 : Int32))] [(.ref a1)])) rfl rfl (hb hby d_jdk_42_method_56_17)
  refine go stt4 ?_
  show Goes p e below _ (Tt4.setTop (mkF m 20 #[.val (.ref a1), .val (.int (1 : Int32))] [(.ref u)]))
  refine gIloadN Xt4 hx (hb hby d_jdk_42_method_56_20) rfl ?_
  refine goCallS Xt4 hx hZ hown (hw _ (List.mem_of_getElem? (i := 136) rfl)) (hw _ (List.mem_of_getElem? (i := 137) rfl)) (hw _ (List.mem_of_getElem? (i := 42) rfl)) (hw _ (List.mem_of_getElem? (i := 138) rfl)) (by decide) (rmUc21 l Z a0 hw fm c0 c1 u h0 O0 S_fm rf S_ua S_uh S_ul Y1 g0 g1 nc) 0 (by decide) (by decide) et4 (hsz rfl) [(.ref u), (.int (1 : Int32))] [] pd_12 rfl rfl rfl (Nat.le_of_eq rfl) (hb hby d_jdk_42_method_56_21) (by decide) (by decide) (fun Tt5 vt5 Lt5 Xt5 qt5 => ?_)
  obtain ⟨rfl, N6, et5⟩ := qt5
  have N7 := Fr.app N3 N6
  show Goes p e below _ (Tt5.setTop (mkF m 24 #[.val (.ref a1), .val (.int (1 : Int32))] [(.int c1)]))
  exact goRetN Xt5 hx (t := .char) hret hlocks (by simp) (hb hby d_jdk_42_method_56_24) (z' := c1) nc (by decide) (by decide) et5 (⟨rfl, N7, rfl⟩)
theorem ef_rmTk2 (m : MethodId) (x0 : Addr) : entryFrame m #[(.ref x0)] 2 = mkF m 0 #[.val (.ref x0), .unset] [] := by first | (simp [entryFrame, mkF, argsToLocals, Value.category]; done) | rfl
set_option maxRecDepth 65536 in
set_option maxHeartbeats 40000000 in
theorem rmTk2 (l : Launch) (Z : State) (a0 : Array Value) (hw : ∀ d ∈ tables_1, d.before a0 Z = true) (u : Addr) (fm : Value) (cs : Int32) (c0 c1 : Int32) (a1 : Addr) (h0 : Heap) (O0 : Ext Z.heap h0) (S_cs : Sta Z Z.heap "java/lang/String" "COMPACT_STRINGS" "Z" (.int cs)) (hcs : ¬ cs = 0) (S_ua : Sta Z Z.heap "java/lang/StringUTF16" "$assertionsDisabled" "Z" (.int (1 : Int32))) (S_uh : Sta Z Z.heap "java/lang/StringUTF16" "HI_BYTE_SHIFT" "I" (.int (0 : Int32))) (S_ul : Sta Z Z.heap "java/lang/StringUTF16" "LO_BYTE_SHIFT" "I" (.int (8 : Int32))) (S_fm : Sta Z Z.heap "jdk/internal/util/Preconditions" "SIOOBE_FORMATTER" "Ljava/util/function/BiFunction;" fm) (rf : fm.isRef = true) (hh : Jvm.Lit.constHeld Z "com/example/rolegate/rolegate/HttpSyntax" 27) (hcw : Jvm.Lit.compactW.before a0 Z = true) (nc0 : nar .char c0 = c0) (nc1 : nar .char c1 = c1) (q0_0 : ¬ c0 < 0) (q1_0 : ¬ (65535 : Int32) < c0) (q0_1 : ¬ c1 < 0) (q1_1 : ¬ (65535 : Int32) < c1) (E1 : Exa Z h0 a1 "java/lang/String") (V1 : Fld Z h0 a1 "java/lang/String" "value" "[B" (.ref u)) (A1 : (Fld Z h0 a1 "java/lang/String" "coder" "B" (.int (0 : Int32)) ∧ (¬ (255 : Int32) < c0 ∧ ¬ (255 : Int32) < c1) ∧ Ary Z h0 u .byte [(.int (c0.toInt8.toInt32)), (.int (c1.toInt8.toInt32))]) ∨ (Fld Z h0 a1 "java/lang/String" "coder" "B" (.int (1 : Int32)) ∧ Ary Z h0 u .byte [(.int ((c0 >>> ((0 : Int32) &&& 31)).toInt8.toInt32)), (.int ((c0 >>> ((8 : Int32) &&& 31)).toInt8.toInt32)), (.int ((c1 >>> ((0 : Int32) &&& 31)).toInt8.toInt32)), (.int ((c1 >>> ((8 : Int32) &&& 31)).toInt8.toInt32))])) :
    CtrW l Z (⟨"com/example/rolegate/rolegate/HttpSyntax", "isToken", "(Ljava/lang/String;)Z"⟩ : MethodName) prog_2_method_2_code 2 (some .boolean) [] ({ frames := 5, cells := 4, slots := 128, locals := 93 } : Room) #[(.ref a1)] h0 (fun vm => own_Tx Z h0 vm) (fun v h L vm => ∃ z : Int32, v = some (.int z) ∧ Fr Z.heap.size L ∧ Keep h0 h [] ∧ ((z = 1 ∧ ¬ own_tc c0 = 0 ∧ ¬ own_tc c1 = 0) ∨ (z = 0 ∧ (own_tc c0 = 0 ∨ own_tc c1 = 0)))) := by
  refine ctrW (plainFor_of_name pn_2) ?_
  intro p e s m below meth c s₁ vm0 hx hby hml hown hnm hret hlocks hZ X0 e0 hS hh0 hPv
  have N0 := Fr.nil Z.heap.size
  have hsz : ∀ {Ls : Array Slot}, Ls.size = 2 → Ls.size = c.maxLocals := fun q => q.trans hml.symm
  have K0 := Keep.refl h0 []
  refine goE (ef_rmTk2 m (a1)) ?_
  show Goes p e below _ (s₁.setTop (mkF m 0 #[.val (.ref a1), .unset] []))
  rcases A1 with ⟨C1, ⟨k0, k1⟩, Y1⟩ | ⟨C1, Y1⟩
  · refine gAloadN X0 hx (hb hby d_prog_2_method_2_0) rfl rfl ?_
    refine goCallV X0 hx hZ hown (hw _ (List.mem_of_getElem? (i := 34) rfl)) (hw _ (List.mem_of_getElem? (i := 35) rfl)) (hw _ (List.mem_of_getElem? (i := 37) rfl)) (hw _ (List.mem_of_getElem? (i := 36) rfl)) (hw _ (List.mem_of_getElem? (i := 10) rfl)) (hw _ (List.mem_of_getElem? (i := 38) rfl)) (by decide) (rmXe20 l Z a0 hw u cs c0 c1 a1 h0 O0 S_cs hcs E1 V1 C1 Y1) 0 (by decide) (by decide) e0 E1 (hsz rfl) [] [] pd_4 rfl rfl rfl (Nat.le_of_eq rfl) (hb hby d_prog_2_method_2_1) (by decide) (by decide) (fun Tt1 vt1 Lt1 Xt1 qt1 => ?_)
    obtain ⟨rfl, N2, et1⟩ := qt1
    have N3 := Fr.app N0 N2
    show Goes p e below _ (Tt1.setTop (mkF m 4 #[.val (.ref a1), .unset] [(.int (0 : Int32))]))
    refine gIfY Xt1 hx (hb hby d_prog_2_method_2_4) (pc' := 9) (XT.i0_eq_t (by decide)) (by decide) (by decide) ?_
    show Goes p e below _ (Tt1.setTop (mkF m 9 #[.val (.ref a1), .unset] []))
    refine gIconst Xt1 hx (hb hby d_prog_2_method_2_9) (v := (0 : Int32)) rfl ?_
    refine gIstoreN Xt1 hx (hb hby d_prog_2_method_2_10) (l' := #[.val (.ref a1), .val (.int (0 : Int32))]) rfl ?_
    refine gIloadN Xt1 hx (hb hby d_prog_2_method_2_11) rfl ?_
    refine gAloadN Xt1 hx (hb hby d_prog_2_method_2_12) rfl rfl ?_
    refine goCallV Xt1 hx hZ hown (hw _ (List.mem_of_getElem? (i := 53) rfl)) (hw _ (List.mem_of_getElem? (i := 54) rfl)) (hw _ (List.mem_of_getElem? (i := 56) rfl)) (hw _ (List.mem_of_getElem? (i := 55) rfl)) (hw _ (List.mem_of_getElem? (i := 10) rfl)) (hw _ (List.mem_of_getElem? (i := 57) rfl)) (by decide) (rmXl20 l Z a0 hw u cs c0 c1 a1 h0 O0 S_cs hcs E1 V1 C1 Y1) 1 (by decide) (by decide) et1 E1 (hsz rfl) [] [(.int (0 : Int32))] pd_5 rfl rfl rfl (Nat.le_of_eq rfl) (hb hby d_prog_2_method_2_13) (by decide) (by decide) (fun Tt4 vt4 Lt4 Xt4 qt4 => ?_)
    obtain ⟨rfl, N5, et4⟩ := qt4
    have N6 := Fr.app N3 N5
    show Goes p e below _ (Tt4.setTop (mkF m 16 #[.val (.ref a1), .val (.int (0 : Int32))] [(.int (2 : Int32)), (.int (0 : Int32))]))
    refine gIcmpN Xt4 hx (hb hby d_prog_2_method_2_16) (XT.ii_ge_f (by decide)) ?_
    show Goes p e below _ (Tt4.setTop (mkF m 19 #[.val (.ref a1), .val (.int (0 : Int32))] []))
    refine gAloadN Xt4 hx (hb hby d_prog_2_method_2_19) rfl rfl ?_
    refine gIloadN Xt4 hx (hb hby d_prog_2_method_2_20) rfl ?_
    refine goCallV Xt4 hx hZ hown (hw _ (List.mem_of_getElem? (i := 63) rfl)) (hw _ (List.mem_of_getElem? (i := 64) rfl)) (hw _ (List.mem_of_getElem? (i := 66) rfl)) (hw _ (List.mem_of_getElem? (i := 65) rfl)) (hw _ (List.mem_of_getElem? (i := 10) rfl)) (hw _ (List.mem_of_getElem? (i := 67) rfl)) (by decide) (rmXa200 l Z a0 hw fm u cs c0 c1 a1 h0 O0 S_cs hcs E1 V1 C1 Y1 S_fm rf q0_0 k0 nc0) 0 (by decide) (by decide) et4 E1 (hsz rfl) [(.int (0 : Int32))] [] pd_19 rfl rfl rfl (Nat.le_of_eq rfl) (hb hby d_prog_2_method_2_21) (by decide) (by decide) (fun Tt7 vt7 Lt7 Xt7 qt7 => ?_)
    obtain ⟨rfl, N8, et7⟩ := qt7
    have N9 := Fr.app N6 N8
    show Goes p e below _ (Tt7.setTop (mkF m 24 #[.val (.ref a1), .val (.int (0 : Int32))] [(.int c0)]))
    refine goCallSW Xt7 hx hZ hS hown (hw _ (List.mem_of_getElem? (i := 85) rfl)) (hw _ (List.mem_of_getElem? (i := 86) rfl)) (hw _ (List.mem_of_getElem? (i := 32) rfl)) (hw _ (List.mem_of_getElem? (i := 87) rfl)) (by decide) (rmTc l Z a0 hw cs c0 h0 O0 S_cs hcs hh hcw q0_0) (fun _ w_ => hPv.warm w_) 0 (by decide) (by decide) et7 (hsz rfl) [(.int c0)] [] pd_20 rfl rfl rfl (Nat.le_of_eq rfl) (hb hby d_prog_2_method_2_24) (by decide) (by decide) (fun Tt10 vt10 Lt10 Xt10 hZ hown hS wm_t10 qt10 => ?_)
    obtain ⟨ht10, et10⟩ : ∃ z, Tt10.heap = z := ⟨_, rfl⟩
    rw [et10] at qt10 hS
    obtain ⟨rfl, N11, Kct10, Tx0⟩ := qt10
    have N12 := Fr.app N9 N11
    replace V1 := V1.keep Kct10 nin0
    replace E1 := E1.keep Kct10
    replace C1 := C1.keep Kct10 nin0
    replace Y1 := Y1.keep Kct10 nin0
    have O13 : Ext Z.heap ht10 := extK O0 Kct10 all0
    have K14 := K0.trans Kct10 all0
    show Goes p e below _ (Tt10.setTop (mkF m 27 #[.val (.ref a1), .val (.int (0 : Int32))] [(.int (own_tc c0))]))
    by_cases t0 : (own_tc c0) = 0
    · refine gIfN Xt10 hx (hb hby d_prog_2_method_2_27) (XT.i0_ne_f t0) ?_
      show Goes p e below _ (Tt10.setTop (mkF m 30 #[.val (.ref a1), .val (.int (0 : Int32))] []))
      refine gIconst Xt10 hx (hb hby d_prog_2_method_2_30) (v := (0 : Int32)) rfl ?_
      exact goRetNW Xt10 hx hS (t := .boolean) hret hlocks (by simp) (hb hby d_prog_2_method_2_31) (z' := (0 : Int32)) rfl (by decide) (by decide) et10 (⟨0, rfl, N12, K14, Or.inr ⟨rfl, Or.inl t0⟩⟩)
    · refine gIfY Xt10 hx (hb hby d_prog_2_method_2_27) (pc' := 32) (XT.i0_ne_t t0) (by decide) (by decide) ?_
      show Goes p e below _ (Tt10.setTop (mkF m 32 #[.val (.ref a1), .val (.int (0 : Int32))] []))
      refine gIinc Xt10 hx (hb hby d_prog_2_method_2_32) (v := (1 : Int32)) rfl rfl (l' := #[.val (.ref a1), .val (.int (1 : Int32))]) rfl ?_
      refine gGoto Xt10 hx (hb hby d_prog_2_method_2_35) (pc' := 11) (by decide) (by decide) ?_
      show Goes p e below _ (Tt10.setTop (mkF m 11 #[.val (.ref a1), .val (.int (1 : Int32))] []))
      refine gIloadN Xt10 hx (hb hby d_prog_2_method_2_11) rfl ?_
      refine gAloadN Xt10 hx (hb hby d_prog_2_method_2_12) rfl rfl ?_
      refine goCallV Xt10 hx hZ hown (hw _ (List.mem_of_getElem? (i := 53) rfl)) (hw _ (List.mem_of_getElem? (i := 54) rfl)) (hw _ (List.mem_of_getElem? (i := 56) rfl)) (hw _ (List.mem_of_getElem? (i := 55) rfl)) (hw _ (List.mem_of_getElem? (i := 10) rfl)) (hw _ (List.mem_of_getElem? (i := 57) rfl)) (by decide) (rmXl20 l Z a0 hw u cs c0 c1 a1 ht10 O13 S_cs hcs E1 V1 C1 Y1) 1 (by decide) (by decide) et10 E1 (hsz rfl) [] [(.int (1 : Int32))] pd_5 rfl rfl rfl (Nat.le_of_eq rfl) (hb hby d_prog_2_method_2_13) (by decide) (by decide) (fun Tt15 vt15 Lt15 Xt15 qt15 => ?_)
      obtain ⟨rfl, N16, et15⟩ := qt15
      have N17 := Fr.app N12 N16
      show Goes p e below _ (Tt15.setTop (mkF m 16 #[.val (.ref a1), .val (.int (1 : Int32))] [(.int (2 : Int32)), (.int (1 : Int32))]))
      refine gIcmpN Xt15 hx (hb hby d_prog_2_method_2_16) (XT.ii_ge_f (by decide)) ?_
      show Goes p e below _ (Tt15.setTop (mkF m 19 #[.val (.ref a1), .val (.int (1 : Int32))] []))
      refine gAloadN Xt15 hx (hb hby d_prog_2_method_2_19) rfl rfl ?_
      refine gIloadN Xt15 hx (hb hby d_prog_2_method_2_20) rfl ?_
      refine goCallV Xt15 hx hZ hown (hw _ (List.mem_of_getElem? (i := 63) rfl)) (hw _ (List.mem_of_getElem? (i := 64) rfl)) (hw _ (List.mem_of_getElem? (i := 66) rfl)) (hw _ (List.mem_of_getElem? (i := 65) rfl)) (hw _ (List.mem_of_getElem? (i := 10) rfl)) (hw _ (List.mem_of_getElem? (i := 67) rfl)) (by decide) (rmXa201 l Z a0 hw fm u cs c0 c1 a1 ht10 O13 S_cs hcs E1 V1 C1 Y1 S_fm rf q0_1 k1 nc1) 0 (by decide) (by decide) et15 E1 (hsz rfl) [(.int (1 : Int32))] [] pd_19 rfl rfl rfl (Nat.le_of_eq rfl) (hb hby d_prog_2_method_2_21) (by decide) (by decide) (fun Tt18 vt18 Lt18 Xt18 qt18 => ?_)
      obtain ⟨rfl, N19, et18⟩ := qt18
      have N20 := Fr.app N17 N19
      show Goes p e below _ (Tt18.setTop (mkF m 24 #[.val (.ref a1), .val (.int (1 : Int32))] [(.int c1)]))
      refine goCallSW Xt18 hx hZ hS hown (hw _ (List.mem_of_getElem? (i := 85) rfl)) (hw _ (List.mem_of_getElem? (i := 86) rfl)) (hw _ (List.mem_of_getElem? (i := 32) rfl)) (hw _ (List.mem_of_getElem? (i := 87) rfl)) (by decide) (rmTc l Z a0 hw cs c1 ht10 O13 S_cs hcs hh hcw q0_1) (fun _ w_ => Tx0.warm w_) 0 (by decide) (by decide) et18 (hsz rfl) [(.int c1)] [] pd_20 rfl rfl rfl (Nat.le_of_eq rfl) (hb hby d_prog_2_method_2_24) (by decide) (by decide) (fun Tt21 vt21 Lt21 Xt21 hZ hown hS wm_t21 qt21 => ?_)
      obtain ⟨ht21, et21⟩ : ∃ z, Tt21.heap = z := ⟨_, rfl⟩
      rw [et21] at qt21 hS
      obtain ⟨rfl, N22, Kct21, Tx1⟩ := qt21
      have N23 := Fr.app N20 N22
      replace V1 := V1.keep Kct21 nin0
      replace E1 := E1.keep Kct21
      replace C1 := C1.keep Kct21 nin0
      replace Y1 := Y1.keep Kct21 nin0
      have O24 : Ext Z.heap ht21 := extK O13 Kct21 all0
      have K25 := K14.trans Kct21 all0
      show Goes p e below _ (Tt21.setTop (mkF m 27 #[.val (.ref a1), .val (.int (1 : Int32))] [(.int (own_tc c1))]))
      by_cases t1 : (own_tc c1) = 0
      · refine gIfN Xt21 hx (hb hby d_prog_2_method_2_27) (XT.i0_ne_f t1) ?_
        show Goes p e below _ (Tt21.setTop (mkF m 30 #[.val (.ref a1), .val (.int (1 : Int32))] []))
        refine gIconst Xt21 hx (hb hby d_prog_2_method_2_30) (v := (0 : Int32)) rfl ?_
        exact goRetNW Xt21 hx hS (t := .boolean) hret hlocks (by simp) (hb hby d_prog_2_method_2_31) (z' := (0 : Int32)) rfl (by decide) (by decide) et21 (⟨0, rfl, N23, K25, Or.inr ⟨rfl, Or.inr (t1)⟩⟩)
      · refine gIfY Xt21 hx (hb hby d_prog_2_method_2_27) (pc' := 32) (XT.i0_ne_t t1) (by decide) (by decide) ?_
        show Goes p e below _ (Tt21.setTop (mkF m 32 #[.val (.ref a1), .val (.int (1 : Int32))] []))
        refine gIinc Xt21 hx (hb hby d_prog_2_method_2_32) (v := (2 : Int32)) rfl rfl (l' := #[.val (.ref a1), .val (.int (2 : Int32))]) rfl ?_
        refine gGoto Xt21 hx (hb hby d_prog_2_method_2_35) (pc' := 11) (by decide) (by decide) ?_
        show Goes p e below _ (Tt21.setTop (mkF m 11 #[.val (.ref a1), .val (.int (2 : Int32))] []))
        refine gIloadN Xt21 hx (hb hby d_prog_2_method_2_11) rfl ?_
        refine gAloadN Xt21 hx (hb hby d_prog_2_method_2_12) rfl rfl ?_
        refine goCallV Xt21 hx hZ hown (hw _ (List.mem_of_getElem? (i := 53) rfl)) (hw _ (List.mem_of_getElem? (i := 54) rfl)) (hw _ (List.mem_of_getElem? (i := 56) rfl)) (hw _ (List.mem_of_getElem? (i := 55) rfl)) (hw _ (List.mem_of_getElem? (i := 10) rfl)) (hw _ (List.mem_of_getElem? (i := 57) rfl)) (by decide) (rmXl20 l Z a0 hw u cs c0 c1 a1 ht21 O24 S_cs hcs E1 V1 C1 Y1) 1 (by decide) (by decide) et21 E1 (hsz rfl) [] [(.int (2 : Int32))] pd_5 rfl rfl rfl (Nat.le_of_eq rfl) (hb hby d_prog_2_method_2_13) (by decide) (by decide) (fun Tt26 vt26 Lt26 Xt26 qt26 => ?_)
        obtain ⟨rfl, N27, et26⟩ := qt26
        have N28 := Fr.app N23 N27
        show Goes p e below _ (Tt26.setTop (mkF m 16 #[.val (.ref a1), .val (.int (2 : Int32))] [(.int (2 : Int32)), (.int (2 : Int32))]))
        refine gIcmpY Xt26 hx (hb hby d_prog_2_method_2_16) (pc' := 38) (XT.ii_ge_t (by decide)) (by decide) (by decide) ?_
        show Goes p e below _ (Tt26.setTop (mkF m 38 #[.val (.ref a1), .val (.int (2 : Int32))] []))
        refine gIconst Xt26 hx (hb hby d_prog_2_method_2_38) (v := (1 : Int32)) rfl ?_
        exact goRetNW Xt26 hx hS (t := .boolean) hret hlocks (by simp) (hb hby d_prog_2_method_2_39) (z' := (1 : Int32)) rfl (by decide) (by decide) et26 (⟨1, rfl, N28, K25, Or.inl ⟨rfl, t0, t1⟩⟩)
  · refine gAloadN X0 hx (hb hby d_prog_2_method_2_0) rfl rfl ?_
    refine goCallV X0 hx hZ hown (hw _ (List.mem_of_getElem? (i := 34) rfl)) (hw _ (List.mem_of_getElem? (i := 35) rfl)) (hw _ (List.mem_of_getElem? (i := 37) rfl)) (hw _ (List.mem_of_getElem? (i := 36) rfl)) (hw _ (List.mem_of_getElem? (i := 10) rfl)) (hw _ (List.mem_of_getElem? (i := 38) rfl)) (by decide) (rmXe21 l Z a0 hw u cs c0 c1 a1 h0 O0 S_cs hcs E1 V1 C1 Y1) 0 (by decide) (by decide) e0 E1 (hsz rfl) [] [] pd_4 rfl rfl rfl (Nat.le_of_eq rfl) (hb hby d_prog_2_method_2_1) (by decide) (by decide) (fun Tt29 vt29 Lt29 Xt29 qt29 => ?_)
    obtain ⟨rfl, N30, et29⟩ := qt29
    have N31 := Fr.app N0 N30
    show Goes p e below _ (Tt29.setTop (mkF m 4 #[.val (.ref a1), .unset] [(.int (0 : Int32))]))
    refine gIfY Xt29 hx (hb hby d_prog_2_method_2_4) (pc' := 9) (XT.i0_eq_t (by decide)) (by decide) (by decide) ?_
    show Goes p e below _ (Tt29.setTop (mkF m 9 #[.val (.ref a1), .unset] []))
    refine gIconst Xt29 hx (hb hby d_prog_2_method_2_9) (v := (0 : Int32)) rfl ?_
    refine gIstoreN Xt29 hx (hb hby d_prog_2_method_2_10) (l' := #[.val (.ref a1), .val (.int (0 : Int32))]) rfl ?_
    refine gIloadN Xt29 hx (hb hby d_prog_2_method_2_11) rfl ?_
    refine gAloadN Xt29 hx (hb hby d_prog_2_method_2_12) rfl rfl ?_
    refine goCallV Xt29 hx hZ hown (hw _ (List.mem_of_getElem? (i := 53) rfl)) (hw _ (List.mem_of_getElem? (i := 54) rfl)) (hw _ (List.mem_of_getElem? (i := 56) rfl)) (hw _ (List.mem_of_getElem? (i := 55) rfl)) (hw _ (List.mem_of_getElem? (i := 10) rfl)) (hw _ (List.mem_of_getElem? (i := 57) rfl)) (by decide) (rmXl21 l Z a0 hw u cs c0 c1 a1 h0 O0 S_cs hcs E1 V1 C1 Y1) 1 (by decide) (by decide) et29 E1 (hsz rfl) [] [(.int (0 : Int32))] pd_5 rfl rfl rfl (Nat.le_of_eq rfl) (hb hby d_prog_2_method_2_13) (by decide) (by decide) (fun Tt32 vt32 Lt32 Xt32 qt32 => ?_)
    obtain ⟨rfl, N33, et32⟩ := qt32
    have N34 := Fr.app N31 N33
    show Goes p e below _ (Tt32.setTop (mkF m 16 #[.val (.ref a1), .val (.int (0 : Int32))] [(.int (2 : Int32)), (.int (0 : Int32))]))
    refine gIcmpN Xt32 hx (hb hby d_prog_2_method_2_16) (XT.ii_ge_f (by decide)) ?_
    show Goes p e below _ (Tt32.setTop (mkF m 19 #[.val (.ref a1), .val (.int (0 : Int32))] []))
    refine gAloadN Xt32 hx (hb hby d_prog_2_method_2_19) rfl rfl ?_
    refine gIloadN Xt32 hx (hb hby d_prog_2_method_2_20) rfl ?_
    refine goCallV Xt32 hx hZ hown (hw _ (List.mem_of_getElem? (i := 63) rfl)) (hw _ (List.mem_of_getElem? (i := 64) rfl)) (hw _ (List.mem_of_getElem? (i := 66) rfl)) (hw _ (List.mem_of_getElem? (i := 65) rfl)) (hw _ (List.mem_of_getElem? (i := 10) rfl)) (hw _ (List.mem_of_getElem? (i := 67) rfl)) (by decide) (rmXa210 l Z a0 hw fm u cs c0 c1 a1 h0 O0 S_cs hcs E1 V1 C1 Y1 S_fm rf S_ua S_uh S_ul q0_0 q1_0 nc0) 0 (by decide) (by decide) et32 E1 (hsz rfl) [(.int (0 : Int32))] [] pd_19 rfl rfl rfl (Nat.le_of_eq rfl) (hb hby d_prog_2_method_2_21) (by decide) (by decide) (fun Tt35 vt35 Lt35 Xt35 qt35 => ?_)
    obtain ⟨rfl, N36, et35⟩ := qt35
    have N37 := Fr.app N34 N36
    show Goes p e below _ (Tt35.setTop (mkF m 24 #[.val (.ref a1), .val (.int (0 : Int32))] [(.int c0)]))
    refine goCallSW Xt35 hx hZ hS hown (hw _ (List.mem_of_getElem? (i := 85) rfl)) (hw _ (List.mem_of_getElem? (i := 86) rfl)) (hw _ (List.mem_of_getElem? (i := 32) rfl)) (hw _ (List.mem_of_getElem? (i := 87) rfl)) (by decide) (rmTc l Z a0 hw cs c0 h0 O0 S_cs hcs hh hcw q0_0) (fun _ w_ => hPv.warm w_) 0 (by decide) (by decide) et35 (hsz rfl) [(.int c0)] [] pd_20 rfl rfl rfl (Nat.le_of_eq rfl) (hb hby d_prog_2_method_2_24) (by decide) (by decide) (fun Tt38 vt38 Lt38 Xt38 hZ hown hS wm_t38 qt38 => ?_)
    obtain ⟨ht38, et38⟩ : ∃ z, Tt38.heap = z := ⟨_, rfl⟩
    rw [et38] at qt38 hS
    obtain ⟨rfl, N39, Kct38, Tx0⟩ := qt38
    have N40 := Fr.app N37 N39
    replace V1 := V1.keep Kct38 nin0
    replace E1 := E1.keep Kct38
    replace C1 := C1.keep Kct38 nin0
    replace Y1 := Y1.keep Kct38 nin0
    have O41 : Ext Z.heap ht38 := extK O0 Kct38 all0
    have K42 := K0.trans Kct38 all0
    show Goes p e below _ (Tt38.setTop (mkF m 27 #[.val (.ref a1), .val (.int (0 : Int32))] [(.int (own_tc c0))]))
    by_cases t0 : (own_tc c0) = 0
    · refine gIfN Xt38 hx (hb hby d_prog_2_method_2_27) (XT.i0_ne_f t0) ?_
      show Goes p e below _ (Tt38.setTop (mkF m 30 #[.val (.ref a1), .val (.int (0 : Int32))] []))
      refine gIconst Xt38 hx (hb hby d_prog_2_method_2_30) (v := (0 : Int32)) rfl ?_
      exact goRetNW Xt38 hx hS (t := .boolean) hret hlocks (by simp) (hb hby d_prog_2_method_2_31) (z' := (0 : Int32)) rfl (by decide) (by decide) et38 (⟨0, rfl, N40, K42, Or.inr ⟨rfl, Or.inl t0⟩⟩)
    · refine gIfY Xt38 hx (hb hby d_prog_2_method_2_27) (pc' := 32) (XT.i0_ne_t t0) (by decide) (by decide) ?_
      show Goes p e below _ (Tt38.setTop (mkF m 32 #[.val (.ref a1), .val (.int (0 : Int32))] []))
      refine gIinc Xt38 hx (hb hby d_prog_2_method_2_32) (v := (1 : Int32)) rfl rfl (l' := #[.val (.ref a1), .val (.int (1 : Int32))]) rfl ?_
      refine gGoto Xt38 hx (hb hby d_prog_2_method_2_35) (pc' := 11) (by decide) (by decide) ?_
      show Goes p e below _ (Tt38.setTop (mkF m 11 #[.val (.ref a1), .val (.int (1 : Int32))] []))
      refine gIloadN Xt38 hx (hb hby d_prog_2_method_2_11) rfl ?_
      refine gAloadN Xt38 hx (hb hby d_prog_2_method_2_12) rfl rfl ?_
      refine goCallV Xt38 hx hZ hown (hw _ (List.mem_of_getElem? (i := 53) rfl)) (hw _ (List.mem_of_getElem? (i := 54) rfl)) (hw _ (List.mem_of_getElem? (i := 56) rfl)) (hw _ (List.mem_of_getElem? (i := 55) rfl)) (hw _ (List.mem_of_getElem? (i := 10) rfl)) (hw _ (List.mem_of_getElem? (i := 57) rfl)) (by decide) (rmXl21 l Z a0 hw u cs c0 c1 a1 ht38 O41 S_cs hcs E1 V1 C1 Y1) 1 (by decide) (by decide) et38 E1 (hsz rfl) [] [(.int (1 : Int32))] pd_5 rfl rfl rfl (Nat.le_of_eq rfl) (hb hby d_prog_2_method_2_13) (by decide) (by decide) (fun Tt43 vt43 Lt43 Xt43 qt43 => ?_)
      obtain ⟨rfl, N44, et43⟩ := qt43
      have N45 := Fr.app N40 N44
      show Goes p e below _ (Tt43.setTop (mkF m 16 #[.val (.ref a1), .val (.int (1 : Int32))] [(.int (2 : Int32)), (.int (1 : Int32))]))
      refine gIcmpN Xt43 hx (hb hby d_prog_2_method_2_16) (XT.ii_ge_f (by decide)) ?_
      show Goes p e below _ (Tt43.setTop (mkF m 19 #[.val (.ref a1), .val (.int (1 : Int32))] []))
      refine gAloadN Xt43 hx (hb hby d_prog_2_method_2_19) rfl rfl ?_
      refine gIloadN Xt43 hx (hb hby d_prog_2_method_2_20) rfl ?_
      refine goCallV Xt43 hx hZ hown (hw _ (List.mem_of_getElem? (i := 63) rfl)) (hw _ (List.mem_of_getElem? (i := 64) rfl)) (hw _ (List.mem_of_getElem? (i := 66) rfl)) (hw _ (List.mem_of_getElem? (i := 65) rfl)) (hw _ (List.mem_of_getElem? (i := 10) rfl)) (hw _ (List.mem_of_getElem? (i := 67) rfl)) (by decide) (rmXa211 l Z a0 hw fm u cs c0 c1 a1 ht38 O41 S_cs hcs E1 V1 C1 Y1 S_fm rf S_ua S_uh S_ul q0_1 q1_1 nc1) 0 (by decide) (by decide) et43 E1 (hsz rfl) [(.int (1 : Int32))] [] pd_19 rfl rfl rfl (Nat.le_of_eq rfl) (hb hby d_prog_2_method_2_21) (by decide) (by decide) (fun Tt46 vt46 Lt46 Xt46 qt46 => ?_)
      obtain ⟨rfl, N47, et46⟩ := qt46
      have N48 := Fr.app N45 N47
      show Goes p e below _ (Tt46.setTop (mkF m 24 #[.val (.ref a1), .val (.int (1 : Int32))] [(.int c1)]))
      refine goCallSW Xt46 hx hZ hS hown (hw _ (List.mem_of_getElem? (i := 85) rfl)) (hw _ (List.mem_of_getElem? (i := 86) rfl)) (hw _ (List.mem_of_getElem? (i := 32) rfl)) (hw _ (List.mem_of_getElem? (i := 87) rfl)) (by decide) (rmTc l Z a0 hw cs c1 ht38 O41 S_cs hcs hh hcw q0_1) (fun _ w_ => Tx0.warm w_) 0 (by decide) (by decide) et46 (hsz rfl) [(.int c1)] [] pd_20 rfl rfl rfl (Nat.le_of_eq rfl) (hb hby d_prog_2_method_2_24) (by decide) (by decide) (fun Tt49 vt49 Lt49 Xt49 hZ hown hS wm_t49 qt49 => ?_)
      obtain ⟨ht49, et49⟩ : ∃ z, Tt49.heap = z := ⟨_, rfl⟩
      rw [et49] at qt49 hS
      obtain ⟨rfl, N50, Kct49, Tx1⟩ := qt49
      have N51 := Fr.app N48 N50
      replace V1 := V1.keep Kct49 nin0
      replace E1 := E1.keep Kct49
      replace C1 := C1.keep Kct49 nin0
      replace Y1 := Y1.keep Kct49 nin0
      have O52 : Ext Z.heap ht49 := extK O41 Kct49 all0
      have K53 := K42.trans Kct49 all0
      show Goes p e below _ (Tt49.setTop (mkF m 27 #[.val (.ref a1), .val (.int (1 : Int32))] [(.int (own_tc c1))]))
      by_cases t1 : (own_tc c1) = 0
      · refine gIfN Xt49 hx (hb hby d_prog_2_method_2_27) (XT.i0_ne_f t1) ?_
        show Goes p e below _ (Tt49.setTop (mkF m 30 #[.val (.ref a1), .val (.int (1 : Int32))] []))
        refine gIconst Xt49 hx (hb hby d_prog_2_method_2_30) (v := (0 : Int32)) rfl ?_
        exact goRetNW Xt49 hx hS (t := .boolean) hret hlocks (by simp) (hb hby d_prog_2_method_2_31) (z' := (0 : Int32)) rfl (by decide) (by decide) et49 (⟨0, rfl, N51, K53, Or.inr ⟨rfl, Or.inr (t1)⟩⟩)
      · refine gIfY Xt49 hx (hb hby d_prog_2_method_2_27) (pc' := 32) (XT.i0_ne_t t1) (by decide) (by decide) ?_
        show Goes p e below _ (Tt49.setTop (mkF m 32 #[.val (.ref a1), .val (.int (1 : Int32))] []))
        refine gIinc Xt49 hx (hb hby d_prog_2_method_2_32) (v := (2 : Int32)) rfl rfl (l' := #[.val (.ref a1), .val (.int (2 : Int32))]) rfl ?_
        refine gGoto Xt49 hx (hb hby d_prog_2_method_2_35) (pc' := 11) (by decide) (by decide) ?_
        show Goes p e below _ (Tt49.setTop (mkF m 11 #[.val (.ref a1), .val (.int (2 : Int32))] []))
        refine gIloadN Xt49 hx (hb hby d_prog_2_method_2_11) rfl ?_
        refine gAloadN Xt49 hx (hb hby d_prog_2_method_2_12) rfl rfl ?_
        refine goCallV Xt49 hx hZ hown (hw _ (List.mem_of_getElem? (i := 53) rfl)) (hw _ (List.mem_of_getElem? (i := 54) rfl)) (hw _ (List.mem_of_getElem? (i := 56) rfl)) (hw _ (List.mem_of_getElem? (i := 55) rfl)) (hw _ (List.mem_of_getElem? (i := 10) rfl)) (hw _ (List.mem_of_getElem? (i := 57) rfl)) (by decide) (rmXl21 l Z a0 hw u cs c0 c1 a1 ht49 O52 S_cs hcs E1 V1 C1 Y1) 1 (by decide) (by decide) et49 E1 (hsz rfl) [] [(.int (2 : Int32))] pd_5 rfl rfl rfl (Nat.le_of_eq rfl) (hb hby d_prog_2_method_2_13) (by decide) (by decide) (fun Tt54 vt54 Lt54 Xt54 qt54 => ?_)
        obtain ⟨rfl, N55, et54⟩ := qt54
        have N56 := Fr.app N51 N55
        show Goes p e below _ (Tt54.setTop (mkF m 16 #[.val (.ref a1), .val (.int (2 : Int32))] [(.int (2 : Int32)), (.int (2 : Int32))]))
        refine gIcmpY Xt54 hx (hb hby d_prog_2_method_2_16) (pc' := 38) (XT.ii_ge_t (by decide)) (by decide) (by decide) ?_
        show Goes p e below _ (Tt54.setTop (mkF m 38 #[.val (.ref a1), .val (.int (2 : Int32))] []))
        refine gIconst Xt54 hx (hb hby d_prog_2_method_2_38) (v := (1 : Int32)) rfl ?_
        exact goRetNW Xt54 hx hS (t := .boolean) hret hlocks (by simp) (hb hby d_prog_2_method_2_39) (z' := (1 : Int32)) rfl (by decide) (by decide) et54 (⟨1, rfl, N56, K53, Or.inl ⟨rfl, t0, t1⟩⟩)
theorem ef_rmSa3 (m : MethodId) (x0 : Addr) (x1 : Int32) (x2 : Addr) (x3 : Int32) (x4 : Int32) : entryFrame m #[(.ref x0), (.int x1), (.ref x2), (.int x3), (.int x4)] 7 = mkF m 0 #[.val (.ref x0), .val (.int x1), .val (.ref x2), .val (.int x3), .val (.int x4), .unset, .unset] [] := by first | (simp [entryFrame, mkF, argsToLocals, Value.category]; done) | rfl
set_option maxRecDepth 65536 in
set_option maxHeartbeats 40000000 in
theorem rmSa3 (l : Launch) (Z : State) (a0 : Array Value) (hw : ∀ d ∈ tables_1, d.before a0 Z = true) (c0 c1 c2 : Int32) (a1 : Addr) (a2 : Addr) (h0 : Heap) (O0 : Ext Z.heap h0) (Y1 : Ary Z h0 a1 .char [(.int c0), (.int c1), (.int c2)]) (Y2 : Ary Z h0 a2 .byte [(.int (0 : Int32)), (.int (0 : Int32)), (.int (0 : Int32))]) (ne : a1 ≠ a2) (fr2 : Z.heap.size ≤ a2) :
    Ctr l Z (⟨"java/lang/StringUTF16", "compress", "([CI[BII)I"⟩ : MethodName) jdk_52_method_21_code 7 (some .int) [] ({ frames := 0, cells := 0, slots := 0, locals := 0 } : Room) #[(.ref a1), (.int (0 : Int32)), (.ref a2), (.int (0 : Int32)), (.int (3 : Int32))] h0 (fun v h L => ∃ r : Int32, v = some (.int r) ∧ Fr Z.heap.size L ∧ Keep h0 h [a2] ∧ ((r = (3 : Int32) ∧ (¬ (255 : Int32) < c0 ∧ ¬ (255 : Int32) < c1 ∧ ¬ (255 : Int32) < c2) ∧ Ary Z h a2 .byte [(.int (c0.toInt8.toInt32)), (.int (c1.toInt8.toInt32)), (.int (c2.toInt8.toInt32))]) ∨ (r = (0 : Int32) ∧ (255 : Int32) < c0) ∨ (r = (1 : Int32) ∧ (255 : Int32) < c1) ∨ (r = (2 : Int32) ∧ (255 : Int32) < c2))) := by
  refine ctr (plainFor_of_name pn_4) ?_
  intro p e s m below meth c s₁ hx hby hml hown hnm hret hlocks hZ X0 e0
  have N0 := Fr.nil Z.heap.size
  have hsz : ∀ {Ls : Array Slot}, Ls.size = 7 → Ls.size = c.maxLocals := fun q => q.trans hml.symm
  have K0 := Keep.refl h0 [a2]
  refine goE (ef_rmSa3 m (a1) ((0 : Int32)) (a2) ((0 : Int32)) ((3 : Int32))) ?_
  show Goes p e below _ (s₁.setTop (mkF m 0 #[.val (.ref a1), .val (.int (0 : Int32)), .val (.ref a2), .val (.int (0 : Int32)), .val (.int (3 : Int32)), .unset, .unset] []))
  refine gIconst X0 hx (hb hby d_jdk_52_method_21_0) (v := (0 : Int32)) rfl ?_
  refine gIstore X0 hx (hb hby d_jdk_52_method_21_1) (l' := #[.val (.ref a1), .val (.int (0 : Int32)), .val (.ref a2), .val (.int (0 : Int32)), .val (.int (3 : Int32)), .val (.int (0 : Int32)), .unset]) rfl ?_
  refine gIload X0 hx (hb hby d_jdk_52_method_21_3) rfl ?_
  refine gIload X0 hx (hb hby d_jdk_52_method_21_5) rfl ?_
  refine gIcmpN X0 hx (hb hby d_jdk_52_method_21_7) (XT.ii_ge_f (by decide)) ?_
  show Goes p e below _ (s₁.setTop (mkF m 10 #[.val (.ref a1), .val (.int (0 : Int32)), .val (.ref a2), .val (.int (0 : Int32)), .val (.int (3 : Int32)), .val (.int (0 : Int32)), .unset] []))
  refine gAloadN X0 hx (hb hby d_jdk_52_method_21_10) rfl rfl ?_
  refine gIloadN X0 hx (hb hby d_jdk_52_method_21_11) rfl ?_
  refine goCaload X0 hx hZ e0 Y1 (x := c0) (hb hby d_jdk_52_method_21_12) (by decide) rfl ?_
  refine gIstore X0 hx (hb hby d_jdk_52_method_21_13) (l' := #[.val (.ref a1), .val (.int (0 : Int32)), .val (.ref a2), .val (.int (0 : Int32)), .val (.int (3 : Int32)), .val (.int (0 : Int32)), .val (.int c0)]) rfl ?_
  refine gIload X0 hx (hb hby d_jdk_52_method_21_15) rfl ?_
  refine gSipush X0 hx (hb hby d_jdk_52_method_21_17) (v := (255 : Int32)) rfl ?_
  by_cases o0 : (255 : Int32) < c0
  · refine gIcmpN X0 hx (hb hby d_jdk_52_method_21_20) (XT.ii_le_f o0) ?_
    show Goes p e below _ (s₁.setTop (mkF m 23 #[.val (.ref a1), .val (.int (0 : Int32)), .val (.ref a2), .val (.int (0 : Int32)), .val (.int (3 : Int32)), .val (.int (0 : Int32)), .val (.int c0)] []))
    refine gIload X0 hx (hb hby d_jdk_52_method_21_23) rfl ?_
    exact goRetI X0 hx hret hlocks (hb hby d_jdk_52_method_21_25) (by decide) (by decide) e0 (⟨_, rfl, N0, K0, (Or.inr (Or.inl ⟨rfl, o0⟩))⟩)
  · refine gIcmpY X0 hx (hb hby d_jdk_52_method_21_20) (pc' := 26) (XT.ii_le_t o0) (by decide) (by decide) ?_
    show Goes p e below _ (s₁.setTop (mkF m 26 #[.val (.ref a1), .val (.int (0 : Int32)), .val (.ref a2), .val (.int (0 : Int32)), .val (.int (3 : Int32)), .val (.int (0 : Int32)), .val (.int c0)] []))
    refine gAloadN X0 hx (hb hby d_jdk_52_method_21_26) rfl rfl ?_
    refine gIloadN X0 hx (hb hby d_jdk_52_method_21_27) rfl ?_
    refine gIload X0 hx (hb hby d_jdk_52_method_21_28) rfl ?_
    refine gI2b X0 hx (hb hby d_jdk_52_method_21_30) ?_
    refine goBastore X0 hx hZ e0 Y2 (hb hby d_jdk_52_method_21_31) (by decide) rfl (fun Tt1 ht1 Xt1 et1 Wt1 => ?_)
    have N2 := Fr.snoc Xt1 N0 fr2
    replace Y2 : Ary Z ht1 a2 .byte [(.int (c0.toInt8.toInt32)), (.int (0 : Int32)), (.int (0 : Int32))] := Y2.set Wt1 (by rw [narb]; rfl)
    replace Y1 := Y1.other Wt1 ne
    have O3 : Ext Z.heap ht1 := extW O0 Wt1 fr2
    have K4 := K0.wr Wt1 (Or.inl (by simp))
    show Goes p e below _ (Tt1.setTop (mkF m 32 #[.val (.ref a1), .val (.int (0 : Int32)), .val (.ref a2), .val (.int (0 : Int32)), .val (.int (3 : Int32)), .val (.int (0 : Int32)), .val (.int c0)] []))
    refine gIinc Xt1 hx (hb hby d_jdk_52_method_21_32) (v := (1 : Int32)) rfl rfl (l' := #[.val (.ref a1), .val (.int (1 : Int32)), .val (.ref a2), .val (.int (0 : Int32)), .val (.int (3 : Int32)), .val (.int (0 : Int32)), .val (.int c0)]) rfl ?_
    refine gIinc Xt1 hx (hb hby d_jdk_52_method_21_35) (v := (1 : Int32)) rfl rfl (l' := #[.val (.ref a1), .val (.int (1 : Int32)), .val (.ref a2), .val (.int (1 : Int32)), .val (.int (3 : Int32)), .val (.int (0 : Int32)), .val (.int c0)]) rfl ?_
    refine gIinc Xt1 hx (hb hby d_jdk_52_method_21_38) (v := (1 : Int32)) rfl rfl (l' := #[.val (.ref a1), .val (.int (1 : Int32)), .val (.ref a2), .val (.int (1 : Int32)), .val (.int (3 : Int32)), .val (.int (1 : Int32)), .val (.int c0)]) rfl ?_
    refine gGoto Xt1 hx (hb hby d_jdk_52_method_21_41) (pc' := 3) (by decide) (by decide) ?_
    show Goes p e below _ (Tt1.setTop (mkF m 3 #[.val (.ref a1), .val (.int (1 : Int32)), .val (.ref a2), .val (.int (1 : Int32)), .val (.int (3 : Int32)), .val (.int (1 : Int32)), .val (.int c0)] []))
    refine gIload Xt1 hx (hb hby d_jdk_52_method_21_3) rfl ?_
    refine gIload Xt1 hx (hb hby d_jdk_52_method_21_5) rfl ?_
    refine gIcmpN Xt1 hx (hb hby d_jdk_52_method_21_7) (XT.ii_ge_f (by decide)) ?_
    show Goes p e below _ (Tt1.setTop (mkF m 10 #[.val (.ref a1), .val (.int (1 : Int32)), .val (.ref a2), .val (.int (1 : Int32)), .val (.int (3 : Int32)), .val (.int (1 : Int32)), .val (.int c0)] []))
    refine gAloadN Xt1 hx (hb hby d_jdk_52_method_21_10) rfl rfl ?_
    refine gIloadN Xt1 hx (hb hby d_jdk_52_method_21_11) rfl ?_
    refine goCaload Xt1 hx hZ et1 Y1 (x := c1) (hb hby d_jdk_52_method_21_12) (by decide) rfl ?_
    refine gIstore Xt1 hx (hb hby d_jdk_52_method_21_13) (l' := #[.val (.ref a1), .val (.int (1 : Int32)), .val (.ref a2), .val (.int (1 : Int32)), .val (.int (3 : Int32)), .val (.int (1 : Int32)), .val (.int c1)]) rfl ?_
    refine gIload Xt1 hx (hb hby d_jdk_52_method_21_15) rfl ?_
    refine gSipush Xt1 hx (hb hby d_jdk_52_method_21_17) (v := (255 : Int32)) rfl ?_
    by_cases o1 : (255 : Int32) < c1
    · refine gIcmpN Xt1 hx (hb hby d_jdk_52_method_21_20) (XT.ii_le_f o1) ?_
      show Goes p e below _ (Tt1.setTop (mkF m 23 #[.val (.ref a1), .val (.int (1 : Int32)), .val (.ref a2), .val (.int (1 : Int32)), .val (.int (3 : Int32)), .val (.int (1 : Int32)), .val (.int c1)] []))
      refine gIload Xt1 hx (hb hby d_jdk_52_method_21_23) rfl ?_
      exact goRetI Xt1 hx hret hlocks (hb hby d_jdk_52_method_21_25) (by decide) (by decide) et1 (⟨_, rfl, N2, K4, (Or.inr (Or.inr (Or.inl ⟨rfl, o1⟩)))⟩)
    · refine gIcmpY Xt1 hx (hb hby d_jdk_52_method_21_20) (pc' := 26) (XT.ii_le_t o1) (by decide) (by decide) ?_
      show Goes p e below _ (Tt1.setTop (mkF m 26 #[.val (.ref a1), .val (.int (1 : Int32)), .val (.ref a2), .val (.int (1 : Int32)), .val (.int (3 : Int32)), .val (.int (1 : Int32)), .val (.int c1)] []))
      refine gAloadN Xt1 hx (hb hby d_jdk_52_method_21_26) rfl rfl ?_
      refine gIloadN Xt1 hx (hb hby d_jdk_52_method_21_27) rfl ?_
      refine gIload Xt1 hx (hb hby d_jdk_52_method_21_28) rfl ?_
      refine gI2b Xt1 hx (hb hby d_jdk_52_method_21_30) ?_
      refine goBastore Xt1 hx hZ et1 Y2 (hb hby d_jdk_52_method_21_31) (by decide) rfl (fun Tt5 ht5 Xt5 et5 Wt5 => ?_)
      have N6 := Fr.snoc Xt5 N2 fr2
      replace Y2 : Ary Z ht5 a2 .byte [(.int (c0.toInt8.toInt32)), (.int (c1.toInt8.toInt32)), (.int (0 : Int32))] := Y2.set Wt5 (by rw [narb]; rfl)
      replace Y1 := Y1.other Wt5 ne
      have O7 : Ext Z.heap ht5 := extW O3 Wt5 fr2
      have K8 := K4.wr Wt5 (Or.inl (by simp))
      show Goes p e below _ (Tt5.setTop (mkF m 32 #[.val (.ref a1), .val (.int (1 : Int32)), .val (.ref a2), .val (.int (1 : Int32)), .val (.int (3 : Int32)), .val (.int (1 : Int32)), .val (.int c1)] []))
      refine gIinc Xt5 hx (hb hby d_jdk_52_method_21_32) (v := (2 : Int32)) rfl rfl (l' := #[.val (.ref a1), .val (.int (2 : Int32)), .val (.ref a2), .val (.int (1 : Int32)), .val (.int (3 : Int32)), .val (.int (1 : Int32)), .val (.int c1)]) rfl ?_
      refine gIinc Xt5 hx (hb hby d_jdk_52_method_21_35) (v := (2 : Int32)) rfl rfl (l' := #[.val (.ref a1), .val (.int (2 : Int32)), .val (.ref a2), .val (.int (2 : Int32)), .val (.int (3 : Int32)), .val (.int (1 : Int32)), .val (.int c1)]) rfl ?_
      refine gIinc Xt5 hx (hb hby d_jdk_52_method_21_38) (v := (2 : Int32)) rfl rfl (l' := #[.val (.ref a1), .val (.int (2 : Int32)), .val (.ref a2), .val (.int (2 : Int32)), .val (.int (3 : Int32)), .val (.int (2 : Int32)), .val (.int c1)]) rfl ?_
      refine gGoto Xt5 hx (hb hby d_jdk_52_method_21_41) (pc' := 3) (by decide) (by decide) ?_
      show Goes p e below _ (Tt5.setTop (mkF m 3 #[.val (.ref a1), .val (.int (2 : Int32)), .val (.ref a2), .val (.int (2 : Int32)), .val (.int (3 : Int32)), .val (.int (2 : Int32)), .val (.int c1)] []))
      refine gIload Xt5 hx (hb hby d_jdk_52_method_21_3) rfl ?_
      refine gIload Xt5 hx (hb hby d_jdk_52_method_21_5) rfl ?_
      refine gIcmpN Xt5 hx (hb hby d_jdk_52_method_21_7) (XT.ii_ge_f (by decide)) ?_
      show Goes p e below _ (Tt5.setTop (mkF m 10 #[.val (.ref a1), .val (.int (2 : Int32)), .val (.ref a2), .val (.int (2 : Int32)), .val (.int (3 : Int32)), .val (.int (2 : Int32)), .val (.int c1)] []))
      refine gAloadN Xt5 hx (hb hby d_jdk_52_method_21_10) rfl rfl ?_
      refine gIloadN Xt5 hx (hb hby d_jdk_52_method_21_11) rfl ?_
      refine goCaload Xt5 hx hZ et5 Y1 (x := c2) (hb hby d_jdk_52_method_21_12) (by decide) rfl ?_
      refine gIstore Xt5 hx (hb hby d_jdk_52_method_21_13) (l' := #[.val (.ref a1), .val (.int (2 : Int32)), .val (.ref a2), .val (.int (2 : Int32)), .val (.int (3 : Int32)), .val (.int (2 : Int32)), .val (.int c2)]) rfl ?_
      refine gIload Xt5 hx (hb hby d_jdk_52_method_21_15) rfl ?_
      refine gSipush Xt5 hx (hb hby d_jdk_52_method_21_17) (v := (255 : Int32)) rfl ?_
      by_cases o2 : (255 : Int32) < c2
      · refine gIcmpN Xt5 hx (hb hby d_jdk_52_method_21_20) (XT.ii_le_f o2) ?_
        show Goes p e below _ (Tt5.setTop (mkF m 23 #[.val (.ref a1), .val (.int (2 : Int32)), .val (.ref a2), .val (.int (2 : Int32)), .val (.int (3 : Int32)), .val (.int (2 : Int32)), .val (.int c2)] []))
        refine gIload Xt5 hx (hb hby d_jdk_52_method_21_23) rfl ?_
        exact goRetI Xt5 hx hret hlocks (hb hby d_jdk_52_method_21_25) (by decide) (by decide) et5 (⟨_, rfl, N6, K8, (Or.inr (Or.inr (Or.inr ⟨rfl, o2⟩)))⟩)
      · refine gIcmpY Xt5 hx (hb hby d_jdk_52_method_21_20) (pc' := 26) (XT.ii_le_t o2) (by decide) (by decide) ?_
        show Goes p e below _ (Tt5.setTop (mkF m 26 #[.val (.ref a1), .val (.int (2 : Int32)), .val (.ref a2), .val (.int (2 : Int32)), .val (.int (3 : Int32)), .val (.int (2 : Int32)), .val (.int c2)] []))
        refine gAloadN Xt5 hx (hb hby d_jdk_52_method_21_26) rfl rfl ?_
        refine gIloadN Xt5 hx (hb hby d_jdk_52_method_21_27) rfl ?_
        refine gIload Xt5 hx (hb hby d_jdk_52_method_21_28) rfl ?_
        refine gI2b Xt5 hx (hb hby d_jdk_52_method_21_30) ?_
        refine goBastore Xt5 hx hZ et5 Y2 (hb hby d_jdk_52_method_21_31) (by decide) rfl (fun Tt9 ht9 Xt9 et9 Wt9 => ?_)
        have N10 := Fr.snoc Xt9 N6 fr2
        replace Y2 : Ary Z ht9 a2 .byte [(.int (c0.toInt8.toInt32)), (.int (c1.toInt8.toInt32)), (.int (c2.toInt8.toInt32))] := Y2.set Wt9 (by rw [narb]; rfl)
        replace Y1 := Y1.other Wt9 ne
        have O11 : Ext Z.heap ht9 := extW O7 Wt9 fr2
        have K12 := K8.wr Wt9 (Or.inl (by simp))
        show Goes p e below _ (Tt9.setTop (mkF m 32 #[.val (.ref a1), .val (.int (2 : Int32)), .val (.ref a2), .val (.int (2 : Int32)), .val (.int (3 : Int32)), .val (.int (2 : Int32)), .val (.int c2)] []))
        refine gIinc Xt9 hx (hb hby d_jdk_52_method_21_32) (v := (3 : Int32)) rfl rfl (l' := #[.val (.ref a1), .val (.int (3 : Int32)), .val (.ref a2), .val (.int (2 : Int32)), .val (.int (3 : Int32)), .val (.int (2 : Int32)), .val (.int c2)]) rfl ?_
        refine gIinc Xt9 hx (hb hby d_jdk_52_method_21_35) (v := (3 : Int32)) rfl rfl (l' := #[.val (.ref a1), .val (.int (3 : Int32)), .val (.ref a2), .val (.int (3 : Int32)), .val (.int (3 : Int32)), .val (.int (2 : Int32)), .val (.int c2)]) rfl ?_
        refine gIinc Xt9 hx (hb hby d_jdk_52_method_21_38) (v := (3 : Int32)) rfl rfl (l' := #[.val (.ref a1), .val (.int (3 : Int32)), .val (.ref a2), .val (.int (3 : Int32)), .val (.int (3 : Int32)), .val (.int (3 : Int32)), .val (.int c2)]) rfl ?_
        refine gGoto Xt9 hx (hb hby d_jdk_52_method_21_41) (pc' := 3) (by decide) (by decide) ?_
        show Goes p e below _ (Tt9.setTop (mkF m 3 #[.val (.ref a1), .val (.int (3 : Int32)), .val (.ref a2), .val (.int (3 : Int32)), .val (.int (3 : Int32)), .val (.int (3 : Int32)), .val (.int c2)] []))
        refine gIload Xt9 hx (hb hby d_jdk_52_method_21_3) rfl ?_
        refine gIload Xt9 hx (hb hby d_jdk_52_method_21_5) rfl ?_
        refine gIcmpY Xt9 hx (hb hby d_jdk_52_method_21_7) (pc' := 44) (XT.ii_ge_t (by decide)) (by decide) (by decide) ?_
        show Goes p e below _ (Tt9.setTop (mkF m 44 #[.val (.ref a1), .val (.int (3 : Int32)), .val (.ref a2), .val (.int (3 : Int32)), .val (.int (3 : Int32)), .val (.int (3 : Int32)), .val (.int c2)] []))
        refine gIload Xt9 hx (hb hby d_jdk_52_method_21_44) rfl ?_
        exact goRetI Xt9 hx hret hlocks (hb hby d_jdk_52_method_21_46) (by decide) (by decide) et9 (⟨_, rfl, N10, K12, Or.inl ⟨rfl, ⟨o0, o1, o2⟩, Y2⟩⟩)
theorem ef_rmNl3 (m : MethodId) (x0 : Int32) : entryFrame m #[(.int x0)] 1 = mkF m 0 #[.val (.int x0)] [] := by first | (simp [entryFrame, mkF, argsToLocals, Value.category]; done) | rfl
set_option maxRecDepth 65536 in
set_option maxHeartbeats 40000000 in
theorem rmNl3 (l : Launch) (Z : State) (a0 : Array Value) (hw : ∀ d ∈ tables_1, d.before a0 Z = true)   (h0 : Heap) (O0 : Ext Z.heap h0)  :
    Ctr l Z (⟨"java/lang/StringUTF16", "newBytesLength", "(I)I"⟩ : MethodName) jdk_52_method_3_code 1 (some .int) [] ({ frames := 0, cells := 0, slots := 0, locals := 0 } : Room) #[(.int (3 : Int32))] h0 (fun v h L => v = some (.int (6 : Int32)) ∧ Fr Z.heap.size L ∧ h = h0) := by
  refine ctr (plainFor_of_name pn_4) ?_
  intro p e s m below meth c s₁ hx hby hml hown hnm hret hlocks hZ X0 e0
  have N0 := Fr.nil Z.heap.size
  have hsz : ∀ {Ls : Array Slot}, Ls.size = 1 → Ls.size = c.maxLocals := fun q => q.trans hml.symm
  refine goE (ef_rmNl3 m ((3 : Int32))) ?_
  show Goes p e below _ (s₁.setTop (mkF m 0 #[.val (.int (3 : Int32))] []))
  refine gIloadN X0 hx (hb hby d_jdk_52_method_3_0) rfl ?_
  refine gIfY X0 hx (hb hby d_jdk_52_method_3_1) (pc' := 12) (XT.i0_ge_t (by decide)) (by decide) (by decide) ?_
  show Goes p e below _ (s₁.setTop (mkF m 12 #[.val (.int (3 : Int32))] []))
  refine gIloadN X0 hx (hb hby d_jdk_52_method_3_12) rfl ?_
  refine gLdcI X0 hx hZ hown (hw _ (List.mem_of_getElem? (i := 126) rfl)) (hb hby d_jdk_52_method_3_13) ?_
  refine gIcmpY X0 hx (hb hby d_jdk_52_method_3_15) (pc' := 55) (XT.ii_lt_t (by decide)) (by decide) (by decide) ?_
  show Goes p e below _ (s₁.setTop (mkF m 55 #[.val (.int (3 : Int32))] []))
  refine gIloadN X0 hx (hb hby d_jdk_52_method_3_55) rfl ?_
  refine gIconst X0 hx (hb hby d_jdk_52_method_3_56) (v := (1 : Int32)) rfl ?_
  refine gIshl X0 hx (hb hby d_jdk_52_method_3_57) ?_
  exact goRetI X0 hx hret hlocks (hb hby d_jdk_52_method_3_58) (by decide) (by decide) e0 (⟨congrArg (fun z => some (Value.int z)) (by decide), N0, rfl⟩)
theorem ef_rmNf3 (m : MethodId) (x0 : Int32) : entryFrame m #[(.int x0)] 1 = mkF m 0 #[.val (.int x0)] [] := by first | (simp [entryFrame, mkF, argsToLocals, Value.category]; done) | rfl
set_option maxRecDepth 65536 in
set_option maxHeartbeats 40000000 in
theorem rmNf3 (l : Launch) (Z : State) (a0 : Array Value) (hw : ∀ d ∈ tables_1, d.before a0 Z = true)   (h0 : Heap) (O0 : Ext Z.heap h0)  :
    Ctr l Z (⟨"java/lang/StringUTF16", "newBytesFor", "(I)[B"⟩ : MethodName) jdk_52_method_2_code 1 (some (.array .byte)) [] ({ frames := 1, cells := 1, slots := 6, locals := 12 } : Room) #[(.int (3 : Int32))] h0 (fun v h L => ∃ u, v = some (.ref u) ∧ Fr Z.heap.size L ∧ Keep h0 h [] ∧ h0.size ≤ u ∧ Ary Z h u .byte [(.int (0 : Int32)), (.int (0 : Int32)), (.int (0 : Int32)), (.int (0 : Int32)), (.int (0 : Int32)), (.int (0 : Int32))]) := by
  refine ctr (plainFor_of_name pn_4) ?_
  intro p e s m below meth c s₁ hx hby hml hown hnm hret hlocks hZ X0 e0
  have N0 := Fr.nil Z.heap.size
  have hsz : ∀ {Ls : Array Slot}, Ls.size = 1 → Ls.size = c.maxLocals := fun q => q.trans hml.symm
  have K0 := Keep.refl h0 []
  refine goE (ef_rmNf3 m ((3 : Int32))) ?_
  show Goes p e below _ (s₁.setTop (mkF m 0 #[.val (.int (3 : Int32))] []))
  refine gIloadN X0 hx (hb hby d_jdk_52_method_2_0) rfl ?_
  refine goCallS X0 hx hZ hown (hw _ (List.mem_of_getElem? (i := 123) rfl)) (hw _ (List.mem_of_getElem? (i := 124) rfl)) (hw _ (List.mem_of_getElem? (i := 42) rfl)) (hw _ (List.mem_of_getElem? (i := 125) rfl)) (by decide) (rmNl3 l Z a0 hw h0 O0) 0 (by decide) (by decide) e0 (hsz rfl) [(.int (3 : Int32))] [] pd_6 rfl rfl rfl (Nat.le_of_eq rfl) (hb hby d_jdk_52_method_2_1) (by decide) (by decide) (fun Tt1 vt1 Lt1 Xt1 qt1 => ?_)
  obtain ⟨rfl, N2, et1⟩ := qt1
  have N3 := Fr.app N0 N2
  show Goes p e below _ (Tt1.setTop (mkF m 4 #[.val (.int (3 : Int32))] [(.int (6 : Int32))]))
  obtain ⟨Tt4, ht4, kt4, Xt4, et4, Et4, At4, stt4⟩ := newP Xt1 hx hZ (hw _ (List.mem_of_getElem? (i := 23) rfl)) et1 (g := (mkF m 4 #[.val (.int (3 : Int32))] [(.int (6 : Int32))])) rfl (hb hby d_jdk_52_method_2_4) rfl (by decide) (cap := 6) (by decide) (by decide) (by decide) (by decide)
  obtain ⟨ob5, gob5⟩ : ∃ z, z = h0.size := ⟨_, rfl⟩
  rw [← gob5] at At4 stt4
  refine go stt4 ?_
  have fr_ob5 : Z.heap.size ≤ ob5 := gob5 ▸ O0.1
  have pa_ob5 : h0.size ≤ ob5 := gob5 ▸ K0.1
  have O6 : Ext Z.heap ht4 := extT O0 Et4
  have K7 := K0.ext Et4
  have Y_ob5 : Ary Z ht4 ob5 .byte [(.int (0 : Int32)), (.int (0 : Int32)), (.int (0 : Int32)), (.int (0 : Int32)), (.int (0 : Int32)), (.int (0 : Int32))] := Ary.new At4 rfl (by decide)
  show Goes p e below _ (Tt4.setTop (mkF m 6 #[.val (.int (3 : Int32))] [(.ref ob5)]))
  exact goRetA Xt4 hx hret hlocks rfl rfl (hb hby d_jdk_52_method_2_6) (by decide) (by decide) et4 (⟨ob5, rfl, N3, K7, pa_ob5, Y_ob5⟩)
theorem ef_rmPc30 (m : MethodId) (x0 : Addr) (x1 : Int32) (x2 : Int32) : entryFrame m #[(.ref x0), (.int x1), (.int x2)] 3 = mkF m 0 #[.val (.ref x0), .val (.int x1), .val (.int x2)] [] := by first | (simp [entryFrame, mkF, argsToLocals, Value.category]; done) | rfl
set_option maxRecDepth 65536 in
set_option maxHeartbeats 40000000 in
theorem rmPc30 (l : Launch) (Z : State) (a0 : Array Value) (hw : ∀ d ∈ tables_1, d.before a0 Z = true) (y0 y1 y2 y3 y4 y5 : Int32) (a1 : Addr) (c0 : Int32) (h0 : Heap) (O0 : Ext Z.heap h0) (S_ua : Sta Z Z.heap "java/lang/StringUTF16" "$assertionsDisabled" "Z" (.int (1 : Int32))) (S_uh : Sta Z Z.heap "java/lang/StringUTF16" "HI_BYTE_SHIFT" "I" (.int (0 : Int32))) (S_ul : Sta Z Z.heap "java/lang/StringUTF16" "LO_BYTE_SHIFT" "I" (.int (8 : Int32))) (Y1 : Ary Z h0 a1 .byte [(.int y0), (.int y1), (.int y2), (.int y3), (.int y4), (.int y5)]) (fr1 : Z.heap.size ≤ a1) :
    Ctr l Z (⟨"java/lang/StringUTF16", "putChar", "([BII)V"⟩ : MethodName) jdk_52_method_4_code 3 none [] ({ frames := 0, cells := 0, slots := 0, locals := 0 } : Room) #[(.ref a1), (.int (0 : Int32)), (.int c0)] h0 (fun v h L => v = none ∧ Fr Z.heap.size L ∧ Keep h0 h [a1] ∧ Ary Z h a1 .byte [(.int ((c0 >>> ((0 : Int32) &&& 31)).toInt8.toInt32)), (.int ((c0 >>> ((8 : Int32) &&& 31)).toInt8.toInt32)), (.int y2), (.int y3), (.int y4), (.int y5)]) := by
  refine ctr (plainFor_of_name pn_4) ?_
  intro p e s m below meth c s₁ hx hby hml hown hnm hret hlocks hZ X0 e0
  have N0 := Fr.nil Z.heap.size
  have hsz : ∀ {Ls : Array Slot}, Ls.size = 3 → Ls.size = c.maxLocals := fun q => q.trans hml.symm
  have K0 := Keep.refl h0 [a1]
  refine goE (ef_rmPc30 m (a1) ((0 : Int32)) (c0)) ?_
  show Goes p e below _ (s₁.setTop (mkF m 0 #[.val (.ref a1), .val (.int (0 : Int32)), .val (.int c0)] []))
  obtain ⟨Tt1, Xt1, et1, stt1⟩ := getS2 X0 hx hZ hown (host := "") (Or.inl (hw _ (List.mem_of_getElem? (i := 130) rfl))) Via.refl e0 (S_ua.ext O0) (g := (mkF m 0 #[.val (.ref a1), .val (.int (0 : Int32)), .val (.int c0)] [])) rfl (hb hby d_jdk_52_method_4_0)
  refine go stt1 ?_
  show Goes p e below _ (Tt1.setTop (mkF m 3 #[.val (.ref a1), .val (.int (0 : Int32)), .val (.int c0)] [(.int (1 : Int32))]))
  refine gIfY Xt1 hx (hb hby d_jdk_52_method_4_3) (pc' := 28) (XT.i0_ne_t (by decide)) (by decide) (by decide) ?_
  show Goes p e below _ (Tt1.setTop (mkF m 28 #[.val (.ref a1), .val (.int (0 : Int32)), .val (.int c0)] []))
  refine gIloadN Xt1 hx (hb hby d_jdk_52_method_4_28) rfl ?_
  refine gIconst Xt1 hx (hb hby d_jdk_52_method_4_29) (v := (1 : Int32)) rfl ?_
  refine gIshl Xt1 hx (hb hby d_jdk_52_method_4_30) ?_
  show Goes p e below _ (Tt1.setTop (mkF m 31 #[.val (.ref a1), .val (.int (0 : Int32)), .val (.int c0)] [(.int ((0 : Int32) <<< ((1 : Int32) &&& 31)))]))
  rw [show ((0 : Int32) <<< ((1 : Int32) &&& 31)) = (0 : Int32) from by decide]
  show Goes p e below _ (Tt1.setTop (mkF m 31 #[.val (.ref a1), .val (.int (0 : Int32)), .val (.int c0)] [(.int (0 : Int32))]))
  refine gIstoreN Xt1 hx (hb hby d_jdk_52_method_4_31) (l' := #[.val (.ref a1), .val (.int (0 : Int32)), .val (.int c0)]) rfl ?_
  refine gAloadN Xt1 hx (hb hby d_jdk_52_method_4_32) rfl rfl ?_
  refine gIloadN Xt1 hx (hb hby d_jdk_52_method_4_33) rfl ?_
  refine gIinc Xt1 hx (hb hby d_jdk_52_method_4_34) (v := (1 : Int32)) rfl rfl (l' := #[.val (.ref a1), .val (.int (1 : Int32)), .val (.int c0)]) rfl ?_
  refine gIloadN Xt1 hx (hb hby d_jdk_52_method_4_37) rfl ?_
  obtain ⟨Tt2, Xt2, et2, stt2⟩ := getS2 Xt1 hx hZ hown (host := "") (Or.inl (hw _ (List.mem_of_getElem? (i := 131) rfl))) Via.refl et1 (S_uh.ext O0) (g := (mkF m 38 #[.val (.ref a1), .val (.int (1 : Int32)), .val (.int c0)] [(.int c0), (.int (0 : Int32)), (.ref a1)])) rfl (hb hby d_jdk_52_method_4_38)
  refine go stt2 ?_
  show Goes p e below _ (Tt2.setTop (mkF m 41 #[.val (.ref a1), .val (.int (1 : Int32)), .val (.int c0)] [(.int (0 : Int32)), (.int c0), (.int (0 : Int32)), (.ref a1)]))
  refine gIshr Xt2 hx (hb hby d_jdk_52_method_4_41) ?_
  refine gI2b Xt2 hx (hb hby d_jdk_52_method_4_42) ?_
  refine goBastore Xt2 hx hZ et2 Y1 (hb hby d_jdk_52_method_4_43) (by decide) rfl (fun Tt3 ht3 Xt3 et3 Wt3 => ?_)
  have N4 := Fr.snoc Xt3 N0 fr1
  replace Y1 : Ary Z ht3 a1 .byte [(.int ((c0 >>> ((0 : Int32) &&& 31)).toInt8.toInt32)), (.int y1), (.int y2), (.int y3), (.int y4), (.int y5)] := Y1.set Wt3 (by rw [narb]; rfl)
  have O5 : Ext Z.heap ht3 := extW O0 Wt3 fr1
  have K6 := K0.wr Wt3 (Or.inl (by simp))
  show Goes p e below _ (Tt3.setTop (mkF m 44 #[.val (.ref a1), .val (.int (1 : Int32)), .val (.int c0)] []))
  refine gAloadN Xt3 hx (hb hby d_jdk_52_method_4_44) rfl rfl ?_
  refine gIloadN Xt3 hx (hb hby d_jdk_52_method_4_45) rfl ?_
  refine gIloadN Xt3 hx (hb hby d_jdk_52_method_4_46) rfl ?_
  obtain ⟨Tt7, Xt7, et7, stt7⟩ := getS2 Xt3 hx hZ hown (host := "") (Or.inl (hw _ (List.mem_of_getElem? (i := 132) rfl))) Via.refl et3 (S_ul.ext O5) (g := (mkF m 47 #[.val (.ref a1), .val (.int (1 : Int32)), .val (.int c0)] [(.int c0), (.int (1 : Int32)), (.ref a1)])) rfl (hb hby d_jdk_52_method_4_47)
  refine go stt7 ?_
  show Goes p e below _ (Tt7.setTop (mkF m 50 #[.val (.ref a1), .val (.int (1 : Int32)), .val (.int c0)] [(.int (8 : Int32)), (.int c0), (.int (1 : Int32)), (.ref a1)]))
  refine gIshr Xt7 hx (hb hby d_jdk_52_method_4_50) ?_
  refine gI2b Xt7 hx (hb hby d_jdk_52_method_4_51) ?_
  refine goBastore Xt7 hx hZ et7 Y1 (hb hby d_jdk_52_method_4_52) (by decide) rfl (fun Tt8 ht8 Xt8 et8 Wt8 => ?_)
  have N9 := Fr.snoc Xt8 N4 fr1
  replace Y1 : Ary Z ht8 a1 .byte [(.int ((c0 >>> ((0 : Int32) &&& 31)).toInt8.toInt32)), (.int ((c0 >>> ((8 : Int32) &&& 31)).toInt8.toInt32)), (.int y2), (.int y3), (.int y4), (.int y5)] := Y1.set Wt8 (by rw [narb]; rfl)
  have O10 : Ext Z.heap ht8 := extW O5 Wt8 fr1
  have K11 := K6.wr Wt8 (Or.inl (by simp))
  show Goes p e below _ (Tt8.setTop (mkF m 53 #[.val (.ref a1), .val (.int (1 : Int32)), .val (.int c0)] []))
  exact goRet0 Xt8 hx hret hlocks (hb hby d_jdk_52_method_4_53) (by decide) (by decide) et8 (⟨rfl, N9, K11, Y1⟩)
theorem ef_rmGc30 (m : MethodId) (x0 : Addr) (x1 : Int32) : entryFrame m #[(.ref x0), (.int x1)] 2 = mkF m 0 #[.val (.ref x0), .val (.int x1)] [] := by first | (simp [entryFrame, mkF, argsToLocals, Value.category]; done) | rfl
set_option maxRecDepth 65536 in
set_option maxHeartbeats 40000000 in
theorem rmGc30 (l : Launch) (Z : State) (a0 : Array Value) (hw : ∀ d ∈ tables_1, d.before a0 Z = true) (y0 y1 y2 y3 y4 y5 : Int32) (a1 : Addr) (h0 : Heap) (O0 : Ext Z.heap h0) (S_ua : Sta Z Z.heap "java/lang/StringUTF16" "$assertionsDisabled" "Z" (.int (1 : Int32))) (S_uh : Sta Z Z.heap "java/lang/StringUTF16" "HI_BYTE_SHIFT" "I" (.int (0 : Int32))) (S_ul : Sta Z Z.heap "java/lang/StringUTF16" "LO_BYTE_SHIFT" "I" (.int (8 : Int32))) (Y1 : Ary Z h0 a1 .byte [(.int y0), (.int y1), (.int y2), (.int y3), (.int y4), (.int y5)]) :
    Ctr l Z (⟨"java/lang/StringUTF16", "getChar", "([BI)C"⟩ : MethodName) jdk_52_method_5_code 2 (some .char) [] ({ frames := 0, cells := 0, slots := 0, locals := 0 } : Room) #[(.ref a1), (.int (0 : Int32))] h0 (fun v h L => v = some (.int (own_gc y0 y1)) ∧ Fr Z.heap.size L ∧ h = h0) := by
  refine ctr (plainFor_of_name pn_4) ?_
  intro p e s m below meth c s₁ hx hby hml hown hnm hret hlocks hZ X0 e0
  have N0 := Fr.nil Z.heap.size
  have hsz : ∀ {Ls : Array Slot}, Ls.size = 2 → Ls.size = c.maxLocals := fun q => q.trans hml.symm
  refine goE (ef_rmGc30 m (a1) ((0 : Int32))) ?_
  show Goes p e below _ (s₁.setTop (mkF m 0 #[.val (.ref a1), .val (.int (0 : Int32))] []))
  obtain ⟨Tt1, Xt1, et1, stt1⟩ := getS2 X0 hx hZ hown (host := "") (Or.inl (hw _ (List.mem_of_getElem? (i := 130) rfl))) Via.refl e0 (S_ua.ext O0) (g := (mkF m 0 #[.val (.ref a1), .val (.int (0 : Int32))] [])) rfl (hb hby d_jdk_52_method_5_0)
  refine go stt1 ?_
  show Goes p e below _ (Tt1.setTop (mkF m 3 #[.val (.ref a1), .val (.int (0 : Int32))] [(.int (1 : Int32))]))
  refine gIfY Xt1 hx (hb hby d_jdk_52_method_5_3) (pc' := 28) (XT.i0_ne_t (by decide)) (by decide) (by decide) ?_
  show Goes p e below _ (Tt1.setTop (mkF m 28 #[.val (.ref a1), .val (.int (0 : Int32))] []))
  refine gIloadN Xt1 hx (hb hby d_jdk_52_method_5_28) rfl ?_
  refine gIconst Xt1 hx (hb hby d_jdk_52_method_5_29) (v := (1 : Int32)) rfl ?_
  refine gIshl Xt1 hx (hb hby d_jdk_52_method_5_30) ?_
  show Goes p e below _ (Tt1.setTop (mkF m 31 #[.val (.ref a1), .val (.int (0 : Int32))] [(.int ((0 : Int32) <<< ((1 : Int32) &&& 31)))]))
  rw [show ((0 : Int32) <<< ((1 : Int32) &&& 31)) = (0 : Int32) from by decide]
  show Goes p e below _ (Tt1.setTop (mkF m 31 #[.val (.ref a1), .val (.int (0 : Int32))] [(.int (0 : Int32))]))
  refine gIstoreN Xt1 hx (hb hby d_jdk_52_method_5_31) (l' := #[.val (.ref a1), .val (.int (0 : Int32))]) rfl ?_
  refine gAloadN Xt1 hx (hb hby d_jdk_52_method_5_32) rfl rfl ?_
  refine gIloadN Xt1 hx (hb hby d_jdk_52_method_5_33) rfl ?_
  refine gIinc Xt1 hx (hb hby d_jdk_52_method_5_34) (v := (1 : Int32)) rfl rfl (l' := #[.val (.ref a1), .val (.int (1 : Int32))]) rfl ?_
  refine goBaload Xt1 hx hZ et1 Y1 (x := y0) (hb hby d_jdk_52_method_5_37) (by decide) rfl ?_
  refine gSipush Xt1 hx (hb hby d_jdk_52_method_5_38) (v := (255 : Int32)) rfl ?_
  refine gIand Xt1 hx (hb hby d_jdk_52_method_5_41) ?_
  show Goes p e below _ (Tt1.setTop (mkF m 42 #[.val (.ref a1), .val (.int (1 : Int32))] [(.int (y0 &&& (255 : Int32)))]))
  obtain ⟨Tt2, Xt2, et2, stt2⟩ := getS2 Xt1 hx hZ hown (host := "") (Or.inl (hw _ (List.mem_of_getElem? (i := 131) rfl))) Via.refl et1 (S_uh.ext O0) (g := (mkF m 42 #[.val (.ref a1), .val (.int (1 : Int32))] [(.int (y0 &&& (255 : Int32)))])) rfl (hb hby d_jdk_52_method_5_42)
  refine go stt2 ?_
  show Goes p e below _ (Tt2.setTop (mkF m 45 #[.val (.ref a1), .val (.int (1 : Int32))] [(.int (0 : Int32)), (.int (y0 &&& (255 : Int32)))]))
  refine gIshl Xt2 hx (hb hby d_jdk_52_method_5_45) ?_
  refine gAloadN Xt2 hx (hb hby d_jdk_52_method_5_46) rfl rfl ?_
  refine gIloadN Xt2 hx (hb hby d_jdk_52_method_5_47) rfl ?_
  refine goBaload Xt2 hx hZ et2 Y1 (x := y1) (hb hby d_jdk_52_method_5_48) (by decide) rfl ?_
  refine gSipush Xt2 hx (hb hby d_jdk_52_method_5_49) (v := (255 : Int32)) rfl ?_
  refine gIand Xt2 hx (hb hby d_jdk_52_method_5_52) ?_
  obtain ⟨Tt3, Xt3, et3, stt3⟩ := getS2 Xt2 hx hZ hown (host := "") (Or.inl (hw _ (List.mem_of_getElem? (i := 132) rfl))) Via.refl et2 (S_ul.ext O0) (g := (mkF m 53 #[.val (.ref a1), .val (.int (1 : Int32))] [(.int (y1 &&& (255 : Int32))), (.int ((y0 &&& (255 : Int32)) <<< ((0 : Int32) &&& 31)))])) rfl (hb hby d_jdk_52_method_5_53)
  refine go stt3 ?_
  show Goes p e below _ (Tt3.setTop (mkF m 56 #[.val (.ref a1), .val (.int (1 : Int32))] [(.int (8 : Int32)), (.int (y1 &&& (255 : Int32))), (.int ((y0 &&& (255 : Int32)) <<< ((0 : Int32) &&& 31)))]))
  refine gIshl Xt3 hx (hb hby d_jdk_52_method_5_56) ?_
  refine gIor Xt3 hx (hb hby d_jdk_52_method_5_57) ?_
  refine gI2c Xt3 hx (hb hby d_jdk_52_method_5_58) ?_
  exact goRetN Xt3 hx (t := .char) hret hlocks (by simp) (hb hby d_jdk_52_method_5_59) (z' := ((((y0 &&& (255 : Int32)) <<< ((0 : Int32) &&& 31)) ||| ((y1 &&& (255 : Int32)) <<< ((8 : Int32) &&& 31))).toUInt32.toUInt16.toUInt32.toInt32)) (narc _) (by decide) (by decide) et3 (⟨rfl, N0, rfl⟩)
theorem ef_rmPc31 (m : MethodId) (x0 : Addr) (x1 : Int32) (x2 : Int32) : entryFrame m #[(.ref x0), (.int x1), (.int x2)] 3 = mkF m 0 #[.val (.ref x0), .val (.int x1), .val (.int x2)] [] := by first | (simp [entryFrame, mkF, argsToLocals, Value.category]; done) | rfl
set_option maxRecDepth 65536 in
set_option maxHeartbeats 40000000 in
theorem rmPc31 (l : Launch) (Z : State) (a0 : Array Value) (hw : ∀ d ∈ tables_1, d.before a0 Z = true) (y0 y1 y2 y3 y4 y5 : Int32) (a1 : Addr) (c0 : Int32) (h0 : Heap) (O0 : Ext Z.heap h0) (S_ua : Sta Z Z.heap "java/lang/StringUTF16" "$assertionsDisabled" "Z" (.int (1 : Int32))) (S_uh : Sta Z Z.heap "java/lang/StringUTF16" "HI_BYTE_SHIFT" "I" (.int (0 : Int32))) (S_ul : Sta Z Z.heap "java/lang/StringUTF16" "LO_BYTE_SHIFT" "I" (.int (8 : Int32))) (Y1 : Ary Z h0 a1 .byte [(.int y0), (.int y1), (.int y2), (.int y3), (.int y4), (.int y5)]) (fr1 : Z.heap.size ≤ a1) :
    Ctr l Z (⟨"java/lang/StringUTF16", "putChar", "([BII)V"⟩ : MethodName) jdk_52_method_4_code 3 none [] ({ frames := 0, cells := 0, slots := 0, locals := 0 } : Room) #[(.ref a1), (.int (1 : Int32)), (.int c0)] h0 (fun v h L => v = none ∧ Fr Z.heap.size L ∧ Keep h0 h [a1] ∧ Ary Z h a1 .byte [(.int y0), (.int y1), (.int ((c0 >>> ((0 : Int32) &&& 31)).toInt8.toInt32)), (.int ((c0 >>> ((8 : Int32) &&& 31)).toInt8.toInt32)), (.int y4), (.int y5)]) := by
  refine ctr (plainFor_of_name pn_4) ?_
  intro p e s m below meth c s₁ hx hby hml hown hnm hret hlocks hZ X0 e0
  have N0 := Fr.nil Z.heap.size
  have hsz : ∀ {Ls : Array Slot}, Ls.size = 3 → Ls.size = c.maxLocals := fun q => q.trans hml.symm
  have K0 := Keep.refl h0 [a1]
  refine goE (ef_rmPc31 m (a1) ((1 : Int32)) (c0)) ?_
  show Goes p e below _ (s₁.setTop (mkF m 0 #[.val (.ref a1), .val (.int (1 : Int32)), .val (.int c0)] []))
  obtain ⟨Tt1, Xt1, et1, stt1⟩ := getS2 X0 hx hZ hown (host := "") (Or.inl (hw _ (List.mem_of_getElem? (i := 130) rfl))) Via.refl e0 (S_ua.ext O0) (g := (mkF m 0 #[.val (.ref a1), .val (.int (1 : Int32)), .val (.int c0)] [])) rfl (hb hby d_jdk_52_method_4_0)
  refine go stt1 ?_
  show Goes p e below _ (Tt1.setTop (mkF m 3 #[.val (.ref a1), .val (.int (1 : Int32)), .val (.int c0)] [(.int (1 : Int32))]))
  refine gIfY Xt1 hx (hb hby d_jdk_52_method_4_3) (pc' := 28) (XT.i0_ne_t (by decide)) (by decide) (by decide) ?_
  show Goes p e below _ (Tt1.setTop (mkF m 28 #[.val (.ref a1), .val (.int (1 : Int32)), .val (.int c0)] []))
  refine gIloadN Xt1 hx (hb hby d_jdk_52_method_4_28) rfl ?_
  refine gIconst Xt1 hx (hb hby d_jdk_52_method_4_29) (v := (1 : Int32)) rfl ?_
  refine gIshl Xt1 hx (hb hby d_jdk_52_method_4_30) ?_
  show Goes p e below _ (Tt1.setTop (mkF m 31 #[.val (.ref a1), .val (.int (1 : Int32)), .val (.int c0)] [(.int ((1 : Int32) <<< ((1 : Int32) &&& 31)))]))
  rw [show ((1 : Int32) <<< ((1 : Int32) &&& 31)) = (2 : Int32) from by decide]
  show Goes p e below _ (Tt1.setTop (mkF m 31 #[.val (.ref a1), .val (.int (1 : Int32)), .val (.int c0)] [(.int (2 : Int32))]))
  refine gIstoreN Xt1 hx (hb hby d_jdk_52_method_4_31) (l' := #[.val (.ref a1), .val (.int (2 : Int32)), .val (.int c0)]) rfl ?_
  refine gAloadN Xt1 hx (hb hby d_jdk_52_method_4_32) rfl rfl ?_
  refine gIloadN Xt1 hx (hb hby d_jdk_52_method_4_33) rfl ?_
  refine gIinc Xt1 hx (hb hby d_jdk_52_method_4_34) (v := (3 : Int32)) rfl rfl (l' := #[.val (.ref a1), .val (.int (3 : Int32)), .val (.int c0)]) rfl ?_
  refine gIloadN Xt1 hx (hb hby d_jdk_52_method_4_37) rfl ?_
  obtain ⟨Tt2, Xt2, et2, stt2⟩ := getS2 Xt1 hx hZ hown (host := "") (Or.inl (hw _ (List.mem_of_getElem? (i := 131) rfl))) Via.refl et1 (S_uh.ext O0) (g := (mkF m 38 #[.val (.ref a1), .val (.int (3 : Int32)), .val (.int c0)] [(.int c0), (.int (2 : Int32)), (.ref a1)])) rfl (hb hby d_jdk_52_method_4_38)
  refine go stt2 ?_
  show Goes p e below _ (Tt2.setTop (mkF m 41 #[.val (.ref a1), .val (.int (3 : Int32)), .val (.int c0)] [(.int (0 : Int32)), (.int c0), (.int (2 : Int32)), (.ref a1)]))
  refine gIshr Xt2 hx (hb hby d_jdk_52_method_4_41) ?_
  refine gI2b Xt2 hx (hb hby d_jdk_52_method_4_42) ?_
  refine goBastore Xt2 hx hZ et2 Y1 (hb hby d_jdk_52_method_4_43) (by decide) rfl (fun Tt3 ht3 Xt3 et3 Wt3 => ?_)
  have N4 := Fr.snoc Xt3 N0 fr1
  replace Y1 : Ary Z ht3 a1 .byte [(.int y0), (.int y1), (.int ((c0 >>> ((0 : Int32) &&& 31)).toInt8.toInt32)), (.int y3), (.int y4), (.int y5)] := Y1.set Wt3 (by rw [narb]; rfl)
  have O5 : Ext Z.heap ht3 := extW O0 Wt3 fr1
  have K6 := K0.wr Wt3 (Or.inl (by simp))
  show Goes p e below _ (Tt3.setTop (mkF m 44 #[.val (.ref a1), .val (.int (3 : Int32)), .val (.int c0)] []))
  refine gAloadN Xt3 hx (hb hby d_jdk_52_method_4_44) rfl rfl ?_
  refine gIloadN Xt3 hx (hb hby d_jdk_52_method_4_45) rfl ?_
  refine gIloadN Xt3 hx (hb hby d_jdk_52_method_4_46) rfl ?_
  obtain ⟨Tt7, Xt7, et7, stt7⟩ := getS2 Xt3 hx hZ hown (host := "") (Or.inl (hw _ (List.mem_of_getElem? (i := 132) rfl))) Via.refl et3 (S_ul.ext O5) (g := (mkF m 47 #[.val (.ref a1), .val (.int (3 : Int32)), .val (.int c0)] [(.int c0), (.int (3 : Int32)), (.ref a1)])) rfl (hb hby d_jdk_52_method_4_47)
  refine go stt7 ?_
  show Goes p e below _ (Tt7.setTop (mkF m 50 #[.val (.ref a1), .val (.int (3 : Int32)), .val (.int c0)] [(.int (8 : Int32)), (.int c0), (.int (3 : Int32)), (.ref a1)]))
  refine gIshr Xt7 hx (hb hby d_jdk_52_method_4_50) ?_
  refine gI2b Xt7 hx (hb hby d_jdk_52_method_4_51) ?_
  refine goBastore Xt7 hx hZ et7 Y1 (hb hby d_jdk_52_method_4_52) (by decide) rfl (fun Tt8 ht8 Xt8 et8 Wt8 => ?_)
  have N9 := Fr.snoc Xt8 N4 fr1
  replace Y1 : Ary Z ht8 a1 .byte [(.int y0), (.int y1), (.int ((c0 >>> ((0 : Int32) &&& 31)).toInt8.toInt32)), (.int ((c0 >>> ((8 : Int32) &&& 31)).toInt8.toInt32)), (.int y4), (.int y5)] := Y1.set Wt8 (by rw [narb]; rfl)
  have O10 : Ext Z.heap ht8 := extW O5 Wt8 fr1
  have K11 := K6.wr Wt8 (Or.inl (by simp))
  show Goes p e below _ (Tt8.setTop (mkF m 53 #[.val (.ref a1), .val (.int (3 : Int32)), .val (.int c0)] []))
  exact goRet0 Xt8 hx hret hlocks (hb hby d_jdk_52_method_4_53) (by decide) (by decide) et8 (⟨rfl, N9, K11, Y1⟩)
theorem ef_rmGc31 (m : MethodId) (x0 : Addr) (x1 : Int32) : entryFrame m #[(.ref x0), (.int x1)] 2 = mkF m 0 #[.val (.ref x0), .val (.int x1)] [] := by first | (simp [entryFrame, mkF, argsToLocals, Value.category]; done) | rfl
set_option maxRecDepth 65536 in
set_option maxHeartbeats 40000000 in
theorem rmGc31 (l : Launch) (Z : State) (a0 : Array Value) (hw : ∀ d ∈ tables_1, d.before a0 Z = true) (y0 y1 y2 y3 y4 y5 : Int32) (a1 : Addr) (h0 : Heap) (O0 : Ext Z.heap h0) (S_ua : Sta Z Z.heap "java/lang/StringUTF16" "$assertionsDisabled" "Z" (.int (1 : Int32))) (S_uh : Sta Z Z.heap "java/lang/StringUTF16" "HI_BYTE_SHIFT" "I" (.int (0 : Int32))) (S_ul : Sta Z Z.heap "java/lang/StringUTF16" "LO_BYTE_SHIFT" "I" (.int (8 : Int32))) (Y1 : Ary Z h0 a1 .byte [(.int y0), (.int y1), (.int y2), (.int y3), (.int y4), (.int y5)]) :
    Ctr l Z (⟨"java/lang/StringUTF16", "getChar", "([BI)C"⟩ : MethodName) jdk_52_method_5_code 2 (some .char) [] ({ frames := 0, cells := 0, slots := 0, locals := 0 } : Room) #[(.ref a1), (.int (1 : Int32))] h0 (fun v h L => v = some (.int (own_gc y2 y3)) ∧ Fr Z.heap.size L ∧ h = h0) := by
  refine ctr (plainFor_of_name pn_4) ?_
  intro p e s m below meth c s₁ hx hby hml hown hnm hret hlocks hZ X0 e0
  have N0 := Fr.nil Z.heap.size
  have hsz : ∀ {Ls : Array Slot}, Ls.size = 2 → Ls.size = c.maxLocals := fun q => q.trans hml.symm
  refine goE (ef_rmGc31 m (a1) ((1 : Int32))) ?_
  show Goes p e below _ (s₁.setTop (mkF m 0 #[.val (.ref a1), .val (.int (1 : Int32))] []))
  obtain ⟨Tt1, Xt1, et1, stt1⟩ := getS2 X0 hx hZ hown (host := "") (Or.inl (hw _ (List.mem_of_getElem? (i := 130) rfl))) Via.refl e0 (S_ua.ext O0) (g := (mkF m 0 #[.val (.ref a1), .val (.int (1 : Int32))] [])) rfl (hb hby d_jdk_52_method_5_0)
  refine go stt1 ?_
  show Goes p e below _ (Tt1.setTop (mkF m 3 #[.val (.ref a1), .val (.int (1 : Int32))] [(.int (1 : Int32))]))
  refine gIfY Xt1 hx (hb hby d_jdk_52_method_5_3) (pc' := 28) (XT.i0_ne_t (by decide)) (by decide) (by decide) ?_
  show Goes p e below _ (Tt1.setTop (mkF m 28 #[.val (.ref a1), .val (.int (1 : Int32))] []))
  refine gIloadN Xt1 hx (hb hby d_jdk_52_method_5_28) rfl ?_
  refine gIconst Xt1 hx (hb hby d_jdk_52_method_5_29) (v := (1 : Int32)) rfl ?_
  refine gIshl Xt1 hx (hb hby d_jdk_52_method_5_30) ?_
  show Goes p e below _ (Tt1.setTop (mkF m 31 #[.val (.ref a1), .val (.int (1 : Int32))] [(.int ((1 : Int32) <<< ((1 : Int32) &&& 31)))]))
  rw [show ((1 : Int32) <<< ((1 : Int32) &&& 31)) = (2 : Int32) from by decide]
  show Goes p e below _ (Tt1.setTop (mkF m 31 #[.val (.ref a1), .val (.int (1 : Int32))] [(.int (2 : Int32))]))
  refine gIstoreN Xt1 hx (hb hby d_jdk_52_method_5_31) (l' := #[.val (.ref a1), .val (.int (2 : Int32))]) rfl ?_
  refine gAloadN Xt1 hx (hb hby d_jdk_52_method_5_32) rfl rfl ?_
  refine gIloadN Xt1 hx (hb hby d_jdk_52_method_5_33) rfl ?_
  refine gIinc Xt1 hx (hb hby d_jdk_52_method_5_34) (v := (3 : Int32)) rfl rfl (l' := #[.val (.ref a1), .val (.int (3 : Int32))]) rfl ?_
  refine goBaload Xt1 hx hZ et1 Y1 (x := y2) (hb hby d_jdk_52_method_5_37) (by decide) rfl ?_
  refine gSipush Xt1 hx (hb hby d_jdk_52_method_5_38) (v := (255 : Int32)) rfl ?_
  refine gIand Xt1 hx (hb hby d_jdk_52_method_5_41) ?_
  show Goes p e below _ (Tt1.setTop (mkF m 42 #[.val (.ref a1), .val (.int (3 : Int32))] [(.int (y2 &&& (255 : Int32)))]))
  obtain ⟨Tt2, Xt2, et2, stt2⟩ := getS2 Xt1 hx hZ hown (host := "") (Or.inl (hw _ (List.mem_of_getElem? (i := 131) rfl))) Via.refl et1 (S_uh.ext O0) (g := (mkF m 42 #[.val (.ref a1), .val (.int (3 : Int32))] [(.int (y2 &&& (255 : Int32)))])) rfl (hb hby d_jdk_52_method_5_42)
  refine go stt2 ?_
  show Goes p e below _ (Tt2.setTop (mkF m 45 #[.val (.ref a1), .val (.int (3 : Int32))] [(.int (0 : Int32)), (.int (y2 &&& (255 : Int32)))]))
  refine gIshl Xt2 hx (hb hby d_jdk_52_method_5_45) ?_
  refine gAloadN Xt2 hx (hb hby d_jdk_52_method_5_46) rfl rfl ?_
  refine gIloadN Xt2 hx (hb hby d_jdk_52_method_5_47) rfl ?_
  refine goBaload Xt2 hx hZ et2 Y1 (x := y3) (hb hby d_jdk_52_method_5_48) (by decide) rfl ?_
  refine gSipush Xt2 hx (hb hby d_jdk_52_method_5_49) (v := (255 : Int32)) rfl ?_
  refine gIand Xt2 hx (hb hby d_jdk_52_method_5_52) ?_
  obtain ⟨Tt3, Xt3, et3, stt3⟩ := getS2 Xt2 hx hZ hown (host := "") (Or.inl (hw _ (List.mem_of_getElem? (i := 132) rfl))) Via.refl et2 (S_ul.ext O0) (g := (mkF m 53 #[.val (.ref a1), .val (.int (3 : Int32))] [(.int (y3 &&& (255 : Int32))), (.int ((y2 &&& (255 : Int32)) <<< ((0 : Int32) &&& 31)))])) rfl (hb hby d_jdk_52_method_5_53)
  refine go stt3 ?_
  show Goes p e below _ (Tt3.setTop (mkF m 56 #[.val (.ref a1), .val (.int (3 : Int32))] [(.int (8 : Int32)), (.int (y3 &&& (255 : Int32))), (.int ((y2 &&& (255 : Int32)) <<< ((0 : Int32) &&& 31)))]))
  refine gIshl Xt3 hx (hb hby d_jdk_52_method_5_56) ?_
  refine gIor Xt3 hx (hb hby d_jdk_52_method_5_57) ?_
  refine gI2c Xt3 hx (hb hby d_jdk_52_method_5_58) ?_
  exact goRetN Xt3 hx (t := .char) hret hlocks (by simp) (hb hby d_jdk_52_method_5_59) (z' := ((((y2 &&& (255 : Int32)) <<< ((0 : Int32) &&& 31)) ||| ((y3 &&& (255 : Int32)) <<< ((8 : Int32) &&& 31))).toUInt32.toUInt16.toUInt32.toInt32)) (narc _) (by decide) (by decide) et3 (⟨rfl, N0, rfl⟩)
theorem ef_rmPc32 (m : MethodId) (x0 : Addr) (x1 : Int32) (x2 : Int32) : entryFrame m #[(.ref x0), (.int x1), (.int x2)] 3 = mkF m 0 #[.val (.ref x0), .val (.int x1), .val (.int x2)] [] := by first | (simp [entryFrame, mkF, argsToLocals, Value.category]; done) | rfl
set_option maxRecDepth 65536 in
set_option maxHeartbeats 40000000 in
theorem rmPc32 (l : Launch) (Z : State) (a0 : Array Value) (hw : ∀ d ∈ tables_1, d.before a0 Z = true) (y0 y1 y2 y3 y4 y5 : Int32) (a1 : Addr) (c0 : Int32) (h0 : Heap) (O0 : Ext Z.heap h0) (S_ua : Sta Z Z.heap "java/lang/StringUTF16" "$assertionsDisabled" "Z" (.int (1 : Int32))) (S_uh : Sta Z Z.heap "java/lang/StringUTF16" "HI_BYTE_SHIFT" "I" (.int (0 : Int32))) (S_ul : Sta Z Z.heap "java/lang/StringUTF16" "LO_BYTE_SHIFT" "I" (.int (8 : Int32))) (Y1 : Ary Z h0 a1 .byte [(.int y0), (.int y1), (.int y2), (.int y3), (.int y4), (.int y5)]) (fr1 : Z.heap.size ≤ a1) :
    Ctr l Z (⟨"java/lang/StringUTF16", "putChar", "([BII)V"⟩ : MethodName) jdk_52_method_4_code 3 none [] ({ frames := 0, cells := 0, slots := 0, locals := 0 } : Room) #[(.ref a1), (.int (2 : Int32)), (.int c0)] h0 (fun v h L => v = none ∧ Fr Z.heap.size L ∧ Keep h0 h [a1] ∧ Ary Z h a1 .byte [(.int y0), (.int y1), (.int y2), (.int y3), (.int ((c0 >>> ((0 : Int32) &&& 31)).toInt8.toInt32)), (.int ((c0 >>> ((8 : Int32) &&& 31)).toInt8.toInt32))]) := by
  refine ctr (plainFor_of_name pn_4) ?_
  intro p e s m below meth c s₁ hx hby hml hown hnm hret hlocks hZ X0 e0
  have N0 := Fr.nil Z.heap.size
  have hsz : ∀ {Ls : Array Slot}, Ls.size = 3 → Ls.size = c.maxLocals := fun q => q.trans hml.symm
  have K0 := Keep.refl h0 [a1]
  refine goE (ef_rmPc32 m (a1) ((2 : Int32)) (c0)) ?_
  show Goes p e below _ (s₁.setTop (mkF m 0 #[.val (.ref a1), .val (.int (2 : Int32)), .val (.int c0)] []))
  obtain ⟨Tt1, Xt1, et1, stt1⟩ := getS2 X0 hx hZ hown (host := "") (Or.inl (hw _ (List.mem_of_getElem? (i := 130) rfl))) Via.refl e0 (S_ua.ext O0) (g := (mkF m 0 #[.val (.ref a1), .val (.int (2 : Int32)), .val (.int c0)] [])) rfl (hb hby d_jdk_52_method_4_0)
  refine go stt1 ?_
  show Goes p e below _ (Tt1.setTop (mkF m 3 #[.val (.ref a1), .val (.int (2 : Int32)), .val (.int c0)] [(.int (1 : Int32))]))
  refine gIfY Xt1 hx (hb hby d_jdk_52_method_4_3) (pc' := 28) (XT.i0_ne_t (by decide)) (by decide) (by decide) ?_
  show Goes p e below _ (Tt1.setTop (mkF m 28 #[.val (.ref a1), .val (.int (2 : Int32)), .val (.int c0)] []))
  refine gIloadN Xt1 hx (hb hby d_jdk_52_method_4_28) rfl ?_
  refine gIconst Xt1 hx (hb hby d_jdk_52_method_4_29) (v := (1 : Int32)) rfl ?_
  refine gIshl Xt1 hx (hb hby d_jdk_52_method_4_30) ?_
  show Goes p e below _ (Tt1.setTop (mkF m 31 #[.val (.ref a1), .val (.int (2 : Int32)), .val (.int c0)] [(.int ((2 : Int32) <<< ((1 : Int32) &&& 31)))]))
  rw [show ((2 : Int32) <<< ((1 : Int32) &&& 31)) = (4 : Int32) from by decide]
  show Goes p e below _ (Tt1.setTop (mkF m 31 #[.val (.ref a1), .val (.int (2 : Int32)), .val (.int c0)] [(.int (4 : Int32))]))
  refine gIstoreN Xt1 hx (hb hby d_jdk_52_method_4_31) (l' := #[.val (.ref a1), .val (.int (4 : Int32)), .val (.int c0)]) rfl ?_
  refine gAloadN Xt1 hx (hb hby d_jdk_52_method_4_32) rfl rfl ?_
  refine gIloadN Xt1 hx (hb hby d_jdk_52_method_4_33) rfl ?_
  refine gIinc Xt1 hx (hb hby d_jdk_52_method_4_34) (v := (5 : Int32)) rfl rfl (l' := #[.val (.ref a1), .val (.int (5 : Int32)), .val (.int c0)]) rfl ?_
  refine gIloadN Xt1 hx (hb hby d_jdk_52_method_4_37) rfl ?_
  obtain ⟨Tt2, Xt2, et2, stt2⟩ := getS2 Xt1 hx hZ hown (host := "") (Or.inl (hw _ (List.mem_of_getElem? (i := 131) rfl))) Via.refl et1 (S_uh.ext O0) (g := (mkF m 38 #[.val (.ref a1), .val (.int (5 : Int32)), .val (.int c0)] [(.int c0), (.int (4 : Int32)), (.ref a1)])) rfl (hb hby d_jdk_52_method_4_38)
  refine go stt2 ?_
  show Goes p e below _ (Tt2.setTop (mkF m 41 #[.val (.ref a1), .val (.int (5 : Int32)), .val (.int c0)] [(.int (0 : Int32)), (.int c0), (.int (4 : Int32)), (.ref a1)]))
  refine gIshr Xt2 hx (hb hby d_jdk_52_method_4_41) ?_
  refine gI2b Xt2 hx (hb hby d_jdk_52_method_4_42) ?_
  refine goBastore Xt2 hx hZ et2 Y1 (hb hby d_jdk_52_method_4_43) (by decide) rfl (fun Tt3 ht3 Xt3 et3 Wt3 => ?_)
  have N4 := Fr.snoc Xt3 N0 fr1
  replace Y1 : Ary Z ht3 a1 .byte [(.int y0), (.int y1), (.int y2), (.int y3), (.int ((c0 >>> ((0 : Int32) &&& 31)).toInt8.toInt32)), (.int y5)] := Y1.set Wt3 (by rw [narb]; rfl)
  have O5 : Ext Z.heap ht3 := extW O0 Wt3 fr1
  have K6 := K0.wr Wt3 (Or.inl (by simp))
  show Goes p e below _ (Tt3.setTop (mkF m 44 #[.val (.ref a1), .val (.int (5 : Int32)), .val (.int c0)] []))
  refine gAloadN Xt3 hx (hb hby d_jdk_52_method_4_44) rfl rfl ?_
  refine gIloadN Xt3 hx (hb hby d_jdk_52_method_4_45) rfl ?_
  refine gIloadN Xt3 hx (hb hby d_jdk_52_method_4_46) rfl ?_
  obtain ⟨Tt7, Xt7, et7, stt7⟩ := getS2 Xt3 hx hZ hown (host := "") (Or.inl (hw _ (List.mem_of_getElem? (i := 132) rfl))) Via.refl et3 (S_ul.ext O5) (g := (mkF m 47 #[.val (.ref a1), .val (.int (5 : Int32)), .val (.int c0)] [(.int c0), (.int (5 : Int32)), (.ref a1)])) rfl (hb hby d_jdk_52_method_4_47)
  refine go stt7 ?_
  show Goes p e below _ (Tt7.setTop (mkF m 50 #[.val (.ref a1), .val (.int (5 : Int32)), .val (.int c0)] [(.int (8 : Int32)), (.int c0), (.int (5 : Int32)), (.ref a1)]))
  refine gIshr Xt7 hx (hb hby d_jdk_52_method_4_50) ?_
  refine gI2b Xt7 hx (hb hby d_jdk_52_method_4_51) ?_
  refine goBastore Xt7 hx hZ et7 Y1 (hb hby d_jdk_52_method_4_52) (by decide) rfl (fun Tt8 ht8 Xt8 et8 Wt8 => ?_)
  have N9 := Fr.snoc Xt8 N4 fr1
  replace Y1 : Ary Z ht8 a1 .byte [(.int y0), (.int y1), (.int y2), (.int y3), (.int ((c0 >>> ((0 : Int32) &&& 31)).toInt8.toInt32)), (.int ((c0 >>> ((8 : Int32) &&& 31)).toInt8.toInt32))] := Y1.set Wt8 (by rw [narb]; rfl)
  have O10 : Ext Z.heap ht8 := extW O5 Wt8 fr1
  have K11 := K6.wr Wt8 (Or.inl (by simp))
  show Goes p e below _ (Tt8.setTop (mkF m 53 #[.val (.ref a1), .val (.int (5 : Int32)), .val (.int c0)] []))
  exact goRet0 Xt8 hx hret hlocks (hb hby d_jdk_52_method_4_53) (by decide) (by decide) et8 (⟨rfl, N9, K11, Y1⟩)
theorem ef_rmGc32 (m : MethodId) (x0 : Addr) (x1 : Int32) : entryFrame m #[(.ref x0), (.int x1)] 2 = mkF m 0 #[.val (.ref x0), .val (.int x1)] [] := by first | (simp [entryFrame, mkF, argsToLocals, Value.category]; done) | rfl
set_option maxRecDepth 65536 in
set_option maxHeartbeats 40000000 in
theorem rmGc32 (l : Launch) (Z : State) (a0 : Array Value) (hw : ∀ d ∈ tables_1, d.before a0 Z = true) (y0 y1 y2 y3 y4 y5 : Int32) (a1 : Addr) (h0 : Heap) (O0 : Ext Z.heap h0) (S_ua : Sta Z Z.heap "java/lang/StringUTF16" "$assertionsDisabled" "Z" (.int (1 : Int32))) (S_uh : Sta Z Z.heap "java/lang/StringUTF16" "HI_BYTE_SHIFT" "I" (.int (0 : Int32))) (S_ul : Sta Z Z.heap "java/lang/StringUTF16" "LO_BYTE_SHIFT" "I" (.int (8 : Int32))) (Y1 : Ary Z h0 a1 .byte [(.int y0), (.int y1), (.int y2), (.int y3), (.int y4), (.int y5)]) :
    Ctr l Z (⟨"java/lang/StringUTF16", "getChar", "([BI)C"⟩ : MethodName) jdk_52_method_5_code 2 (some .char) [] ({ frames := 0, cells := 0, slots := 0, locals := 0 } : Room) #[(.ref a1), (.int (2 : Int32))] h0 (fun v h L => v = some (.int (own_gc y4 y5)) ∧ Fr Z.heap.size L ∧ h = h0) := by
  refine ctr (plainFor_of_name pn_4) ?_
  intro p e s m below meth c s₁ hx hby hml hown hnm hret hlocks hZ X0 e0
  have N0 := Fr.nil Z.heap.size
  have hsz : ∀ {Ls : Array Slot}, Ls.size = 2 → Ls.size = c.maxLocals := fun q => q.trans hml.symm
  refine goE (ef_rmGc32 m (a1) ((2 : Int32))) ?_
  show Goes p e below _ (s₁.setTop (mkF m 0 #[.val (.ref a1), .val (.int (2 : Int32))] []))
  obtain ⟨Tt1, Xt1, et1, stt1⟩ := getS2 X0 hx hZ hown (host := "") (Or.inl (hw _ (List.mem_of_getElem? (i := 130) rfl))) Via.refl e0 (S_ua.ext O0) (g := (mkF m 0 #[.val (.ref a1), .val (.int (2 : Int32))] [])) rfl (hb hby d_jdk_52_method_5_0)
  refine go stt1 ?_
  show Goes p e below _ (Tt1.setTop (mkF m 3 #[.val (.ref a1), .val (.int (2 : Int32))] [(.int (1 : Int32))]))
  refine gIfY Xt1 hx (hb hby d_jdk_52_method_5_3) (pc' := 28) (XT.i0_ne_t (by decide)) (by decide) (by decide) ?_
  show Goes p e below _ (Tt1.setTop (mkF m 28 #[.val (.ref a1), .val (.int (2 : Int32))] []))
  refine gIloadN Xt1 hx (hb hby d_jdk_52_method_5_28) rfl ?_
  refine gIconst Xt1 hx (hb hby d_jdk_52_method_5_29) (v := (1 : Int32)) rfl ?_
  refine gIshl Xt1 hx (hb hby d_jdk_52_method_5_30) ?_
  show Goes p e below _ (Tt1.setTop (mkF m 31 #[.val (.ref a1), .val (.int (2 : Int32))] [(.int ((2 : Int32) <<< ((1 : Int32) &&& 31)))]))
  rw [show ((2 : Int32) <<< ((1 : Int32) &&& 31)) = (4 : Int32) from by decide]
  show Goes p e below _ (Tt1.setTop (mkF m 31 #[.val (.ref a1), .val (.int (2 : Int32))] [(.int (4 : Int32))]))
  refine gIstoreN Xt1 hx (hb hby d_jdk_52_method_5_31) (l' := #[.val (.ref a1), .val (.int (4 : Int32))]) rfl ?_
  refine gAloadN Xt1 hx (hb hby d_jdk_52_method_5_32) rfl rfl ?_
  refine gIloadN Xt1 hx (hb hby d_jdk_52_method_5_33) rfl ?_
  refine gIinc Xt1 hx (hb hby d_jdk_52_method_5_34) (v := (5 : Int32)) rfl rfl (l' := #[.val (.ref a1), .val (.int (5 : Int32))]) rfl ?_
  refine goBaload Xt1 hx hZ et1 Y1 (x := y4) (hb hby d_jdk_52_method_5_37) (by decide) rfl ?_
  refine gSipush Xt1 hx (hb hby d_jdk_52_method_5_38) (v := (255 : Int32)) rfl ?_
  refine gIand Xt1 hx (hb hby d_jdk_52_method_5_41) ?_
  show Goes p e below _ (Tt1.setTop (mkF m 42 #[.val (.ref a1), .val (.int (5 : Int32))] [(.int (y4 &&& (255 : Int32)))]))
  obtain ⟨Tt2, Xt2, et2, stt2⟩ := getS2 Xt1 hx hZ hown (host := "") (Or.inl (hw _ (List.mem_of_getElem? (i := 131) rfl))) Via.refl et1 (S_uh.ext O0) (g := (mkF m 42 #[.val (.ref a1), .val (.int (5 : Int32))] [(.int (y4 &&& (255 : Int32)))])) rfl (hb hby d_jdk_52_method_5_42)
  refine go stt2 ?_
  show Goes p e below _ (Tt2.setTop (mkF m 45 #[.val (.ref a1), .val (.int (5 : Int32))] [(.int (0 : Int32)), (.int (y4 &&& (255 : Int32)))]))
  refine gIshl Xt2 hx (hb hby d_jdk_52_method_5_45) ?_
  refine gAloadN Xt2 hx (hb hby d_jdk_52_method_5_46) rfl rfl ?_
  refine gIloadN Xt2 hx (hb hby d_jdk_52_method_5_47) rfl ?_
  refine goBaload Xt2 hx hZ et2 Y1 (x := y5) (hb hby d_jdk_52_method_5_48) (by decide) rfl ?_
  refine gSipush Xt2 hx (hb hby d_jdk_52_method_5_49) (v := (255 : Int32)) rfl ?_
  refine gIand Xt2 hx (hb hby d_jdk_52_method_5_52) ?_
  obtain ⟨Tt3, Xt3, et3, stt3⟩ := getS2 Xt2 hx hZ hown (host := "") (Or.inl (hw _ (List.mem_of_getElem? (i := 132) rfl))) Via.refl et2 (S_ul.ext O0) (g := (mkF m 53 #[.val (.ref a1), .val (.int (5 : Int32))] [(.int (y5 &&& (255 : Int32))), (.int ((y4 &&& (255 : Int32)) <<< ((0 : Int32) &&& 31)))])) rfl (hb hby d_jdk_52_method_5_53)
  refine go stt3 ?_
  show Goes p e below _ (Tt3.setTop (mkF m 56 #[.val (.ref a1), .val (.int (5 : Int32))] [(.int (8 : Int32)), (.int (y5 &&& (255 : Int32))), (.int ((y4 &&& (255 : Int32)) <<< ((0 : Int32) &&& 31)))]))
  refine gIshl Xt3 hx (hb hby d_jdk_52_method_5_56) ?_
  refine gIor Xt3 hx (hb hby d_jdk_52_method_5_57) ?_
  refine gI2c Xt3 hx (hb hby d_jdk_52_method_5_58) ?_
  exact goRetN Xt3 hx (t := .char) hret hlocks (by simp) (hb hby d_jdk_52_method_5_59) (z' := ((((y4 &&& (255 : Int32)) <<< ((0 : Int32) &&& 31)) ||| ((y5 &&& (255 : Int32)) <<< ((8 : Int32) &&& 31))).toUInt32.toUInt16.toUInt32.toInt32)) (narc _) (by decide) (by decide) et3 (⟨rfl, N0, rfl⟩)
theorem ef_rmTb3 (m : MethodId) (x0 : Addr) (x1 : Int32) (x2 : Int32) : entryFrame m #[(.ref x0), (.int x1), (.int x2)] 5 = mkF m 0 #[.val (.ref x0), .val (.int x1), .val (.int x2), .unset, .unset] [] := by first | (simp [entryFrame, mkF, argsToLocals, Value.category]; done) | rfl
set_option maxRecDepth 65536 in
set_option maxHeartbeats 40000000 in
theorem rmTb3 (l : Launch) (Z : State) (a0 : Array Value) (hw : ∀ d ∈ tables_1, d.before a0 Z = true) (c0 c1 c2 : Int32) (a1 : Addr) (h0 : Heap) (O0 : Ext Z.heap h0) (S_ua : Sta Z Z.heap "java/lang/StringUTF16" "$assertionsDisabled" "Z" (.int (1 : Int32))) (S_uh : Sta Z Z.heap "java/lang/StringUTF16" "HI_BYTE_SHIFT" "I" (.int (0 : Int32))) (S_ul : Sta Z Z.heap "java/lang/StringUTF16" "LO_BYTE_SHIFT" "I" (.int (8 : Int32))) (Y1 : Ary Z h0 a1 .char [(.int c0), (.int c1), (.int c2)]) :
    Ctr l Z (⟨"java/lang/StringUTF16", "toBytes", "([CII)[B"⟩ : MethodName) jdk_52_method_14_code 5 (some (.array .byte)) [] ({ frames := 2, cells := 1, slots := 6, locals := 24 } : Room) #[(.ref a1), (.int (0 : Int32)), (.int (3 : Int32))] h0 (fun v h L => ∃ u, v = some (.ref u) ∧ Fr Z.heap.size L ∧ Keep h0 h [] ∧ h0.size ≤ u ∧ Ary Z h u .byte [(.int ((c0 >>> ((0 : Int32) &&& 31)).toInt8.toInt32)), (.int ((c0 >>> ((8 : Int32) &&& 31)).toInt8.toInt32)), (.int ((c1 >>> ((0 : Int32) &&& 31)).toInt8.toInt32)), (.int ((c1 >>> ((8 : Int32) &&& 31)).toInt8.toInt32)), (.int ((c2 >>> ((0 : Int32) &&& 31)).toInt8.toInt32)), (.int ((c2 >>> ((8 : Int32) &&& 31)).toInt8.toInt32))]) := by
  refine ctr (plainFor_of_name pn_4) ?_
  intro p e s m below meth c s₁ hx hby hml hown hnm hret hlocks hZ X0 e0
  have N0 := Fr.nil Z.heap.size
  have hsz : ∀ {Ls : Array Slot}, Ls.size = 5 → Ls.size = c.maxLocals := fun q => q.trans hml.symm
  have K0 := Keep.refl h0 []
  refine goE (ef_rmTb3 m (a1) ((0 : Int32)) ((3 : Int32))) ?_
  show Goes p e below _ (s₁.setTop (mkF m 0 #[.val (.ref a1), .val (.int (0 : Int32)), .val (.int (3 : Int32)), .unset, .unset] []))
  refine gIloadN X0 hx (hb hby d_jdk_52_method_14_0) rfl ?_
  have lt_a1_t1 := Y1.lt
  refine goCallS X0 hx hZ hown (hw _ (List.mem_of_getElem? (i := 120) rfl)) (hw _ (List.mem_of_getElem? (i := 121) rfl)) (hw _ (List.mem_of_getElem? (i := 42) rfl)) (hw _ (List.mem_of_getElem? (i := 122) rfl)) (by decide) (rmNf3 l Z a0 hw h0 O0) 0 (by decide) (by decide) e0 (hsz rfl) [(.int (3 : Int32))] [] pd_8 rfl rfl rfl (Nat.le_of_eq rfl) (hb hby d_jdk_52_method_14_1) (by decide) (by decide) (fun Tt1 vt1 Lt1 Xt1 qt1 => ?_)
  obtain ⟨ht1, et1⟩ : ∃ z, Tt1.heap = z := ⟨_, rfl⟩
  rw [et1] at qt1
  obtain ⟨u, rfl, N2, Kct1, pu, Yu⟩ := qt1
  have N3 := Fr.app N0 N2
  replace Y1 := Y1.keep Kct1 nin0
  have O4 : Ext Z.heap ht1 := extK O0 Kct1 all0
  have K5 := K0.trans Kct1 all0
  have ne_a1_u : a1 ≠ u := Nat.ne_of_lt (Nat.lt_of_lt_of_le lt_a1_t1 pu)
  have fr_u : Z.heap.size ≤ u := Nat.le_trans O0.1 pu
  have pa_u : h0.size ≤ u := Nat.le_trans K0.1 pu
  show Goes p e below _ (Tt1.setTop (mkF m 4 #[.val (.ref a1), .val (.int (0 : Int32)), .val (.int (3 : Int32)), .unset, .unset] [(.ref u)]))
  refine gAstoreN Xt1 hx (hb hby d_jdk_52_method_14_4) rfl (l' := #[.val (.ref a1), .val (.int (0 : Int32)), .val (.int (3 : Int32)), .val (.ref u), .unset]) rfl ?_
  refine gIconst Xt1 hx (hb hby d_jdk_52_method_14_5) (v := (0 : Int32)) rfl ?_
  refine gIstore Xt1 hx (hb hby d_jdk_52_method_14_6) (l' := #[.val (.ref a1), .val (.int (0 : Int32)), .val (.int (3 : Int32)), .val (.ref u), .val (.int (0 : Int32))]) rfl ?_
  refine gIload Xt1 hx (hb hby d_jdk_52_method_14_8) rfl ?_
  refine gIloadN Xt1 hx (hb hby d_jdk_52_method_14_10) rfl ?_
  refine gIcmpN Xt1 hx (hb hby d_jdk_52_method_14_11) (XT.ii_ge_f (by decide)) ?_
  show Goes p e below _ (Tt1.setTop (mkF m 14 #[.val (.ref a1), .val (.int (0 : Int32)), .val (.int (3 : Int32)), .val (.ref u), .val (.int (0 : Int32))] []))
  refine gAloadN Xt1 hx (hb hby d_jdk_52_method_14_14) rfl rfl ?_
  refine gIload Xt1 hx (hb hby d_jdk_52_method_14_15) rfl ?_
  refine gAloadN Xt1 hx (hb hby d_jdk_52_method_14_17) rfl rfl ?_
  refine gIloadN Xt1 hx (hb hby d_jdk_52_method_14_18) rfl ?_
  refine goCaload Xt1 hx hZ et1 Y1 (x := c0) (hb hby d_jdk_52_method_14_19) (by decide) rfl ?_
  refine goCallS Xt1 hx hZ hown (hw _ (List.mem_of_getElem? (i := 127) rfl)) (hw _ (List.mem_of_getElem? (i := 128) rfl)) (hw _ (List.mem_of_getElem? (i := 42) rfl)) (hw _ (List.mem_of_getElem? (i := 129) rfl)) (by decide) (rmPc30 l Z a0 hw (0 : Int32) (0 : Int32) (0 : Int32) (0 : Int32) (0 : Int32) (0 : Int32) u c0 ht1 O4 S_ua S_uh S_ul Yu fr_u) 0 (by decide) (by decide) et1 (hsz rfl) [(.ref u), (.int (0 : Int32)), (.int c0)] [] pd_9 rfl rfl rfl (Nat.le_of_eq rfl) (hb hby d_jdk_52_method_14_20) (by decide) (by decide) (fun Tt6 vt6 Lt6 Xt6 qt6 => ?_)
  obtain ⟨ht6, et6⟩ : ∃ z, Tt6.heap = z := ⟨_, rfl⟩
  rw [et6] at qt6
  obtain ⟨rfl, N7, Kct6, Yu⟩ := qt6
  have N8 := Fr.app N3 N7
  replace Y1 := Y1.keep Kct6 (ninS ne_a1_u nin0)
  have O9 : Ext Z.heap ht6 := extK O4 Kct6 (allS fr_u all0)
  have K10 := K5.trans Kct6 (allS (Or.inr pa_u) all0)
  show Goes p e below _ (Tt6.setTop (mkF m 23 #[.val (.ref a1), .val (.int (0 : Int32)), .val (.int (3 : Int32)), .val (.ref u), .val (.int (0 : Int32))] []))
  refine gIinc Xt6 hx (hb hby d_jdk_52_method_14_23) (v := (1 : Int32)) rfl rfl (l' := #[.val (.ref a1), .val (.int (1 : Int32)), .val (.int (3 : Int32)), .val (.ref u), .val (.int (0 : Int32))]) rfl ?_
  refine gIinc Xt6 hx (hb hby d_jdk_52_method_14_26) (v := (1 : Int32)) rfl rfl (l' := #[.val (.ref a1), .val (.int (1 : Int32)), .val (.int (3 : Int32)), .val (.ref u), .val (.int (1 : Int32))]) rfl ?_
  refine gGoto Xt6 hx (hb hby d_jdk_52_method_14_29) (pc' := 8) (by decide) (by decide) ?_
  show Goes p e below _ (Tt6.setTop (mkF m 8 #[.val (.ref a1), .val (.int (1 : Int32)), .val (.int (3 : Int32)), .val (.ref u), .val (.int (1 : Int32))] []))
  refine gIload Xt6 hx (hb hby d_jdk_52_method_14_8) rfl ?_
  refine gIloadN Xt6 hx (hb hby d_jdk_52_method_14_10) rfl ?_
  refine gIcmpN Xt6 hx (hb hby d_jdk_52_method_14_11) (XT.ii_ge_f (by decide)) ?_
  show Goes p e below _ (Tt6.setTop (mkF m 14 #[.val (.ref a1), .val (.int (1 : Int32)), .val (.int (3 : Int32)), .val (.ref u), .val (.int (1 : Int32))] []))
  refine gAloadN Xt6 hx (hb hby d_jdk_52_method_14_14) rfl rfl ?_
  refine gIload Xt6 hx (hb hby d_jdk_52_method_14_15) rfl ?_
  refine gAloadN Xt6 hx (hb hby d_jdk_52_method_14_17) rfl rfl ?_
  refine gIloadN Xt6 hx (hb hby d_jdk_52_method_14_18) rfl ?_
  refine goCaload Xt6 hx hZ et6 Y1 (x := c1) (hb hby d_jdk_52_method_14_19) (by decide) rfl ?_
  refine goCallS Xt6 hx hZ hown (hw _ (List.mem_of_getElem? (i := 127) rfl)) (hw _ (List.mem_of_getElem? (i := 128) rfl)) (hw _ (List.mem_of_getElem? (i := 42) rfl)) (hw _ (List.mem_of_getElem? (i := 129) rfl)) (by decide) (rmPc31 l Z a0 hw ((c0 >>> ((0 : Int32) &&& 31)).toInt8.toInt32) ((c0 >>> ((8 : Int32) &&& 31)).toInt8.toInt32) (0 : Int32) (0 : Int32) (0 : Int32) (0 : Int32) u c1 ht6 O9 S_ua S_uh S_ul Yu fr_u) 0 (by decide) (by decide) et6 (hsz rfl) [(.ref u), (.int (1 : Int32)), (.int c1)] [] pd_9 rfl rfl rfl (Nat.le_of_eq rfl) (hb hby d_jdk_52_method_14_20) (by decide) (by decide) (fun Tt11 vt11 Lt11 Xt11 qt11 => ?_)
  obtain ⟨ht11, et11⟩ : ∃ z, Tt11.heap = z := ⟨_, rfl⟩
  rw [et11] at qt11
  obtain ⟨rfl, N12, Kct11, Yu⟩ := qt11
  have N13 := Fr.app N8 N12
  replace Y1 := Y1.keep Kct11 (ninS ne_a1_u nin0)
  have O14 : Ext Z.heap ht11 := extK O9 Kct11 (allS fr_u all0)
  have K15 := K10.trans Kct11 (allS (Or.inr pa_u) all0)
  show Goes p e below _ (Tt11.setTop (mkF m 23 #[.val (.ref a1), .val (.int (1 : Int32)), .val (.int (3 : Int32)), .val (.ref u), .val (.int (1 : Int32))] []))
  refine gIinc Xt11 hx (hb hby d_jdk_52_method_14_23) (v := (2 : Int32)) rfl rfl (l' := #[.val (.ref a1), .val (.int (2 : Int32)), .val (.int (3 : Int32)), .val (.ref u), .val (.int (1 : Int32))]) rfl ?_
  refine gIinc Xt11 hx (hb hby d_jdk_52_method_14_26) (v := (2 : Int32)) rfl rfl (l' := #[.val (.ref a1), .val (.int (2 : Int32)), .val (.int (3 : Int32)), .val (.ref u), .val (.int (2 : Int32))]) rfl ?_
  refine gGoto Xt11 hx (hb hby d_jdk_52_method_14_29) (pc' := 8) (by decide) (by decide) ?_
  show Goes p e below _ (Tt11.setTop (mkF m 8 #[.val (.ref a1), .val (.int (2 : Int32)), .val (.int (3 : Int32)), .val (.ref u), .val (.int (2 : Int32))] []))
  refine gIload Xt11 hx (hb hby d_jdk_52_method_14_8) rfl ?_
  refine gIloadN Xt11 hx (hb hby d_jdk_52_method_14_10) rfl ?_
  refine gIcmpN Xt11 hx (hb hby d_jdk_52_method_14_11) (XT.ii_ge_f (by decide)) ?_
  show Goes p e below _ (Tt11.setTop (mkF m 14 #[.val (.ref a1), .val (.int (2 : Int32)), .val (.int (3 : Int32)), .val (.ref u), .val (.int (2 : Int32))] []))
  refine gAloadN Xt11 hx (hb hby d_jdk_52_method_14_14) rfl rfl ?_
  refine gIload Xt11 hx (hb hby d_jdk_52_method_14_15) rfl ?_
  refine gAloadN Xt11 hx (hb hby d_jdk_52_method_14_17) rfl rfl ?_
  refine gIloadN Xt11 hx (hb hby d_jdk_52_method_14_18) rfl ?_
  refine goCaload Xt11 hx hZ et11 Y1 (x := c2) (hb hby d_jdk_52_method_14_19) (by decide) rfl ?_
  refine goCallS Xt11 hx hZ hown (hw _ (List.mem_of_getElem? (i := 127) rfl)) (hw _ (List.mem_of_getElem? (i := 128) rfl)) (hw _ (List.mem_of_getElem? (i := 42) rfl)) (hw _ (List.mem_of_getElem? (i := 129) rfl)) (by decide) (rmPc32 l Z a0 hw ((c0 >>> ((0 : Int32) &&& 31)).toInt8.toInt32) ((c0 >>> ((8 : Int32) &&& 31)).toInt8.toInt32) ((c1 >>> ((0 : Int32) &&& 31)).toInt8.toInt32) ((c1 >>> ((8 : Int32) &&& 31)).toInt8.toInt32) (0 : Int32) (0 : Int32) u c2 ht11 O14 S_ua S_uh S_ul Yu fr_u) 0 (by decide) (by decide) et11 (hsz rfl) [(.ref u), (.int (2 : Int32)), (.int c2)] [] pd_9 rfl rfl rfl (Nat.le_of_eq rfl) (hb hby d_jdk_52_method_14_20) (by decide) (by decide) (fun Tt16 vt16 Lt16 Xt16 qt16 => ?_)
  obtain ⟨ht16, et16⟩ : ∃ z, Tt16.heap = z := ⟨_, rfl⟩
  rw [et16] at qt16
  obtain ⟨rfl, N17, Kct16, Yu⟩ := qt16
  have N18 := Fr.app N13 N17
  replace Y1 := Y1.keep Kct16 (ninS ne_a1_u nin0)
  have O19 : Ext Z.heap ht16 := extK O14 Kct16 (allS fr_u all0)
  have K20 := K15.trans Kct16 (allS (Or.inr pa_u) all0)
  show Goes p e below _ (Tt16.setTop (mkF m 23 #[.val (.ref a1), .val (.int (2 : Int32)), .val (.int (3 : Int32)), .val (.ref u), .val (.int (2 : Int32))] []))
  refine gIinc Xt16 hx (hb hby d_jdk_52_method_14_23) (v := (3 : Int32)) rfl rfl (l' := #[.val (.ref a1), .val (.int (3 : Int32)), .val (.int (3 : Int32)), .val (.ref u), .val (.int (2 : Int32))]) rfl ?_
  refine gIinc Xt16 hx (hb hby d_jdk_52_method_14_26) (v := (3 : Int32)) rfl rfl (l' := #[.val (.ref a1), .val (.int (3 : Int32)), .val (.int (3 : Int32)), .val (.ref u), .val (.int (3 : Int32))]) rfl ?_
  refine gGoto Xt16 hx (hb hby d_jdk_52_method_14_29) (pc' := 8) (by decide) (by decide) ?_
  show Goes p e below _ (Tt16.setTop (mkF m 8 #[.val (.ref a1), .val (.int (3 : Int32)), .val (.int (3 : Int32)), .val (.ref u), .val (.int (3 : Int32))] []))
  refine gIload Xt16 hx (hb hby d_jdk_52_method_14_8) rfl ?_
  refine gIloadN Xt16 hx (hb hby d_jdk_52_method_14_10) rfl ?_
  refine gIcmpY Xt16 hx (hb hby d_jdk_52_method_14_11) (pc' := 32) (XT.ii_ge_t (by decide)) (by decide) (by decide) ?_
  show Goes p e below _ (Tt16.setTop (mkF m 32 #[.val (.ref a1), .val (.int (3 : Int32)), .val (.int (3 : Int32)), .val (.ref u), .val (.int (3 : Int32))] []))
  refine gAloadN Xt16 hx (hb hby d_jdk_52_method_14_32) rfl rfl ?_
  exact goRetA Xt16 hx hret hlocks rfl rfl (hb hby d_jdk_52_method_14_33) (by decide) (by decide) et16 (⟨u, rfl, N18, K20, pa_u, Yu⟩)
theorem ef_rmSb3 (m : MethodId) (x0 : Addr) (x1 : Int32) (x2 : Int32) : entryFrame m #[(.ref x0), (.int x1), (.int x2)] 6 = mkF m 0 #[.val (.ref x0), .val (.int x1), .val (.int x2), .unset, .unset, .unset] [] := by first | (simp [entryFrame, mkF, argsToLocals, Value.category]; done) | rfl
set_option maxRecDepth 65536 in
set_option maxHeartbeats 40000000 in
theorem rmSb3 (l : Launch) (Z : State) (a0 : Array Value) (hw : ∀ d ∈ tables_1, d.before a0 Z = true) (c0 c1 c2 : Int32) (a1 : Addr) (h0 : Heap) (O0 : Ext Z.heap h0) (S_ua : Sta Z Z.heap "java/lang/StringUTF16" "$assertionsDisabled" "Z" (.int (1 : Int32))) (S_uh : Sta Z Z.heap "java/lang/StringUTF16" "HI_BYTE_SHIFT" "I" (.int (0 : Int32))) (S_ul : Sta Z Z.heap "java/lang/StringUTF16" "LO_BYTE_SHIFT" "I" (.int (8 : Int32))) (Y1 : Ary Z h0 a1 .char [(.int c0), (.int c1), (.int c2)]) (q0_0 : ¬ c0 < 0) (q1_0 : ¬ (65535 : Int32) < c0) (q0_1 : ¬ c1 < 0) (q1_1 : ¬ (65535 : Int32) < c1) (q0_2 : ¬ c2 < 0) (q1_2 : ¬ (65535 : Int32) < c2) :
    Ctr l Z (⟨"java/lang/StringUTF16", "compress", "([CII)[B"⟩ : MethodName) jdk_52_method_16_code 6 (some (.array .byte)) [] ({ frames := 3, cells := 2, slots := 9, locals := 40 } : Room) #[(.ref a1), (.int (0 : Int32)), (.int (3 : Int32))] h0 (fun v h L => ∃ u, v = some (.ref u) ∧ Fr Z.heap.size L ∧ Keep h0 h [] ∧ h0.size ≤ u ∧ (((¬ (255 : Int32) < c0 ∧ ¬ (255 : Int32) < c1 ∧ ¬ (255 : Int32) < c2) ∧ Ary Z h u .byte [(.int (c0.toInt8.toInt32)), (.int (c1.toInt8.toInt32)), (.int (c2.toInt8.toInt32))]) ∨ Ary Z h u .byte [(.int ((c0 >>> ((0 : Int32) &&& 31)).toInt8.toInt32)), (.int ((c0 >>> ((8 : Int32) &&& 31)).toInt8.toInt32)), (.int ((c1 >>> ((0 : Int32) &&& 31)).toInt8.toInt32)), (.int ((c1 >>> ((8 : Int32) &&& 31)).toInt8.toInt32)), (.int ((c2 >>> ((0 : Int32) &&& 31)).toInt8.toInt32)), (.int ((c2 >>> ((8 : Int32) &&& 31)).toInt8.toInt32))])) := by
  refine ctr (plainFor_of_name pn_4) ?_
  intro p e s m below meth c s₁ hx hby hml hown hnm hret hlocks hZ X0 e0
  have N0 := Fr.nil Z.heap.size
  have hsz : ∀ {Ls : Array Slot}, Ls.size = 6 → Ls.size = c.maxLocals := fun q => q.trans hml.symm
  have K0 := Keep.refl h0 []
  refine goE (ef_rmSb3 m (a1) ((0 : Int32)) ((3 : Int32))) ?_
  show Goes p e below _ (s₁.setTop (mkF m 0 #[.val (.ref a1), .val (.int (0 : Int32)), .val (.int (3 : Int32)), .unset, .unset, .unset] []))
  refine gIloadN X0 hx (hb hby d_jdk_52_method_16_0) rfl ?_
  obtain ⟨Tt1, ht1, kt1, Xt1, et1, Et1, At1, stt1⟩ := newP X0 hx hZ (hw _ (List.mem_of_getElem? (i := 23) rfl)) e0 (g := (mkF m 1 #[.val (.ref a1), .val (.int (0 : Int32)), .val (.int (3 : Int32)), .unset, .unset, .unset] [(.int (3 : Int32))])) rfl (hb hby d_jdk_52_method_16_1) rfl (by decide) (cap := 3) (by decide) (by decide) (by decide) (by decide)
  obtain ⟨ob2, gob2⟩ : ∃ z, z = h0.size := ⟨_, rfl⟩
  rw [← gob2] at At1 stt1
  refine go stt1 ?_
  have ne_a1_ob2 : a1 ≠ ob2 := Nat.ne_of_lt (gob2 ▸ Y1.lt)
  have fr_ob2 : Z.heap.size ≤ ob2 := gob2 ▸ O0.1
  have pa_ob2 : h0.size ≤ ob2 := gob2 ▸ K0.1
  replace Y1 := Y1.ext Et1
  have O3 : Ext Z.heap ht1 := extT O0 Et1
  have K4 := K0.ext Et1
  have Y_ob2 : Ary Z ht1 ob2 .byte [(.int (0 : Int32)), (.int (0 : Int32)), (.int (0 : Int32))] := Ary.new At1 rfl (by decide)
  show Goes p e below _ (Tt1.setTop (mkF m 3 #[.val (.ref a1), .val (.int (0 : Int32)), .val (.int (3 : Int32)), .unset, .unset, .unset] [(.ref ob2)]))
  refine gAstoreN Xt1 hx (hb hby d_jdk_52_method_16_3) rfl (l' := #[.val (.ref a1), .val (.int (0 : Int32)), .val (.int (3 : Int32)), .val (.ref ob2), .unset, .unset]) rfl ?_
  refine gAloadN Xt1 hx (hb hby d_jdk_52_method_16_4) rfl rfl ?_
  refine gIloadN Xt1 hx (hb hby d_jdk_52_method_16_5) rfl ?_
  refine gAloadN Xt1 hx (hb hby d_jdk_52_method_16_6) rfl rfl ?_
  refine gIconst Xt1 hx (hb hby d_jdk_52_method_16_7) (v := (0 : Int32)) rfl ?_
  refine gIloadN Xt1 hx (hb hby d_jdk_52_method_16_8) rfl ?_
  refine goCallS Xt1 hx hZ hown (hw _ (List.mem_of_getElem? (i := 44) rfl)) (hw _ (List.mem_of_getElem? (i := 45) rfl)) (hw _ (List.mem_of_getElem? (i := 42) rfl)) (hw _ (List.mem_of_getElem? (i := 46) rfl)) (by decide) (rmSa3 l Z a0 hw c0 c1 c2 a1 ob2 ht1 O3 Y1 Y_ob2 ne_a1_ob2 fr_ob2) 0 (by decide) (by decide) et1 (hsz rfl) [(.ref a1), (.int (0 : Int32)), (.ref ob2), (.int (0 : Int32)), (.int (3 : Int32))] [] pd_10 rfl rfl rfl (Nat.le_of_eq rfl) (hb hby d_jdk_52_method_16_9) (by decide) (by decide) (fun Tt5 vt5 Lt5 Xt5 qt5 => ?_)
  obtain ⟨ht5, et5⟩ : ∃ z, Tt5.heap = z := ⟨_, rfl⟩
  rw [et5] at qt5
  obtain ⟨r_, rfl, N6, Kct5, alt⟩ := qt5
  have N7 := Fr.app N0 N6
  replace Y1 := Y1.keep Kct5 (ninS ne_a1_ob2 nin0)
  have O8 : Ext Z.heap ht5 := extK O3 Kct5 (allS fr_ob2 all0)
  have K9 := K4.trans Kct5 (allS (Or.inr pa_ob2) all0)
  show Goes p e below _ (Tt5.setTop (mkF m 12 #[.val (.ref a1), .val (.int (0 : Int32)), .val (.int (3 : Int32)), .val (.ref ob2), .unset, .unset] [(.int r_)]))
  rcases alt with ⟨rfl, ok, Yb⟩ | ⟨rfl, o0⟩ | ⟨rfl, o1⟩ | ⟨rfl, o2⟩
  · show Goes p e below _ (Tt5.setTop (mkF m 12 #[.val (.ref a1), .val (.int (0 : Int32)), .val (.int (3 : Int32)), .val (.ref ob2), .unset, .unset] [(.int (3 : Int32))]))
    refine gIstore Xt5 hx (hb hby d_jdk_52_method_16_12) (l' := #[.val (.ref a1), .val (.int (0 : Int32)), .val (.int (3 : Int32)), .val (.ref ob2), .val (.int (3 : Int32)), .unset]) rfl ?_
    refine gIload Xt5 hx (hb hby d_jdk_52_method_16_14) rfl ?_
    refine gIloadN Xt5 hx (hb hby d_jdk_52_method_16_16) rfl ?_
    refine gIcmpY Xt5 hx (hb hby d_jdk_52_method_16_17) (pc' := 57) (XT.ii_eq_t rfl) (by decide) (by decide) ?_
    show Goes p e below _ (Tt5.setTop (mkF m 57 #[.val (.ref a1), .val (.int (0 : Int32)), .val (.int (3 : Int32)), .val (.ref ob2), .val (.int (3 : Int32)), .unset] []))
    refine gAloadN Xt5 hx (hb hby d_jdk_52_method_16_57) rfl rfl ?_
    exact goRetA Xt5 hx hret hlocks rfl rfl (hb hby d_jdk_52_method_16_58) (by decide) (by decide) et5 (⟨ob2, rfl, N7, K9, pa_ob2, Or.inl ⟨ok, Yb⟩⟩)
  · show Goes p e below _ (Tt5.setTop (mkF m 12 #[.val (.ref a1), .val (.int (0 : Int32)), .val (.int (3 : Int32)), .val (.ref ob2), .unset, .unset] [(.int (0 : Int32))]))
    refine gIstore Xt5 hx (hb hby d_jdk_52_method_16_12) (l' := #[.val (.ref a1), .val (.int (0 : Int32)), .val (.int (3 : Int32)), .val (.ref ob2), .val (.int (0 : Int32)), .unset]) rfl ?_
    refine gIload Xt5 hx (hb hby d_jdk_52_method_16_14) rfl ?_
    refine gIloadN Xt5 hx (hb hby d_jdk_52_method_16_16) rfl ?_
    refine gIcmpN Xt5 hx (hb hby d_jdk_52_method_16_17) (XT.ii_eq_f (by decide)) ?_
    show Goes p e below _ (Tt5.setTop (mkF m 20 #[.val (.ref a1), .val (.int (0 : Int32)), .val (.int (3 : Int32)), .val (.ref ob2), .val (.int (0 : Int32)), .unset] []))
    refine gAloadN Xt5 hx (hb hby d_jdk_52_method_16_20) rfl rfl ?_
    refine gIloadN Xt5 hx (hb hby d_jdk_52_method_16_21) rfl ?_
    refine gIloadN Xt5 hx (hb hby d_jdk_52_method_16_22) rfl ?_
    have lt_a1_t10 := Y1.lt
    refine goCallS Xt5 hx hZ hown (hw _ (List.mem_of_getElem? (i := 117) rfl)) (hw _ (List.mem_of_getElem? (i := 118) rfl)) (hw _ (List.mem_of_getElem? (i := 42) rfl)) (hw _ (List.mem_of_getElem? (i := 119) rfl)) (by decide) (rmTb3 l Z a0 hw c0 c1 c2 a1 ht5 O8 S_ua S_uh S_ul Y1) 0 (by decide) (by decide) et5 (hsz rfl) [(.ref a1), (.int (0 : Int32)), (.int (3 : Int32))] [] pd_11 rfl rfl rfl (Nat.le_of_eq rfl) (hb hby d_jdk_52_method_16_23) (by decide) (by decide) (fun Tt10 vt10 Lt10 Xt10 qt10 => ?_)
    obtain ⟨ht10, et10⟩ : ∃ z, Tt10.heap = z := ⟨_, rfl⟩
    rw [et10] at qt10
    obtain ⟨u, rfl, N11, Kct10, pu, Yu⟩ := qt10
    have N12 := Fr.app N7 N11
    replace Y1 := Y1.keep Kct10 nin0
    have O13 : Ext Z.heap ht10 := extK O8 Kct10 all0
    have K14 := K9.trans Kct10 all0
    have ne_a1_u : a1 ≠ u := Nat.ne_of_lt (Nat.lt_of_lt_of_le lt_a1_t10 pu)
    have fr_u : Z.heap.size ≤ u := Nat.le_trans O8.1 pu
    have pa_u : h0.size ≤ u := Nat.le_trans K9.1 pu
    show Goes p e below _ (Tt10.setTop (mkF m 26 #[.val (.ref a1), .val (.int (0 : Int32)), .val (.int (3 : Int32)), .val (.ref ob2), .val (.int (0 : Int32)), .unset] [(.ref u)]))
    refine gAstore Xt10 hx (hb hby d_jdk_52_method_16_26) rfl (l' := #[.val (.ref a1), .val (.int (0 : Int32)), .val (.int (3 : Int32)), .val (.ref ob2), .val (.int (0 : Int32)), .val (.ref u)]) rfl ?_
    refine gAload Xt10 hx (hb hby d_jdk_52_method_16_28) rfl rfl ?_
    refine gIload Xt10 hx (hb hby d_jdk_52_method_16_30) rfl ?_
    refine goCallS Xt10 hx hZ hown (hw _ (List.mem_of_getElem? (i := 133) rfl)) (hw _ (List.mem_of_getElem? (i := 134) rfl)) (hw _ (List.mem_of_getElem? (i := 42) rfl)) (hw _ (List.mem_of_getElem? (i := 135) rfl)) (by decide) (rmGc30 l Z a0 hw ((c0 >>> ((0 : Int32) &&& 31)).toInt8.toInt32) ((c0 >>> ((8 : Int32) &&& 31)).toInt8.toInt32) ((c1 >>> ((0 : Int32) &&& 31)).toInt8.toInt32) ((c1 >>> ((8 : Int32) &&& 31)).toInt8.toInt32) ((c2 >>> ((0 : Int32) &&& 31)).toInt8.toInt32) ((c2 >>> ((8 : Int32) &&& 31)).toInt8.toInt32) u ht10 O13 S_ua S_uh S_ul Yu) 0 (by decide) (by decide) et10 (hsz rfl) [(.ref u), (.int (0 : Int32))] [] pd_12 rfl rfl rfl (Nat.le_of_eq rfl) (hb hby d_jdk_52_method_16_32) (by decide) (by decide) (fun Tt15 vt15 Lt15 Xt15 qt15 => ?_)
    obtain ⟨rfl, N16, et15⟩ := qt15
    have N17 := Fr.app N12 N16
    show Goes p e below _ (Tt15.setTop (mkF m 35 #[.val (.ref a1), .val (.int (0 : Int32)), .val (.int (3 : Int32)), .val (.ref ob2), .val (.int (0 : Int32)), .val (.ref u)] [(.int (own_gc ((c0 >>> ((0 : Int32) &&& 31)).toInt8.toInt32) ((c0 >>> ((8 : Int32) &&& 31)).toInt8.toInt32)))]))
    rw [own_gcc q0_0 q1_0]
    show Goes p e below _ (Tt15.setTop (mkF m 35 #[.val (.ref a1), .val (.int (0 : Int32)), .val (.int (3 : Int32)), .val (.ref ob2), .val (.int (0 : Int32)), .val (.ref u)] [(.int c0)]))
    refine gSipush Xt15 hx (hb hby d_jdk_52_method_16_35) (v := (255 : Int32)) rfl ?_
    refine gIcmpY Xt15 hx (hb hby d_jdk_52_method_16_38) (pc' := 54) (XT.ii_gt_t o0) (by decide) (by decide) ?_
    show Goes p e below _ (Tt15.setTop (mkF m 54 #[.val (.ref a1), .val (.int (0 : Int32)), .val (.int (3 : Int32)), .val (.ref ob2), .val (.int (0 : Int32)), .val (.ref u)] []))
    refine gAload Xt15 hx (hb hby d_jdk_52_method_16_54) rfl rfl ?_
    exact goRetA Xt15 hx hret hlocks rfl rfl (hb hby d_jdk_52_method_16_56) (by decide) (by decide) et15 (⟨u, rfl, N17, K14, pa_u, Or.inr Yu⟩)
  · show Goes p e below _ (Tt5.setTop (mkF m 12 #[.val (.ref a1), .val (.int (0 : Int32)), .val (.int (3 : Int32)), .val (.ref ob2), .unset, .unset] [(.int (1 : Int32))]))
    refine gIstore Xt5 hx (hb hby d_jdk_52_method_16_12) (l' := #[.val (.ref a1), .val (.int (0 : Int32)), .val (.int (3 : Int32)), .val (.ref ob2), .val (.int (1 : Int32)), .unset]) rfl ?_
    refine gIload Xt5 hx (hb hby d_jdk_52_method_16_14) rfl ?_
    refine gIloadN Xt5 hx (hb hby d_jdk_52_method_16_16) rfl ?_
    refine gIcmpN Xt5 hx (hb hby d_jdk_52_method_16_17) (XT.ii_eq_f (by decide)) ?_
    show Goes p e below _ (Tt5.setTop (mkF m 20 #[.val (.ref a1), .val (.int (0 : Int32)), .val (.int (3 : Int32)), .val (.ref ob2), .val (.int (1 : Int32)), .unset] []))
    refine gAloadN Xt5 hx (hb hby d_jdk_52_method_16_20) rfl rfl ?_
    refine gIloadN Xt5 hx (hb hby d_jdk_52_method_16_21) rfl ?_
    refine gIloadN Xt5 hx (hb hby d_jdk_52_method_16_22) rfl ?_
    have lt_a1_t18 := Y1.lt
    refine goCallS Xt5 hx hZ hown (hw _ (List.mem_of_getElem? (i := 117) rfl)) (hw _ (List.mem_of_getElem? (i := 118) rfl)) (hw _ (List.mem_of_getElem? (i := 42) rfl)) (hw _ (List.mem_of_getElem? (i := 119) rfl)) (by decide) (rmTb3 l Z a0 hw c0 c1 c2 a1 ht5 O8 S_ua S_uh S_ul Y1) 0 (by decide) (by decide) et5 (hsz rfl) [(.ref a1), (.int (0 : Int32)), (.int (3 : Int32))] [] pd_11 rfl rfl rfl (Nat.le_of_eq rfl) (hb hby d_jdk_52_method_16_23) (by decide) (by decide) (fun Tt18 vt18 Lt18 Xt18 qt18 => ?_)
    obtain ⟨ht18, et18⟩ : ∃ z, Tt18.heap = z := ⟨_, rfl⟩
    rw [et18] at qt18
    obtain ⟨u, rfl, N19, Kct18, pu, Yu⟩ := qt18
    have N20 := Fr.app N7 N19
    replace Y1 := Y1.keep Kct18 nin0
    have O21 : Ext Z.heap ht18 := extK O8 Kct18 all0
    have K22 := K9.trans Kct18 all0
    have ne_a1_u : a1 ≠ u := Nat.ne_of_lt (Nat.lt_of_lt_of_le lt_a1_t18 pu)
    have fr_u : Z.heap.size ≤ u := Nat.le_trans O8.1 pu
    have pa_u : h0.size ≤ u := Nat.le_trans K9.1 pu
    show Goes p e below _ (Tt18.setTop (mkF m 26 #[.val (.ref a1), .val (.int (0 : Int32)), .val (.int (3 : Int32)), .val (.ref ob2), .val (.int (1 : Int32)), .unset] [(.ref u)]))
    refine gAstore Xt18 hx (hb hby d_jdk_52_method_16_26) rfl (l' := #[.val (.ref a1), .val (.int (0 : Int32)), .val (.int (3 : Int32)), .val (.ref ob2), .val (.int (1 : Int32)), .val (.ref u)]) rfl ?_
    refine gAload Xt18 hx (hb hby d_jdk_52_method_16_28) rfl rfl ?_
    refine gIload Xt18 hx (hb hby d_jdk_52_method_16_30) rfl ?_
    refine goCallS Xt18 hx hZ hown (hw _ (List.mem_of_getElem? (i := 133) rfl)) (hw _ (List.mem_of_getElem? (i := 134) rfl)) (hw _ (List.mem_of_getElem? (i := 42) rfl)) (hw _ (List.mem_of_getElem? (i := 135) rfl)) (by decide) (rmGc31 l Z a0 hw ((c0 >>> ((0 : Int32) &&& 31)).toInt8.toInt32) ((c0 >>> ((8 : Int32) &&& 31)).toInt8.toInt32) ((c1 >>> ((0 : Int32) &&& 31)).toInt8.toInt32) ((c1 >>> ((8 : Int32) &&& 31)).toInt8.toInt32) ((c2 >>> ((0 : Int32) &&& 31)).toInt8.toInt32) ((c2 >>> ((8 : Int32) &&& 31)).toInt8.toInt32) u ht18 O21 S_ua S_uh S_ul Yu) 0 (by decide) (by decide) et18 (hsz rfl) [(.ref u), (.int (1 : Int32))] [] pd_12 rfl rfl rfl (Nat.le_of_eq rfl) (hb hby d_jdk_52_method_16_32) (by decide) (by decide) (fun Tt23 vt23 Lt23 Xt23 qt23 => ?_)
    obtain ⟨rfl, N24, et23⟩ := qt23
    have N25 := Fr.app N20 N24
    show Goes p e below _ (Tt23.setTop (mkF m 35 #[.val (.ref a1), .val (.int (0 : Int32)), .val (.int (3 : Int32)), .val (.ref ob2), .val (.int (1 : Int32)), .val (.ref u)] [(.int (own_gc ((c1 >>> ((0 : Int32) &&& 31)).toInt8.toInt32) ((c1 >>> ((8 : Int32) &&& 31)).toInt8.toInt32)))]))
    rw [own_gcc q0_1 q1_1]
    show Goes p e below _ (Tt23.setTop (mkF m 35 #[.val (.ref a1), .val (.int (0 : Int32)), .val (.int (3 : Int32)), .val (.ref ob2), .val (.int (1 : Int32)), .val (.ref u)] [(.int c1)]))
    refine gSipush Xt23 hx (hb hby d_jdk_52_method_16_35) (v := (255 : Int32)) rfl ?_
    refine gIcmpY Xt23 hx (hb hby d_jdk_52_method_16_38) (pc' := 54) (XT.ii_gt_t o1) (by decide) (by decide) ?_
    show Goes p e below _ (Tt23.setTop (mkF m 54 #[.val (.ref a1), .val (.int (0 : Int32)), .val (.int (3 : Int32)), .val (.ref ob2), .val (.int (1 : Int32)), .val (.ref u)] []))
    refine gAload Xt23 hx (hb hby d_jdk_52_method_16_54) rfl rfl ?_
    exact goRetA Xt23 hx hret hlocks rfl rfl (hb hby d_jdk_52_method_16_56) (by decide) (by decide) et23 (⟨u, rfl, N25, K22, pa_u, Or.inr Yu⟩)
  · show Goes p e below _ (Tt5.setTop (mkF m 12 #[.val (.ref a1), .val (.int (0 : Int32)), .val (.int (3 : Int32)), .val (.ref ob2), .unset, .unset] [(.int (2 : Int32))]))
    refine gIstore Xt5 hx (hb hby d_jdk_52_method_16_12) (l' := #[.val (.ref a1), .val (.int (0 : Int32)), .val (.int (3 : Int32)), .val (.ref ob2), .val (.int (2 : Int32)), .unset]) rfl ?_
    refine gIload Xt5 hx (hb hby d_jdk_52_method_16_14) rfl ?_
    refine gIloadN Xt5 hx (hb hby d_jdk_52_method_16_16) rfl ?_
    refine gIcmpN Xt5 hx (hb hby d_jdk_52_method_16_17) (XT.ii_eq_f (by decide)) ?_
    show Goes p e below _ (Tt5.setTop (mkF m 20 #[.val (.ref a1), .val (.int (0 : Int32)), .val (.int (3 : Int32)), .val (.ref ob2), .val (.int (2 : Int32)), .unset] []))
    refine gAloadN Xt5 hx (hb hby d_jdk_52_method_16_20) rfl rfl ?_
    refine gIloadN Xt5 hx (hb hby d_jdk_52_method_16_21) rfl ?_
    refine gIloadN Xt5 hx (hb hby d_jdk_52_method_16_22) rfl ?_
    have lt_a1_t26 := Y1.lt
    refine goCallS Xt5 hx hZ hown (hw _ (List.mem_of_getElem? (i := 117) rfl)) (hw _ (List.mem_of_getElem? (i := 118) rfl)) (hw _ (List.mem_of_getElem? (i := 42) rfl)) (hw _ (List.mem_of_getElem? (i := 119) rfl)) (by decide) (rmTb3 l Z a0 hw c0 c1 c2 a1 ht5 O8 S_ua S_uh S_ul Y1) 0 (by decide) (by decide) et5 (hsz rfl) [(.ref a1), (.int (0 : Int32)), (.int (3 : Int32))] [] pd_11 rfl rfl rfl (Nat.le_of_eq rfl) (hb hby d_jdk_52_method_16_23) (by decide) (by decide) (fun Tt26 vt26 Lt26 Xt26 qt26 => ?_)
    obtain ⟨ht26, et26⟩ : ∃ z, Tt26.heap = z := ⟨_, rfl⟩
    rw [et26] at qt26
    obtain ⟨u, rfl, N27, Kct26, pu, Yu⟩ := qt26
    have N28 := Fr.app N7 N27
    replace Y1 := Y1.keep Kct26 nin0
    have O29 : Ext Z.heap ht26 := extK O8 Kct26 all0
    have K30 := K9.trans Kct26 all0
    have ne_a1_u : a1 ≠ u := Nat.ne_of_lt (Nat.lt_of_lt_of_le lt_a1_t26 pu)
    have fr_u : Z.heap.size ≤ u := Nat.le_trans O8.1 pu
    have pa_u : h0.size ≤ u := Nat.le_trans K9.1 pu
    show Goes p e below _ (Tt26.setTop (mkF m 26 #[.val (.ref a1), .val (.int (0 : Int32)), .val (.int (3 : Int32)), .val (.ref ob2), .val (.int (2 : Int32)), .unset] [(.ref u)]))
    refine gAstore Xt26 hx (hb hby d_jdk_52_method_16_26) rfl (l' := #[.val (.ref a1), .val (.int (0 : Int32)), .val (.int (3 : Int32)), .val (.ref ob2), .val (.int (2 : Int32)), .val (.ref u)]) rfl ?_
    refine gAload Xt26 hx (hb hby d_jdk_52_method_16_28) rfl rfl ?_
    refine gIload Xt26 hx (hb hby d_jdk_52_method_16_30) rfl ?_
    refine goCallS Xt26 hx hZ hown (hw _ (List.mem_of_getElem? (i := 133) rfl)) (hw _ (List.mem_of_getElem? (i := 134) rfl)) (hw _ (List.mem_of_getElem? (i := 42) rfl)) (hw _ (List.mem_of_getElem? (i := 135) rfl)) (by decide) (rmGc32 l Z a0 hw ((c0 >>> ((0 : Int32) &&& 31)).toInt8.toInt32) ((c0 >>> ((8 : Int32) &&& 31)).toInt8.toInt32) ((c1 >>> ((0 : Int32) &&& 31)).toInt8.toInt32) ((c1 >>> ((8 : Int32) &&& 31)).toInt8.toInt32) ((c2 >>> ((0 : Int32) &&& 31)).toInt8.toInt32) ((c2 >>> ((8 : Int32) &&& 31)).toInt8.toInt32) u ht26 O29 S_ua S_uh S_ul Yu) 0 (by decide) (by decide) et26 (hsz rfl) [(.ref u), (.int (2 : Int32))] [] pd_12 rfl rfl rfl (Nat.le_of_eq rfl) (hb hby d_jdk_52_method_16_32) (by decide) (by decide) (fun Tt31 vt31 Lt31 Xt31 qt31 => ?_)
    obtain ⟨rfl, N32, et31⟩ := qt31
    have N33 := Fr.app N28 N32
    show Goes p e below _ (Tt31.setTop (mkF m 35 #[.val (.ref a1), .val (.int (0 : Int32)), .val (.int (3 : Int32)), .val (.ref ob2), .val (.int (2 : Int32)), .val (.ref u)] [(.int (own_gc ((c2 >>> ((0 : Int32) &&& 31)).toInt8.toInt32) ((c2 >>> ((8 : Int32) &&& 31)).toInt8.toInt32)))]))
    rw [own_gcc q0_2 q1_2]
    show Goes p e below _ (Tt31.setTop (mkF m 35 #[.val (.ref a1), .val (.int (0 : Int32)), .val (.int (3 : Int32)), .val (.ref ob2), .val (.int (2 : Int32)), .val (.ref u)] [(.int c2)]))
    refine gSipush Xt31 hx (hb hby d_jdk_52_method_16_35) (v := (255 : Int32)) rfl ?_
    refine gIcmpY Xt31 hx (hb hby d_jdk_52_method_16_38) (pc' := 54) (XT.ii_gt_t o2) (by decide) (by decide) ?_
    show Goes p e below _ (Tt31.setTop (mkF m 54 #[.val (.ref a1), .val (.int (0 : Int32)), .val (.int (3 : Int32)), .val (.ref ob2), .val (.int (2 : Int32)), .val (.ref u)] []))
    refine gAload Xt31 hx (hb hby d_jdk_52_method_16_54) rfl rfl ?_
    exact goRetA Xt31 hx hret hlocks rfl rfl (hb hby d_jdk_52_method_16_56) (by decide) (by decide) et31 (⟨u, rfl, N33, K30, pa_u, Or.inr Yu⟩)
theorem ef_rmSc3 (m : MethodId) (x0 : Addr) (x1 : Int32) : entryFrame m #[(.ref x0), (.int x1)] 2 = mkF m 0 #[.val (.ref x0), .val (.int x1)] [] := by first | (simp [entryFrame, mkF, argsToLocals, Value.category]; done) | rfl
set_option maxRecDepth 65536 in
set_option maxHeartbeats 40000000 in
theorem rmSc3 (l : Launch) (Z : State) (a0 : Array Value) (hw : ∀ d ∈ tables_1, d.before a0 Z = true) (c0 c1 c2 : Int32) (a1 : Addr) (h0 : Heap) (O0 : Ext Z.heap h0) (Y1 : Ary Z h0 a1 .byte [(.int (c0.toInt8.toInt32)), (.int (c1.toInt8.toInt32)), (.int (c2.toInt8.toInt32))]) :
    Ctr l Z (⟨"java/lang/StringUTF16", "coderFromArrayLen", "([BI)B"⟩ : MethodName) jdk_52_method_15_code 2 (some .byte) [] ({ frames := 0, cells := 0, slots := 0, locals := 0 } : Room) #[(.ref a1), (.int (3 : Int32))] h0 (fun v h L => v = some (.int (0 : Int32)) ∧ Fr Z.heap.size L ∧ h = h0) := by
  refine ctr (plainFor_of_name pn_4) ?_
  intro p e s m below meth c s₁ hx hby hml hown hnm hret hlocks hZ X0 e0
  have N0 := Fr.nil Z.heap.size
  have hsz : ∀ {Ls : Array Slot}, Ls.size = 2 → Ls.size = c.maxLocals := fun q => q.trans hml.symm
  refine goE (ef_rmSc3 m (a1) ((3 : Int32))) ?_
  show Goes p e below _ (s₁.setTop (mkF m 0 #[.val (.ref a1), .val (.int (3 : Int32))] []))
  refine gIloadN X0 hx (hb hby d_jdk_52_method_15_0) rfl ?_
  refine gAloadN X0 hx (hb hby d_jdk_52_method_15_1) rfl rfl ?_
  refine goAlen X0 hx hZ e0 Y1 (n := (3 : Int32)) (hb hby d_jdk_52_method_15_2) rfl ?_
  refine gIsub X0 hx (hb hby d_jdk_52_method_15_3) ?_
  refine gBipush X0 hx (hb hby d_jdk_52_method_15_4) (v := (31 : Int32)) rfl ?_
  refine gIushr X0 hx (hb hby d_jdk_52_method_15_6) ?_
  refine gI2b X0 hx (hb hby d_jdk_52_method_15_7) ?_
  show Goes p e below _ (s₁.setTop (mkF m 8 #[.val (.ref a1), .val (.int (3 : Int32))] [(.int ((XT.ushr (0 : Int32) (31 : Int32)).toInt8.toInt32))]))
  exact goRetN X0 hx (t := .byte) hret hlocks (by simp) (hb hby d_jdk_52_method_15_8) (z' := (0 : Int32)) (by decide) (by decide) (by decide) e0 (⟨rfl, N0, rfl⟩)
theorem ef_rmSe3 (m : MethodId) (x0 : Addr) (x1 : Int32) : entryFrame m #[(.ref x0), (.int x1)] 2 = mkF m 0 #[.val (.ref x0), .val (.int x1)] [] := by first | (simp [entryFrame, mkF, argsToLocals, Value.category]; done) | rfl
set_option maxRecDepth 65536 in
set_option maxHeartbeats 40000000 in
theorem rmSe3 (l : Launch) (Z : State) (a0 : Array Value) (hw : ∀ d ∈ tables_1, d.before a0 Z = true) (c0 c1 c2 : Int32) (a1 : Addr) (h0 : Heap) (O0 : Ext Z.heap h0) (Y1 : Ary Z h0 a1 .byte [(.int ((c0 >>> ((0 : Int32) &&& 31)).toInt8.toInt32)), (.int ((c0 >>> ((8 : Int32) &&& 31)).toInt8.toInt32)), (.int ((c1 >>> ((0 : Int32) &&& 31)).toInt8.toInt32)), (.int ((c1 >>> ((8 : Int32) &&& 31)).toInt8.toInt32)), (.int ((c2 >>> ((0 : Int32) &&& 31)).toInt8.toInt32)), (.int ((c2 >>> ((8 : Int32) &&& 31)).toInt8.toInt32))]) :
    Ctr l Z (⟨"java/lang/StringUTF16", "coderFromArrayLen", "([BI)B"⟩ : MethodName) jdk_52_method_15_code 2 (some .byte) [] ({ frames := 0, cells := 0, slots := 0, locals := 0 } : Room) #[(.ref a1), (.int (3 : Int32))] h0 (fun v h L => v = some (.int (1 : Int32)) ∧ Fr Z.heap.size L ∧ h = h0) := by
  refine ctr (plainFor_of_name pn_4) ?_
  intro p e s m below meth c s₁ hx hby hml hown hnm hret hlocks hZ X0 e0
  have N0 := Fr.nil Z.heap.size
  have hsz : ∀ {Ls : Array Slot}, Ls.size = 2 → Ls.size = c.maxLocals := fun q => q.trans hml.symm
  refine goE (ef_rmSe3 m (a1) ((3 : Int32))) ?_
  show Goes p e below _ (s₁.setTop (mkF m 0 #[.val (.ref a1), .val (.int (3 : Int32))] []))
  refine gIloadN X0 hx (hb hby d_jdk_52_method_15_0) rfl ?_
  refine gAloadN X0 hx (hb hby d_jdk_52_method_15_1) rfl rfl ?_
  refine goAlen X0 hx hZ e0 Y1 (n := (6 : Int32)) (hb hby d_jdk_52_method_15_2) rfl ?_
  refine gIsub X0 hx (hb hby d_jdk_52_method_15_3) ?_
  refine gBipush X0 hx (hb hby d_jdk_52_method_15_4) (v := (31 : Int32)) rfl ?_
  refine gIushr X0 hx (hb hby d_jdk_52_method_15_6) ?_
  refine gI2b X0 hx (hb hby d_jdk_52_method_15_7) ?_
  show Goes p e below _ (s₁.setTop (mkF m 8 #[.val (.ref a1), .val (.int (3 : Int32))] [(.int ((XT.ushr (-3 : Int32) (31 : Int32)).toInt8.toInt32))]))
  exact goRetN X0 hx (t := .byte) hret hlocks (by simp) (hb hby d_jdk_52_method_15_8) (z' := (1 : Int32)) (by decide) (by decide) (by decide) e0 (⟨rfl, N0, rfl⟩)
theorem ef_rmSd3 (m : MethodId) (x0 : Addr) (x1 : Addr) (x2 : Int32) (x3 : Int32) : entryFrame m #[(.ref x0), (.ref x1), (.int x2), (.int x3), .null] 6 = mkF m 0 #[.val (.ref x0), .val (.ref x1), .val (.int x2), .val (.int x3), .val .null, .unset] [] := by first | (simp [entryFrame, mkF, argsToLocals, Value.category]; done) | rfl
set_option maxRecDepth 65536 in
set_option maxHeartbeats 40000000 in
theorem rmSd3 (l : Launch) (Z : State) (a0 : Array Value) (hw : ∀ d ∈ tables_1, d.before a0 Z = true) (cs : Int32) (c0 c1 c2 : Int32) (a1 : Addr) (a2 : Addr) (h0 : Heap) (O0 : Ext Z.heap h0) (S_cs : Sta Z Z.heap "java/lang/String" "COMPACT_STRINGS" "Z" (.int cs)) (hcs : ¬ cs = 0) (S_ua : Sta Z Z.heap "java/lang/StringUTF16" "$assertionsDisabled" "Z" (.int (1 : Int32))) (S_uh : Sta Z Z.heap "java/lang/StringUTF16" "HI_BYTE_SHIFT" "I" (.int (0 : Int32))) (S_ul : Sta Z Z.heap "java/lang/StringUTF16" "LO_BYTE_SHIFT" "I" (.int (8 : Int32))) (E1 : Exa Z h0 a1 "java/lang/String") (F1 : Fld Z h0 a1 "java/lang/String" "value" "[B" .null) (F2 : Fld Z h0 a1 "java/lang/String" "coder" "B" (.int (0 : Int32))) (Y2 : Ary Z h0 a2 .char [(.int c0), (.int c1), (.int c2)]) (ne : a1 ≠ a2) (fr1 : Z.heap.size ≤ a1) (q0_0 : ¬ c0 < 0) (q1_0 : ¬ (65535 : Int32) < c0) (q0_1 : ¬ c1 < 0) (q1_1 : ¬ (65535 : Int32) < c1) (q0_2 : ¬ c2 < 0) (q1_2 : ¬ (65535 : Int32) < c2) :
    Ctr l Z (⟨"java/lang/String", "<init>", "([CIILjava/lang/Void;)V"⟩ : MethodName) jdk_42_method_149_code 6 none [] ({ frames := 4, cells := 2, slots := 9, locals := 57 } : Room) #[(.ref a1), (.ref a2), (.int (0 : Int32)), (.int (3 : Int32)), .null] h0 (fun v h L => v = none ∧ Fr Z.heap.size L ∧ Keep h0 h [a1] ∧ ∃ u, h0.size ≤ u ∧ Fld Z h a1 "java/lang/String" "value" "[B" (.ref u) ∧ ((Fld Z h a1 "java/lang/String" "coder" "B" (.int (0 : Int32)) ∧ (¬ (255 : Int32) < c0 ∧ ¬ (255 : Int32) < c1 ∧ ¬ (255 : Int32) < c2) ∧ Ary Z h u .byte [(.int (c0.toInt8.toInt32)), (.int (c1.toInt8.toInt32)), (.int (c2.toInt8.toInt32))]) ∨ (Fld Z h a1 "java/lang/String" "coder" "B" (.int (1 : Int32)) ∧ Ary Z h u .byte [(.int ((c0 >>> ((0 : Int32) &&& 31)).toInt8.toInt32)), (.int ((c0 >>> ((8 : Int32) &&& 31)).toInt8.toInt32)), (.int ((c1 >>> ((0 : Int32) &&& 31)).toInt8.toInt32)), (.int ((c1 >>> ((8 : Int32) &&& 31)).toInt8.toInt32)), (.int ((c2 >>> ((0 : Int32) &&& 31)).toInt8.toInt32)), (.int ((c2 >>> ((8 : Int32) &&& 31)).toInt8.toInt32))]))) := by
  refine ctr (plainFor_of_name pn_1) ?_
  intro p e s m below meth c s₁ hx hby hml hown hnm hret hlocks hZ X0 e0
  have N0 := Fr.nil Z.heap.size
  have hsz : ∀ {Ls : Array Slot}, Ls.size = 6 → Ls.size = c.maxLocals := fun q => q.trans hml.symm
  have K0 := Keep.refl h0 [a1]
  refine goE (ef_rmSd3 m (a1) (a2) ((0 : Int32)) ((3 : Int32))) ?_
  show Goes p e below _ (s₁.setTop (mkF m 0 #[.val (.ref a1), .val (.ref a2), .val (.int (0 : Int32)), .val (.int (3 : Int32)), .val .null, .unset] []))
  refine gAloadN X0 hx (hb hby d_jdk_42_method_149_0) rfl rfl ?_
  obtain ⟨Tt1, Xt1, et1, stt1⟩ := initO X0 hx hZ hown (hw _ (List.mem_of_getElem? (i := 19) rfl)) (hw _ (List.mem_of_getElem? (i := 20) rfl)) (hw _ (List.mem_of_getElem? (i := 21) rfl)) e0 (g := (mkF m 1 #[.val (.ref a1), .val (.ref a2), .val (.int (0 : Int32)), .val (.int (3 : Int32)), .val .null, .unset] [(.ref a1)])) rfl (by rw [hml]; rfl) rfl (hb hby d_jdk_42_method_149_1) (by decide) (W := 0) (Nat.le_of_eq rfl) (by decide)
  refine go stt1 ?_
  show Goes p e below _ (Tt1.setTop (mkF m 4 #[.val (.ref a1), .val (.ref a2), .val (.int (0 : Int32)), .val (.int (3 : Int32)), .val .null, .unset] []))
  refine gIloadN Xt1 hx (hb hby d_jdk_42_method_149_4) rfl ?_
  refine gIfY Xt1 hx (hb hby d_jdk_42_method_149_5) (pc' := 27) (XT.i0_ne_t (by decide)) (by decide) (by decide) ?_
  show Goes p e below _ (Tt1.setTop (mkF m 27 #[.val (.ref a1), .val (.ref a2), .val (.int (0 : Int32)), .val (.int (3 : Int32)), .val .null, .unset] []))
  obtain ⟨Tt2, Xt2, et2, stt2⟩ := getS2 Xt1 hx hZ hown (host := "") (Or.inl (hw _ (List.mem_of_getElem? (i := 39) rfl))) Via.refl et1 (S_cs.ext O0) (g := (mkF m 27 #[.val (.ref a1), .val (.ref a2), .val (.int (0 : Int32)), .val (.int (3 : Int32)), .val .null, .unset] [])) rfl (hb hby d_jdk_42_method_149_27)
  refine go stt2 ?_
  show Goes p e below _ (Tt2.setTop (mkF m 30 #[.val (.ref a1), .val (.ref a2), .val (.int (0 : Int32)), .val (.int (3 : Int32)), .val .null, .unset] [(.int cs)]))
  refine gIfN Xt2 hx (hb hby d_jdk_42_method_149_30) (XT.i0_eq_f hcs) ?_
  show Goes p e below _ (Tt2.setTop (mkF m 33 #[.val (.ref a1), .val (.ref a2), .val (.int (0 : Int32)), .val (.int (3 : Int32)), .val .null, .unset] []))
  refine gAloadN Xt2 hx (hb hby d_jdk_42_method_149_33) rfl rfl ?_
  refine gIloadN Xt2 hx (hb hby d_jdk_42_method_149_34) rfl ?_
  refine gIloadN Xt2 hx (hb hby d_jdk_42_method_149_35) rfl ?_
  have lt_a1_t3 := E1.lt
  have lt_a2_t3 := Y2.lt
  refine goCallS Xt2 hx hZ hown (hw _ (List.mem_of_getElem? (i := 40) rfl)) (hw _ (List.mem_of_getElem? (i := 41) rfl)) (hw _ (List.mem_of_getElem? (i := 42) rfl)) (hw _ (List.mem_of_getElem? (i := 43) rfl)) (by decide) (rmSb3 l Z a0 hw c0 c1 c2 a2 h0 O0 S_ua S_uh S_ul Y2 q0_0 q1_0 q0_1 q1_1 q0_2 q1_2) 0 (by decide) (by decide) et2 (hsz rfl) [(.ref a2), (.int (0 : Int32)), (.int (3 : Int32))] [] pd_11 rfl rfl rfl (Nat.le_of_eq rfl) (hb hby d_jdk_42_method_149_36) (by decide) (by decide) (fun Tt3 vt3 Lt3 Xt3 qt3 => ?_)
  obtain ⟨ht3, et3⟩ : ∃ z, Tt3.heap = z := ⟨_, rfl⟩
  rw [et3] at qt3
  obtain ⟨u, rfl, N4, Kct3, pu, alt⟩ := qt3
  have N5 := Fr.app N0 N4
  replace E1 := E1.keep Kct3
  replace F1 := F1.keep Kct3 nin0
  replace F2 := F2.keep Kct3 nin0
  replace Y2 := Y2.keep Kct3 nin0
  have O6 : Ext Z.heap ht3 := extK O0 Kct3 all0
  have K7 := K0.trans Kct3 all0
  have ne_a1_u : a1 ≠ u := Nat.ne_of_lt (Nat.lt_of_lt_of_le lt_a1_t3 pu)
  have ne_a2_u : a2 ≠ u := Nat.ne_of_lt (Nat.lt_of_lt_of_le lt_a2_t3 pu)
  have fr_u : Z.heap.size ≤ u := Nat.le_trans O0.1 pu
  have pa_u : h0.size ≤ u := Nat.le_trans K0.1 pu
  show Goes p e below _ (Tt3.setTop (mkF m 39 #[.val (.ref a1), .val (.ref a2), .val (.int (0 : Int32)), .val (.int (3 : Int32)), .val .null, .unset] [(.ref u)]))
  rcases alt with ⟨ok, Yu⟩ | Yu
  · refine gAstore Xt3 hx (hb hby d_jdk_42_method_149_39) rfl (l' := #[.val (.ref a1), .val (.ref a2), .val (.int (0 : Int32)), .val (.int (3 : Int32)), .val .null, .val (.ref u)]) rfl ?_
    refine gAloadN Xt3 hx (hb hby d_jdk_42_method_149_41) rfl rfl ?_
    refine gAload Xt3 hx (hb hby d_jdk_42_method_149_42) rfl rfl ?_
    refine gIloadN Xt3 hx (hb hby d_jdk_42_method_149_44) rfl ?_
    refine goCallS Xt3 hx hZ hown (hw _ (List.mem_of_getElem? (i := 47) rfl)) (hw _ (List.mem_of_getElem? (i := 48) rfl)) (hw _ (List.mem_of_getElem? (i := 42) rfl)) (hw _ (List.mem_of_getElem? (i := 49) rfl)) (by decide) (rmSc3 l Z a0 hw c0 c1 c2 u ht3 O6 Yu) 1 (by decide) (by decide) et3 (hsz rfl) [(.ref u), (.int (3 : Int32))] [(.ref a1)] pd_13 rfl rfl rfl (Nat.le_of_eq rfl) (hb hby d_jdk_42_method_149_45) (by decide) (by decide) (fun Tt8 vt8 Lt8 Xt8 qt8 => ?_)
    obtain ⟨rfl, N9, et8⟩ := qt8
    have N10 := Fr.app N5 N9
    show Goes p e below _ (Tt8.setTop (mkF m 48 #[.val (.ref a1), .val (.ref a2), .val (.int (0 : Int32)), .val (.int (3 : Int32)), .val .null, .val (.ref u)] [(.int (0 : Int32)), (.ref a1)]))
    obtain ⟨Tt11, ht11, Xt11, et11, Wt11, stt11⟩ := putF Xt8 hx hZ hown (host := "") (Or.inl (hw _ (List.mem_of_getElem? (i := 29) rfl))) Via.refl et8 F2 E1 (Or.inr ⟨(hw _ (List.mem_of_getElem? (i := 25) rfl)), rfl, hnm⟩) (hw _ (List.mem_of_getElem? (i := 9) rfl)) (ty := .byte) (by decide) rfl rfl (g := (mkF m 48 #[.val (.ref a1), .val (.ref a2), .val (.int (0 : Int32)), .val (.int (3 : Int32)), .val .null, .val (.ref u)] [(.int (0 : Int32)), (.ref a1)])) rfl rfl (hb hby d_jdk_42_method_149_48)
    refine go stt11 ?_
    have N12 := Fr.snoc Xt11 N10 fr1
    replace F2 := F2.same Wt11
    replace E1 := E1.wr Wt11
    replace F1 := F1.other Wt11 (Or.inr (slot_ne (Or.inr (hw _ (List.mem_of_getElem? (i := 24) rfl))) (Or.inr (hw _ (List.mem_of_getElem? (i := 25) rfl))) (by decide) (t := (.array .byte)) (by decide) (t' := .byte) (by decide)))
    replace Y2 := Y2.other Wt11 (Ne.symm ne)
    replace Yu := Yu.other Wt11 (Ne.symm ne_a1_u)
    have O13 : Ext Z.heap ht11 := extW O6 Wt11 fr1
    have K14 := K7.wr Wt11 (Or.inl (by simp))
    show Goes p e below _ (Tt11.setTop (mkF m 51 #[.val (.ref a1), .val (.ref a2), .val (.int (0 : Int32)), .val (.int (3 : Int32)), .val .null, .val (.ref u)] []))
    refine gAloadN Xt11 hx (hb hby d_jdk_42_method_149_51) rfl rfl ?_
    refine gAload Xt11 hx (hb hby d_jdk_42_method_149_52) rfl rfl ?_
    obtain ⟨Tt15, ht15, Xt15, et15, Wt15, stt15⟩ := putF Xt11 hx hZ hown (host := "") (Or.inl (hw _ (List.mem_of_getElem? (i := 28) rfl))) Via.refl et11 F1 E1 (Or.inr ⟨(hw _ (List.mem_of_getElem? (i := 24) rfl)), rfl, hnm⟩) (hw _ (List.mem_of_getElem? (i := 9) rfl)) (ty := (.array .byte)) (by decide) rfl rfl (g := (mkF m 54 #[.val (.ref a1), .val (.ref a2), .val (.int (0 : Int32)), .val (.int (3 : Int32)), .val .null, .val (.ref u)] [(.ref u), (.ref a1)])) rfl rfl (hb hby d_jdk_42_method_149_54)
    refine go stt15 ?_
    have N16 := Fr.snoc Xt15 N12 fr1
    replace F1 := F1.same Wt15
    replace E1 := E1.wr Wt15
    replace F2 := F2.other Wt15 (Or.inr (slot_ne (Or.inr (hw _ (List.mem_of_getElem? (i := 25) rfl))) (Or.inr (hw _ (List.mem_of_getElem? (i := 24) rfl))) (by decide) (t := .byte) (by decide) (t' := (.array .byte)) (by decide)))
    replace Y2 := Y2.other Wt15 (Ne.symm ne)
    replace Yu := Yu.other Wt15 (Ne.symm ne_a1_u)
    have O17 : Ext Z.heap ht15 := extW O13 Wt15 fr1
    have K18 := K14.wr Wt15 (Or.inl (by simp))
    show Goes p e below _ (Tt15.setTop (mkF m 57 #[.val (.ref a1), .val (.ref a2), .val (.int (0 : Int32)), .val (.int (3 : Int32)), .val .null, .val (.ref u)] []))
    exact goRet0 Xt15 hx hret hlocks (hb hby d_jdk_42_method_149_57) (by decide) (by decide) et15 (⟨rfl, N16, K18, u, pa_u, F1, Or.inl ⟨F2, ok, Yu⟩⟩)
  · refine gAstore Xt3 hx (hb hby d_jdk_42_method_149_39) rfl (l' := #[.val (.ref a1), .val (.ref a2), .val (.int (0 : Int32)), .val (.int (3 : Int32)), .val .null, .val (.ref u)]) rfl ?_
    refine gAloadN Xt3 hx (hb hby d_jdk_42_method_149_41) rfl rfl ?_
    refine gAload Xt3 hx (hb hby d_jdk_42_method_149_42) rfl rfl ?_
    refine gIloadN Xt3 hx (hb hby d_jdk_42_method_149_44) rfl ?_
    refine goCallS Xt3 hx hZ hown (hw _ (List.mem_of_getElem? (i := 47) rfl)) (hw _ (List.mem_of_getElem? (i := 48) rfl)) (hw _ (List.mem_of_getElem? (i := 42) rfl)) (hw _ (List.mem_of_getElem? (i := 49) rfl)) (by decide) (rmSe3 l Z a0 hw c0 c1 c2 u ht3 O6 Yu) 1 (by decide) (by decide) et3 (hsz rfl) [(.ref u), (.int (3 : Int32))] [(.ref a1)] pd_13 rfl rfl rfl (Nat.le_of_eq rfl) (hb hby d_jdk_42_method_149_45) (by decide) (by decide) (fun Tt19 vt19 Lt19 Xt19 qt19 => ?_)
    obtain ⟨rfl, N20, et19⟩ := qt19
    have N21 := Fr.app N5 N20
    show Goes p e below _ (Tt19.setTop (mkF m 48 #[.val (.ref a1), .val (.ref a2), .val (.int (0 : Int32)), .val (.int (3 : Int32)), .val .null, .val (.ref u)] [(.int (1 : Int32)), (.ref a1)]))
    obtain ⟨Tt22, ht22, Xt22, et22, Wt22, stt22⟩ := putF Xt19 hx hZ hown (host := "") (Or.inl (hw _ (List.mem_of_getElem? (i := 29) rfl))) Via.refl et19 F2 E1 (Or.inr ⟨(hw _ (List.mem_of_getElem? (i := 25) rfl)), rfl, hnm⟩) (hw _ (List.mem_of_getElem? (i := 9) rfl)) (ty := .byte) (by decide) rfl rfl (g := (mkF m 48 #[.val (.ref a1), .val (.ref a2), .val (.int (0 : Int32)), .val (.int (3 : Int32)), .val .null, .val (.ref u)] [(.int (1 : Int32)), (.ref a1)])) rfl rfl (hb hby d_jdk_42_method_149_48)
    refine go stt22 ?_
    have N23 := Fr.snoc Xt22 N21 fr1
    replace F2 := F2.same Wt22
    replace E1 := E1.wr Wt22
    replace F1 := F1.other Wt22 (Or.inr (slot_ne (Or.inr (hw _ (List.mem_of_getElem? (i := 24) rfl))) (Or.inr (hw _ (List.mem_of_getElem? (i := 25) rfl))) (by decide) (t := (.array .byte)) (by decide) (t' := .byte) (by decide)))
    replace Y2 := Y2.other Wt22 (Ne.symm ne)
    replace Yu := Yu.other Wt22 (Ne.symm ne_a1_u)
    have O24 : Ext Z.heap ht22 := extW O6 Wt22 fr1
    have K25 := K7.wr Wt22 (Or.inl (by simp))
    show Goes p e below _ (Tt22.setTop (mkF m 51 #[.val (.ref a1), .val (.ref a2), .val (.int (0 : Int32)), .val (.int (3 : Int32)), .val .null, .val (.ref u)] []))
    refine gAloadN Xt22 hx (hb hby d_jdk_42_method_149_51) rfl rfl ?_
    refine gAload Xt22 hx (hb hby d_jdk_42_method_149_52) rfl rfl ?_
    obtain ⟨Tt26, ht26, Xt26, et26, Wt26, stt26⟩ := putF Xt22 hx hZ hown (host := "") (Or.inl (hw _ (List.mem_of_getElem? (i := 28) rfl))) Via.refl et22 F1 E1 (Or.inr ⟨(hw _ (List.mem_of_getElem? (i := 24) rfl)), rfl, hnm⟩) (hw _ (List.mem_of_getElem? (i := 9) rfl)) (ty := (.array .byte)) (by decide) rfl rfl (g := (mkF m 54 #[.val (.ref a1), .val (.ref a2), .val (.int (0 : Int32)), .val (.int (3 : Int32)), .val .null, .val (.ref u)] [(.ref u), (.ref a1)])) rfl rfl (hb hby d_jdk_42_method_149_54)
    refine go stt26 ?_
    have N27 := Fr.snoc Xt26 N23 fr1
    replace F1 := F1.same Wt26
    replace E1 := E1.wr Wt26
    replace F2 := F2.other Wt26 (Or.inr (slot_ne (Or.inr (hw _ (List.mem_of_getElem? (i := 25) rfl))) (Or.inr (hw _ (List.mem_of_getElem? (i := 24) rfl))) (by decide) (t := .byte) (by decide) (t' := (.array .byte)) (by decide)))
    replace Y2 := Y2.other Wt26 (Ne.symm ne)
    replace Yu := Yu.other Wt26 (Ne.symm ne_a1_u)
    have O28 : Ext Z.heap ht26 := extW O24 Wt26 fr1
    have K29 := K25.wr Wt26 (Or.inl (by simp))
    show Goes p e below _ (Tt26.setTop (mkF m 57 #[.val (.ref a1), .val (.ref a2), .val (.int (0 : Int32)), .val (.int (3 : Int32)), .val .null, .val (.ref u)] []))
    exact goRet0 Xt26 hx hret hlocks (hb hby d_jdk_42_method_149_57) (by decide) (by decide) et26 (⟨rfl, N27, K29, u, pa_u, F1, Or.inr ⟨F2, Yu⟩⟩)
theorem ef_rmS3 (m : MethodId) (x0 : Addr) (x1 : Addr) : entryFrame m #[(.ref x0), (.ref x1)] 2 = mkF m 0 #[.val (.ref x0), .val (.ref x1)] [] := by first | (simp [entryFrame, mkF, argsToLocals, Value.category]; done) | rfl
set_option maxRecDepth 65536 in
set_option maxHeartbeats 40000000 in
theorem rmS3 (l : Launch) (Z : State) (a0 : Array Value) (hw : ∀ d ∈ tables_1, d.before a0 Z = true) (cs : Int32) (c0 c1 c2 : Int32) (a1 : Addr) (a2 : Addr) (h0 : Heap) (O0 : Ext Z.heap h0) (S_cs : Sta Z Z.heap "java/lang/String" "COMPACT_STRINGS" "Z" (.int cs)) (hcs : ¬ cs = 0) (S_ua : Sta Z Z.heap "java/lang/StringUTF16" "$assertionsDisabled" "Z" (.int (1 : Int32))) (S_uh : Sta Z Z.heap "java/lang/StringUTF16" "HI_BYTE_SHIFT" "I" (.int (0 : Int32))) (S_ul : Sta Z Z.heap "java/lang/StringUTF16" "LO_BYTE_SHIFT" "I" (.int (8 : Int32))) (E1 : Exa Z h0 a1 "java/lang/String") (F1 : Fld Z h0 a1 "java/lang/String" "value" "[B" .null) (F2 : Fld Z h0 a1 "java/lang/String" "coder" "B" (.int (0 : Int32))) (Y2 : Ary Z h0 a2 .char [(.int c0), (.int c1), (.int c2)]) (ne : a1 ≠ a2) (fr1 : Z.heap.size ≤ a1) (q0_0 : ¬ c0 < 0) (q1_0 : ¬ (65535 : Int32) < c0) (q0_1 : ¬ c1 < 0) (q1_1 : ¬ (65535 : Int32) < c1) (q0_2 : ¬ c2 < 0) (q1_2 : ¬ (65535 : Int32) < c2) :
    Ctr l Z (⟨"java/lang/String", "<init>", "([C)V"⟩ : MethodName) jdk_42_method_3_code 2 none [] ({ frames := 5, cells := 2, slots := 9, locals := 74 } : Room) #[(.ref a1), (.ref a2)] h0 (fun v h L => v = none ∧ Fr Z.heap.size L ∧ Keep h0 h [a1] ∧ ∃ u, h0.size ≤ u ∧ Fld Z h a1 "java/lang/String" "value" "[B" (.ref u) ∧ ((Fld Z h a1 "java/lang/String" "coder" "B" (.int (0 : Int32)) ∧ (¬ (255 : Int32) < c0 ∧ ¬ (255 : Int32) < c1 ∧ ¬ (255 : Int32) < c2) ∧ Ary Z h u .byte [(.int (c0.toInt8.toInt32)), (.int (c1.toInt8.toInt32)), (.int (c2.toInt8.toInt32))]) ∨ (Fld Z h a1 "java/lang/String" "coder" "B" (.int (1 : Int32)) ∧ Ary Z h u .byte [(.int ((c0 >>> ((0 : Int32) &&& 31)).toInt8.toInt32)), (.int ((c0 >>> ((8 : Int32) &&& 31)).toInt8.toInt32)), (.int ((c1 >>> ((0 : Int32) &&& 31)).toInt8.toInt32)), (.int ((c1 >>> ((8 : Int32) &&& 31)).toInt8.toInt32)), (.int ((c2 >>> ((0 : Int32) &&& 31)).toInt8.toInt32)), (.int ((c2 >>> ((8 : Int32) &&& 31)).toInt8.toInt32))]))) := by
  refine ctr (plainFor_of_name pn_1) ?_
  intro p e s m below meth c s₁ hx hby hml hown hnm hret hlocks hZ X0 e0
  have N0 := Fr.nil Z.heap.size
  have hsz : ∀ {Ls : Array Slot}, Ls.size = 2 → Ls.size = c.maxLocals := fun q => q.trans hml.symm
  have K0 := Keep.refl h0 [a1]
  refine goE (ef_rmS3 m (a1) (a2)) ?_
  show Goes p e below _ (s₁.setTop (mkF m 0 #[.val (.ref a1), .val (.ref a2)] []))
  refine gAloadN X0 hx (hb hby d_jdk_42_method_3_0) rfl rfl ?_
  refine gAloadN X0 hx (hb hby d_jdk_42_method_3_1) rfl rfl ?_
  refine gIconst X0 hx (hb hby d_jdk_42_method_3_2) (v := (0 : Int32)) rfl ?_
  refine gAloadN X0 hx (hb hby d_jdk_42_method_3_3) rfl rfl ?_
  refine goAlen X0 hx hZ e0 Y2 (n := (3 : Int32)) (hb hby d_jdk_42_method_3_4) rfl ?_
  refine gAnull X0 hx (hb hby d_jdk_42_method_3_5) ?_
  have lt_a1_t1 := E1.lt
  have lt_a2_t1 := Y2.lt
  refine goCallI X0 hx hZ rfl hown (hw _ (List.mem_of_getElem? (i := 15) rfl)) (hw _ (List.mem_of_getElem? (i := 16) rfl)) (hw _ (List.mem_of_getElem? (i := 10) rfl)) (hw _ (List.mem_of_getElem? (i := 18) rfl)) (by decide) (rmSd3 l Z a0 hw cs c0 c1 c2 a1 a2 h0 O0 S_cs hcs S_ua S_uh S_ul E1 F1 F2 Y2 ne fr1 q0_0 q1_0 q0_1 q1_1 q0_2 q1_2) 0 (by decide) (by decide) e0 (hsz rfl) a1 [(.ref a2), (.int (0 : Int32)), (.int (3 : Int32)), .null] [] pd_14 rfl rfl rfl (Nat.le_of_eq rfl) (hb hby d_jdk_42_method_3_6) (by decide) (by decide) (fun Tt1 vt1 Lt1 Xt1 qt1 => ?_)
  obtain ⟨ht1, et1⟩ : ∃ z, Tt1.heap = z := ⟨_, rfl⟩
  rw [et1] at qt1
  obtain ⟨rfl, N2, Kct1, u, pu, Gv, Ga⟩ := qt1
  have N3 := Fr.app N0 N2
  replace E1 := E1.keep Kct1
  replace Y2 := Y2.keep Kct1 (ninS (Ne.symm ne) nin0)
  have O4 : Ext Z.heap ht1 := extK O0 Kct1 (allS fr1 all0)
  have K5 := K0.trans Kct1 (allS (Or.inl (by simp)) all0)
  have ne_a1_u : a1 ≠ u := Nat.ne_of_lt (Nat.lt_of_lt_of_le lt_a1_t1 pu)
  have ne_a2_u : a2 ≠ u := Nat.ne_of_lt (Nat.lt_of_lt_of_le lt_a2_t1 pu)
  have fr_u : Z.heap.size ≤ u := Nat.le_trans O0.1 pu
  have pa_u : h0.size ≤ u := Nat.le_trans K0.1 pu
  show Goes p e below _ (Tt1.setTop (mkF m 9 #[.val (.ref a1), .val (.ref a2)] []))
  exact goRet0 Xt1 hx hret hlocks (hb hby d_jdk_42_method_3_9) (by decide) (by decide) et1 (⟨rfl, N3, K5, u, pu, Gv, Ga⟩)
theorem d_method_4_59 : decode method_4_code 59 = .ok (.new 9, 3) := by decide +kernel
theorem d_method_4_62 : decode method_4_code 62 = .ok (.dup, 1) := by decide +kernel
theorem d_method_4_63 : decode method_4_code 63 = .ok (.iconst 3, 1) := by decide +kernel
theorem d_method_4_64 : decode method_4_code 64 = .ok (.newarray .char, 2) := by decide +kernel
theorem d_method_4_66 : decode method_4_code 66 = .ok (.dup, 1) := by decide +kernel
theorem d_method_4_67 : decode method_4_code 67 = .ok (.iconst 0, 1) := by decide +kernel
theorem d_method_4_68 : decode method_4_code 68 = .ok (.iload_n 1, 1) := by decide +kernel
theorem d_method_4_69 : decode method_4_code 69 = .ok (.castore, 1) := by decide +kernel
theorem d_method_4_70 : decode method_4_code 70 = .ok (.dup, 1) := by decide +kernel
theorem d_method_4_71 : decode method_4_code 71 = .ok (.iconst 1, 1) := by decide +kernel
theorem d_method_4_72 : decode method_4_code 72 = .ok (.iload_n 2, 1) := by decide +kernel
theorem d_method_4_73 : decode method_4_code 73 = .ok (.castore, 1) := by decide +kernel
theorem d_method_4_74 : decode method_4_code 74 = .ok (.dup, 1) := by decide +kernel
theorem d_method_4_75 : decode method_4_code 75 = .ok (.iconst 2, 1) := by decide +kernel
theorem d_method_4_76 : decode method_4_code 76 = .ok (.iload_n 3, 1) := by decide +kernel
theorem d_method_4_77 : decode method_4_code 77 = .ok (.castore, 1) := by decide +kernel
theorem d_method_4_78 : decode method_4_code 78 = .ok (.invokespecial 11, 3) := by decide +kernel
theorem d_method_4_81 : decode method_4_code 81 = .ok (.areturn, 1) := by decide +kernel
theorem ef_rmBd3 (m : MethodId) (x0 : Int32) (x1 : Int32) (x2 : Int32) (x3 : Int32) : entryFrame m #[(.int x0), (.int x1), (.int x2), (.int x3)] 4 = mkF m 0 #[.val (.int x0), .val (.int x1), .val (.int x2), .val (.int x3)] [] := by first | (simp [entryFrame, mkF, argsToLocals, Value.category]; done) | rfl
set_option maxRecDepth 65536 in
set_option maxHeartbeats 40000000 in
theorem rmBd3 (l : Launch) (Z : State) (a0 : Array Value) (hw : ∀ d ∈ tables_1, d.before a0 Z = true) (cs : Int32) (c0 : Int32) (c1 : Int32) (c2 : Int32) (h0 : Heap) (O0 : Ext Z.heap h0) (S_cs : Sta Z Z.heap "java/lang/String" "COMPACT_STRINGS" "Z" (.int cs)) (hcs : ¬ cs = 0) (S_ua : Sta Z Z.heap "java/lang/StringUTF16" "$assertionsDisabled" "Z" (.int (1 : Int32))) (S_uh : Sta Z Z.heap "java/lang/StringUTF16" "HI_BYTE_SHIFT" "I" (.int (0 : Int32))) (S_ul : Sta Z Z.heap "java/lang/StringUTF16" "LO_BYTE_SHIFT" "I" (.int (8 : Int32))) (nc0 : nar .char c0 = c0) (nc1 : nar .char c1 = c1) (nc2 : nar .char c2 = c2) (q0_0 : ¬ c0 < 0) (q1_0 : ¬ (65535 : Int32) < c0) (q0_1 : ¬ c1 < 0) (q1_1 : ¬ (65535 : Int32) < c1) (q0_2 : ¬ c2 < 0) (q1_2 : ¬ (65535 : Int32) < c2) :
    Ctr l Z (⟨"com/example/rolegate/rolegate/HttpSyntaxIsTokenPinLaw", "build", "(ICCC)Ljava/lang/String;"⟩ : MethodName) method_4_code 4 (some (.object "java/lang/String")) [] ({ frames := 6, cells := 4, slots := 16, locals := 88 } : Room) #[(.int (3 : Int32)), (.int c0), (.int c1), (.int c2)] h0 (fun v h L => ∃ b_, v = some (.ref b_) ∧ Fr Z.heap.size L ∧ Keep h0 h [] ∧ Exa Z h b_ "java/lang/String" ∧ ∃ u, Fld Z h b_ "java/lang/String" "value" "[B" (.ref u) ∧ ((Fld Z h b_ "java/lang/String" "coder" "B" (.int (0 : Int32)) ∧ (¬ (255 : Int32) < c0 ∧ ¬ (255 : Int32) < c1 ∧ ¬ (255 : Int32) < c2) ∧ Ary Z h u .byte [(.int (c0.toInt8.toInt32)), (.int (c1.toInt8.toInt32)), (.int (c2.toInt8.toInt32))]) ∨ (Fld Z h b_ "java/lang/String" "coder" "B" (.int (1 : Int32)) ∧ Ary Z h u .byte [(.int ((c0 >>> ((0 : Int32) &&& 31)).toInt8.toInt32)), (.int ((c0 >>> ((8 : Int32) &&& 31)).toInt8.toInt32)), (.int ((c1 >>> ((0 : Int32) &&& 31)).toInt8.toInt32)), (.int ((c1 >>> ((8 : Int32) &&& 31)).toInt8.toInt32)), (.int ((c2 >>> ((0 : Int32) &&& 31)).toInt8.toInt32)), (.int ((c2 >>> ((8 : Int32) &&& 31)).toInt8.toInt32))]))) := by
  refine ctr (plainFor_of_name pn_5) ?_
  intro p e s m below meth c s₁ hx hby hml hown hnm hret hlocks hZ X0 e0
  have N0 := Fr.nil Z.heap.size
  have hsz : ∀ {Ls : Array Slot}, Ls.size = 4 → Ls.size = c.maxLocals := fun q => q.trans hml.symm
  have K0 := Keep.refl h0 []
  refine goE (ef_rmBd3 m ((3 : Int32)) (c0) (c1) (c2)) ?_
  show Goes p e below _ (s₁.setTop (mkF m 0 #[.val (.int (3 : Int32)), .val (.int c0), .val (.int c1), .val (.int c2)] []))
  refine gIloadN X0 hx (hb hby d_method_4_0) rfl ?_
  refine gIfY X0 hx (hb hby d_method_4_1) (pc' := 15) (XT.i0_ne_t (by decide)) (by decide) (by decide) ?_
  show Goes p e below _ (s₁.setTop (mkF m 15 #[.val (.int (3 : Int32)), .val (.int c0), .val (.int c1), .val (.int c2)] []))
  refine gIloadN X0 hx (hb hby d_method_4_15) rfl ?_
  refine gIconst X0 hx (hb hby d_method_4_16) (v := (1 : Int32)) rfl ?_
  refine gIcmpY X0 hx (hb hby d_method_4_17) (pc' := 35) (XT.ii_ne_t (by decide)) (by decide) (by decide) ?_
  show Goes p e below _ (s₁.setTop (mkF m 35 #[.val (.int (3 : Int32)), .val (.int c0), .val (.int c1), .val (.int c2)] []))
  refine gIloadN X0 hx (hb hby d_method_4_35) rfl ?_
  refine gIconst X0 hx (hb hby d_method_4_36) (v := (2 : Int32)) rfl ?_
  refine gIcmpY X0 hx (hb hby d_method_4_37) (pc' := 59) (XT.ii_ne_t (by decide)) (by decide) (by decide) ?_
  show Goes p e below _ (s₁.setTop (mkF m 59 #[.val (.int (3 : Int32)), .val (.int c0), .val (.int c1), .val (.int c2)] []))
  obtain ⟨Tt1, ht1, Xt1, et1, Et1, At1, Dt1, -, stt1⟩ := newO X0 hx hZ hown (hw _ (List.mem_of_getElem? (i := 8) rfl)) (hw _ (List.mem_of_getElem? (i := 9) rfl)) (hw _ (List.mem_of_getElem? (i := 10) rfl)) e0 (g := (mkF m 59 #[.val (.int (3 : Int32)), .val (.int c0), .val (.int c1), .val (.int c2)] [])) rfl (hb hby d_method_4_59) (by decide) (by decide)
  obtain ⟨ob2, gob2⟩ : ∃ z, z = h0.size := ⟨_, rfl⟩
  rw [← gob2] at At1 Dt1 stt1
  refine go stt1 ?_
  have fr_ob2 : Z.heap.size ≤ ob2 := gob2 ▸ O0.1
  have pa_ob2 : h0.size ≤ ob2 := gob2 ▸ K0.1
  have O3 : Ext Z.heap ht1 := extT O0 Et1
  have K4 := K0.ext Et1
  have F_value_ob2 : Fld Z ht1 ob2 "java/lang/String" "value" "[B" .null := Dt1 (Or.inr (hw _ (List.mem_of_getElem? (i := 24) rfl))) (ty := (.array .byte)) (by decide)
  have F_coder_ob2 : Fld Z ht1 ob2 "java/lang/String" "coder" "B" (.int (0 : Int32)) := Dt1 (Or.inr (hw _ (List.mem_of_getElem? (i := 25) rfl))) (ty := .byte) (by decide)
  show Goes p e below _ (Tt1.setTop (mkF m 62 #[.val (.int (3 : Int32)), .val (.int c0), .val (.int c1), .val (.int c2)] [(.ref ob2)]))
  refine gDup Xt1 hx (hb hby d_method_4_62) rfl ?_
  refine gIconst Xt1 hx (hb hby d_method_4_63) (v := (3 : Int32)) rfl ?_
  obtain ⟨Tt5, ht5, kt5, Xt5, et5, Et5, At5, stt5⟩ := newP Xt1 hx hZ (hw _ (List.mem_of_getElem? (i := 11) rfl)) et1 (g := (mkF m 64 #[.val (.int (3 : Int32)), .val (.int c0), .val (.int c1), .val (.int c2)] [(.int (3 : Int32)), (.ref ob2), (.ref ob2)])) rfl (hb hby d_method_4_64) rfl (by decide) (cap := 3) (by decide) (by decide) (by decide) (by decide)
  obtain ⟨ob6, gob6⟩ : ∃ z, z = ht1.size := ⟨_, rfl⟩
  rw [← gob6] at At5 stt5
  refine go stt5 ?_
  have ne_ob2_ob6 : ob2 ≠ ob6 := Nat.ne_of_lt (gob6 ▸ At1.lt)
  have fr_ob6 : Z.heap.size ≤ ob6 := gob6 ▸ O3.1
  have pa_ob6 : h0.size ≤ ob6 := gob6 ▸ K4.1
  replace At1 := At1.ext Et5
  replace F_value_ob2 := F_value_ob2.ext Et5
  replace F_coder_ob2 := F_coder_ob2.ext Et5
  have O7 : Ext Z.heap ht5 := extT O3 Et5
  have K8 := K4.ext Et5
  have Y_ob6 : Ary Z ht5 ob6 .char [(.int (0 : Int32)), (.int (0 : Int32)), (.int (0 : Int32))] := Ary.new At5 rfl (by decide)
  show Goes p e below _ (Tt5.setTop (mkF m 66 #[.val (.int (3 : Int32)), .val (.int c0), .val (.int c1), .val (.int c2)] [(.ref ob6), (.ref ob2), (.ref ob2)]))
  refine gDup Xt5 hx (hb hby d_method_4_66) rfl ?_
  refine gIconst Xt5 hx (hb hby d_method_4_67) (v := (0 : Int32)) rfl ?_
  refine gIloadN Xt5 hx (hb hby d_method_4_68) rfl ?_
  refine goCastore Xt5 hx hZ et5 Y_ob6 (hb hby d_method_4_69) (by decide) rfl (fun Tt9 ht9 Xt9 et9 Wt9 => ?_)
  have N10 := Fr.snoc Xt9 N0 fr_ob6
  replace Y_ob6 : Ary Z ht9 ob6 .char [(.int c0), (.int (0 : Int32)), (.int (0 : Int32))] := Y_ob6.set Wt9 (by rw [nc0]; rfl)
  replace At1 := At1.wr Wt9
  replace F_value_ob2 := F_value_ob2.other Wt9 (Or.inl ne_ob2_ob6)
  replace F_coder_ob2 := F_coder_ob2.other Wt9 (Or.inl ne_ob2_ob6)
  have O11 : Ext Z.heap ht9 := extW O7 Wt9 fr_ob6
  have K12 := K8.wr Wt9 (Or.inr pa_ob6)
  show Goes p e below _ (Tt9.setTop (mkF m 70 #[.val (.int (3 : Int32)), .val (.int c0), .val (.int c1), .val (.int c2)] [(.ref ob6), (.ref ob2), (.ref ob2)]))
  refine gDup Xt9 hx (hb hby d_method_4_70) rfl ?_
  refine gIconst Xt9 hx (hb hby d_method_4_71) (v := (1 : Int32)) rfl ?_
  refine gIloadN Xt9 hx (hb hby d_method_4_72) rfl ?_
  refine goCastore Xt9 hx hZ et9 Y_ob6 (hb hby d_method_4_73) (by decide) rfl (fun Tt13 ht13 Xt13 et13 Wt13 => ?_)
  have N14 := Fr.snoc Xt13 N10 fr_ob6
  replace Y_ob6 : Ary Z ht13 ob6 .char [(.int c0), (.int c1), (.int (0 : Int32))] := Y_ob6.set Wt13 (by rw [nc1]; rfl)
  replace At1 := At1.wr Wt13
  replace F_value_ob2 := F_value_ob2.other Wt13 (Or.inl ne_ob2_ob6)
  replace F_coder_ob2 := F_coder_ob2.other Wt13 (Or.inl ne_ob2_ob6)
  have O15 : Ext Z.heap ht13 := extW O11 Wt13 fr_ob6
  have K16 := K12.wr Wt13 (Or.inr pa_ob6)
  show Goes p e below _ (Tt13.setTop (mkF m 74 #[.val (.int (3 : Int32)), .val (.int c0), .val (.int c1), .val (.int c2)] [(.ref ob6), (.ref ob2), (.ref ob2)]))
  refine gDup Xt13 hx (hb hby d_method_4_74) rfl ?_
  refine gIconst Xt13 hx (hb hby d_method_4_75) (v := (2 : Int32)) rfl ?_
  refine gIloadN Xt13 hx (hb hby d_method_4_76) rfl ?_
  refine goCastore Xt13 hx hZ et13 Y_ob6 (hb hby d_method_4_77) (by decide) rfl (fun Tt17 ht17 Xt17 et17 Wt17 => ?_)
  have N18 := Fr.snoc Xt17 N14 fr_ob6
  replace Y_ob6 : Ary Z ht17 ob6 .char [(.int c0), (.int c1), (.int c2)] := Y_ob6.set Wt17 (by rw [nc2]; rfl)
  replace At1 := At1.wr Wt17
  replace F_value_ob2 := F_value_ob2.other Wt17 (Or.inl ne_ob2_ob6)
  replace F_coder_ob2 := F_coder_ob2.other Wt17 (Or.inl ne_ob2_ob6)
  have O19 : Ext Z.heap ht17 := extW O15 Wt17 fr_ob6
  have K20 := K16.wr Wt17 (Or.inr pa_ob6)
  show Goes p e below _ (Tt17.setTop (mkF m 78 #[.val (.int (3 : Int32)), .val (.int c0), .val (.int c1), .val (.int c2)] [(.ref ob6), (.ref ob2), (.ref ob2)]))
  refine goCallI Xt17 hx hZ rfl hown (hw _ (List.mem_of_getElem? (i := 12) rfl)) (hw _ (List.mem_of_getElem? (i := 13) rfl)) (hw _ (List.mem_of_getElem? (i := 10) rfl)) (hw _ (List.mem_of_getElem? (i := 14) rfl)) (by decide) (rmS3 l Z a0 hw cs c0 c1 c2 ob2 ob6 ht17 O19 S_cs hcs S_ua S_uh S_ul At1 F_value_ob2 F_coder_ob2 Y_ob6 ne_ob2_ob6 fr_ob2 q0_0 q1_0 q0_1 q1_1 q0_2 q1_2) 1 (by decide) (by decide) et17 (hsz rfl) ob2 [(.ref ob6)] [(.ref ob2)] pd_15 rfl rfl rfl (Nat.le_of_eq rfl) (hb hby d_method_4_78) (by decide) (by decide) (fun Tt21 vt21 Lt21 Xt21 qt21 => ?_)
  obtain ⟨ht21, et21⟩ : ∃ z, Tt21.heap = z := ⟨_, rfl⟩
  rw [et21] at qt21
  obtain ⟨rfl, N22, Kct21, u, pu, Gv, Ga⟩ := qt21
  have N23 := Fr.app N18 N22
  replace At1 := At1.keep Kct21
  replace Y_ob6 := Y_ob6.keep Kct21 (ninS (Ne.symm ne_ob2_ob6) nin0)
  have O24 : Ext Z.heap ht21 := extK O19 Kct21 (allS fr_ob2 all0)
  have K25 := K20.trans Kct21 (allS (Or.inr pa_ob2) all0)
  show Goes p e below _ (Tt21.setTop (mkF m 81 #[.val (.int (3 : Int32)), .val (.int c0), .val (.int c1), .val (.int c2)] [(.ref ob2)]))
  exact goRetA Xt21 hx hret hlocks rfl rfl (hb hby d_method_4_81) (by decide) (by decide) et21 (⟨ob2, rfl, N23, K25, At1, u, Gv, Ga⟩)
theorem ef_rmXe30 (m : MethodId) (x0 : Addr) : entryFrame m #[(.ref x0)] 1 = mkF m 0 #[.val (.ref x0)] [] := by first | (simp [entryFrame, mkF, argsToLocals, Value.category]; done) | rfl
set_option maxRecDepth 65536 in
set_option maxHeartbeats 40000000 in
theorem rmXe30 (l : Launch) (Z : State) (a0 : Array Value) (hw : ∀ d ∈ tables_1, d.before a0 Z = true) (u : Addr) (cs : Int32) (c0 c1 c2 : Int32) (a1 : Addr) (h0 : Heap) (O0 : Ext Z.heap h0) (S_cs : Sta Z Z.heap "java/lang/String" "COMPACT_STRINGS" "Z" (.int cs)) (hcs : ¬ cs = 0) (E1 : Exa Z h0 a1 "java/lang/String") (V1 : Fld Z h0 a1 "java/lang/String" "value" "[B" (.ref u)) (C1 : Fld Z h0 a1 "java/lang/String" "coder" "B" (.int (0 : Int32))) (Y1 : Ary Z h0 u .byte [(.int (c0.toInt8.toInt32)), (.int (c1.toInt8.toInt32)), (.int (c2.toInt8.toInt32))]) :
    Ctr l Z (⟨"java/lang/String", "isEmpty", "()Z"⟩ : MethodName) jdk_42_method_55_code 1 (some .boolean) [] ({ frames := 0, cells := 0, slots := 0, locals := 0 } : Room) #[(.ref a1)] h0 (fun v h L => v = some (.int 0) ∧ Fr Z.heap.size L ∧ h = h0) := by
  refine ctr (plainFor_of_name pn_1) ?_
  intro p e s m below meth c s₁ hx hby hml hown hnm hret hlocks hZ X0 e0
  have N0 := Fr.nil Z.heap.size
  have hsz : ∀ {Ls : Array Slot}, Ls.size = 1 → Ls.size = c.maxLocals := fun q => q.trans hml.symm
  refine goE (ef_rmXe30 m (a1)) ?_
  show Goes p e below _ (s₁.setTop (mkF m 0 #[.val (.ref a1)] []))
  refine gAloadN X0 hx (hb hby d_jdk_42_method_55_0) rfl rfl ?_
  obtain ⟨Tt1, Xt1, et1, stt1⟩ := getF X0 hx hZ hown (host := "") (Or.inl (hw _ (List.mem_of_getElem? (i := 28) rfl))) Via.refl e0 V1 (g := (mkF m 1 #[.val (.ref a1)] [(.ref a1)])) rfl rfl (hb hby d_jdk_42_method_55_1)
  refine go stt1 ?_
  show Goes p e below _ (Tt1.setTop (mkF m 4 #[.val (.ref a1)] [(.ref u)]))
  refine goAlen Xt1 hx hZ et1 Y1 (n := (3 : Int32)) (hb hby d_jdk_42_method_55_4) rfl ?_
  refine gIfY Xt1 hx (hb hby d_jdk_42_method_55_5) (pc' := 12) (XT.i0_ne_t (by decide)) (by decide) (by decide) ?_
  show Goes p e below _ (Tt1.setTop (mkF m 12 #[.val (.ref a1)] []))
  refine gIconst Xt1 hx (hb hby d_jdk_42_method_55_12) (v := (0 : Int32)) rfl ?_
  exact goRetN Xt1 hx (t := .boolean) hret hlocks (by simp) (hb hby d_jdk_42_method_55_13) (z' := (0 : Int32)) rfl (by decide) (by decide) et1 (⟨rfl, N0, rfl⟩)
theorem ef_rmXc30 (m : MethodId) (x0 : Addr) : entryFrame m #[(.ref x0)] 1 = mkF m 0 #[.val (.ref x0)] [] := by first | (simp [entryFrame, mkF, argsToLocals, Value.category]; done) | rfl
set_option maxRecDepth 65536 in
set_option maxHeartbeats 40000000 in
theorem rmXc30 (l : Launch) (Z : State) (a0 : Array Value) (hw : ∀ d ∈ tables_1, d.before a0 Z = true) (u : Addr) (cs : Int32) (c0 c1 c2 : Int32) (a1 : Addr) (h0 : Heap) (O0 : Ext Z.heap h0) (S_cs : Sta Z Z.heap "java/lang/String" "COMPACT_STRINGS" "Z" (.int cs)) (hcs : ¬ cs = 0) (E1 : Exa Z h0 a1 "java/lang/String") (V1 : Fld Z h0 a1 "java/lang/String" "value" "[B" (.ref u)) (C1 : Fld Z h0 a1 "java/lang/String" "coder" "B" (.int (0 : Int32))) (Y1 : Ary Z h0 u .byte [(.int (c0.toInt8.toInt32)), (.int (c1.toInt8.toInt32)), (.int (c2.toInt8.toInt32))]) :
    Ctr l Z (⟨"java/lang/String", "coder", "()B"⟩ : MethodName) jdk_42_method_152_code 1 (some .byte) [] ({ frames := 0, cells := 0, slots := 0, locals := 0 } : Room) #[(.ref a1)] h0 (fun v h L => v = some (.int (0 : Int32)) ∧ Fr Z.heap.size L ∧ h = h0) := by
  refine ctr (plainFor_of_name pn_1) ?_
  intro p e s m below meth c s₁ hx hby hml hown hnm hret hlocks hZ X0 e0
  have N0 := Fr.nil Z.heap.size
  have hsz : ∀ {Ls : Array Slot}, Ls.size = 1 → Ls.size = c.maxLocals := fun q => q.trans hml.symm
  refine goE (ef_rmXc30 m (a1)) ?_
  show Goes p e below _ (s₁.setTop (mkF m 0 #[.val (.ref a1)] []))
  obtain ⟨Tt1, Xt1, et1, stt1⟩ := getS2 X0 hx hZ hown (host := "") (Or.inl (hw _ (List.mem_of_getElem? (i := 39) rfl))) Via.refl e0 (S_cs.ext O0) (g := (mkF m 0 #[.val (.ref a1)] [])) rfl (hb hby d_jdk_42_method_152_0)
  refine go stt1 ?_
  show Goes p e below _ (Tt1.setTop (mkF m 3 #[.val (.ref a1)] [(.int cs)]))
  refine gIfN Xt1 hx (hb hby d_jdk_42_method_152_3) (XT.i0_eq_f hcs) ?_
  show Goes p e below _ (Tt1.setTop (mkF m 6 #[.val (.ref a1)] []))
  refine gAloadN Xt1 hx (hb hby d_jdk_42_method_152_6) rfl rfl ?_
  obtain ⟨Tt2, Xt2, et2, stt2⟩ := getF Xt1 hx hZ hown (host := "") (Or.inl (hw _ (List.mem_of_getElem? (i := 29) rfl))) Via.refl et1 C1 (g := (mkF m 7 #[.val (.ref a1)] [(.ref a1)])) rfl rfl (hb hby d_jdk_42_method_152_7)
  refine go stt2 ?_
  show Goes p e below _ (Tt2.setTop (mkF m 10 #[.val (.ref a1)] [(.int (0 : Int32))]))
  refine gGoto Xt2 hx (hb hby d_jdk_42_method_152_10) (pc' := 14) (by decide) (by decide) ?_
  show Goes p e below _ (Tt2.setTop (mkF m 14 #[.val (.ref a1)] [(.int (0 : Int32))]))
  exact goRetN Xt2 hx (t := .byte) hret hlocks (by simp) (hb hby d_jdk_42_method_152_14) (z' := (0 : Int32)) rfl (by decide) (by decide) et2 (⟨rfl, N0, rfl⟩)
theorem ef_rmXl30 (m : MethodId) (x0 : Addr) : entryFrame m #[(.ref x0)] 1 = mkF m 0 #[.val (.ref x0)] [] := by first | (simp [entryFrame, mkF, argsToLocals, Value.category]; done) | rfl
set_option maxRecDepth 65536 in
set_option maxHeartbeats 40000000 in
theorem rmXl30 (l : Launch) (Z : State) (a0 : Array Value) (hw : ∀ d ∈ tables_1, d.before a0 Z = true) (u : Addr) (cs : Int32) (c0 c1 c2 : Int32) (a1 : Addr) (h0 : Heap) (O0 : Ext Z.heap h0) (S_cs : Sta Z Z.heap "java/lang/String" "COMPACT_STRINGS" "Z" (.int cs)) (hcs : ¬ cs = 0) (E1 : Exa Z h0 a1 "java/lang/String") (V1 : Fld Z h0 a1 "java/lang/String" "value" "[B" (.ref u)) (C1 : Fld Z h0 a1 "java/lang/String" "coder" "B" (.int (0 : Int32))) (Y1 : Ary Z h0 u .byte [(.int (c0.toInt8.toInt32)), (.int (c1.toInt8.toInt32)), (.int (c2.toInt8.toInt32))]) :
    Ctr l Z (⟨"java/lang/String", "length", "()I"⟩ : MethodName) jdk_42_method_54_code 1 (some .int) [] ({ frames := 1, cells := 0, slots := 0, locals := 13 } : Room) #[(.ref a1)] h0 (fun v h L => v = some (.int (3 : Int32)) ∧ Fr Z.heap.size L ∧ h = h0) := by
  refine ctr (plainFor_of_name pn_1) ?_
  intro p e s m below meth c s₁ hx hby hml hown hnm hret hlocks hZ X0 e0
  have N0 := Fr.nil Z.heap.size
  have hsz : ∀ {Ls : Array Slot}, Ls.size = 1 → Ls.size = c.maxLocals := fun q => q.trans hml.symm
  refine goE (ef_rmXl30 m (a1)) ?_
  show Goes p e below _ (s₁.setTop (mkF m 0 #[.val (.ref a1)] []))
  refine gAloadN X0 hx (hb hby d_jdk_42_method_54_0) rfl rfl ?_
  obtain ⟨Tt1, Xt1, et1, stt1⟩ := getF X0 hx hZ hown (host := "") (Or.inl (hw _ (List.mem_of_getElem? (i := 28) rfl))) Via.refl e0 V1 (g := (mkF m 1 #[.val (.ref a1)] [(.ref a1)])) rfl rfl (hb hby d_jdk_42_method_54_1)
  refine go stt1 ?_
  show Goes p e below _ (Tt1.setTop (mkF m 4 #[.val (.ref a1)] [(.ref u)]))
  refine goAlen Xt1 hx hZ et1 Y1 (n := (3 : Int32)) (hb hby d_jdk_42_method_54_4) rfl ?_
  refine gAloadN Xt1 hx (hb hby d_jdk_42_method_54_5) rfl rfl ?_
  refine goCallV Xt1 hx hZ hown (hw _ (List.mem_of_getElem? (i := 58) rfl)) (hw _ (List.mem_of_getElem? (i := 59) rfl)) (hw _ (List.mem_of_getElem? (i := 61) rfl)) (hw _ (List.mem_of_getElem? (i := 60) rfl)) (hw _ (List.mem_of_getElem? (i := 10) rfl)) (hw _ (List.mem_of_getElem? (i := 62) rfl)) (by decide) (rmXc30 l Z a0 hw u cs c0 c1 c2 a1 h0 O0 S_cs hcs E1 V1 C1 Y1) 1 (by decide) (by decide) et1 E1 (hsz rfl) [] [(.int (3 : Int32))] pd_3 rfl rfl rfl (Nat.le_of_eq rfl) (hb hby d_jdk_42_method_54_6) (by decide) (by decide) (fun Tt2 vt2 Lt2 Xt2 qt2 => ?_)
  obtain ⟨rfl, N3, et2⟩ := qt2
  have N4 := Fr.app N0 N3
  show Goes p e below _ (Tt2.setTop (mkF m 9 #[.val (.ref a1)] [(.int (0 : Int32)), (.int (3 : Int32))]))
  refine gIshr Xt2 hx (hb hby d_jdk_42_method_54_9) ?_
  exact goRetI Xt2 hx hret hlocks (hb hby d_jdk_42_method_54_10) (by decide) (by decide) et2 (⟨congrArg (fun z => some (Value.int z)) (by decide), N4, rfl⟩)
theorem ef_rmXi30 (m : MethodId) (x0 : Addr) : entryFrame m #[(.ref x0)] 1 = mkF m 0 #[.val (.ref x0)] [] := by first | (simp [entryFrame, mkF, argsToLocals, Value.category]; done) | rfl
set_option maxRecDepth 65536 in
set_option maxHeartbeats 40000000 in
theorem rmXi30 (l : Launch) (Z : State) (a0 : Array Value) (hw : ∀ d ∈ tables_1, d.before a0 Z = true) (u : Addr) (cs : Int32) (c0 c1 c2 : Int32) (a1 : Addr) (h0 : Heap) (O0 : Ext Z.heap h0) (S_cs : Sta Z Z.heap "java/lang/String" "COMPACT_STRINGS" "Z" (.int cs)) (hcs : ¬ cs = 0) (E1 : Exa Z h0 a1 "java/lang/String") (V1 : Fld Z h0 a1 "java/lang/String" "value" "[B" (.ref u)) (C1 : Fld Z h0 a1 "java/lang/String" "coder" "B" (.int (0 : Int32))) (Y1 : Ary Z h0 u .byte [(.int (c0.toInt8.toInt32)), (.int (c1.toInt8.toInt32)), (.int (c2.toInt8.toInt32))]) :
    Ctr l Z (⟨"java/lang/String", "isLatin1", "()Z"⟩ : MethodName) jdk_42_method_154_code 1 (some .boolean) [] ({ frames := 0, cells := 0, slots := 0, locals := 0 } : Room) #[(.ref a1)] h0 (fun v h L => v = some (.int (1 : Int32)) ∧ Fr Z.heap.size L ∧ h = h0) := by
  refine ctr (plainFor_of_name pn_1) ?_
  intro p e s m below meth c s₁ hx hby hml hown hnm hret hlocks hZ X0 e0
  have N0 := Fr.nil Z.heap.size
  have hsz : ∀ {Ls : Array Slot}, Ls.size = 1 → Ls.size = c.maxLocals := fun q => q.trans hml.symm
  refine goE (ef_rmXi30 m (a1)) ?_
  show Goes p e below _ (s₁.setTop (mkF m 0 #[.val (.ref a1)] []))
  obtain ⟨Tt1, Xt1, et1, stt1⟩ := getS2 X0 hx hZ hown (host := "") (Or.inl (hw _ (List.mem_of_getElem? (i := 39) rfl))) Via.refl e0 (S_cs.ext O0) (g := (mkF m 0 #[.val (.ref a1)] [])) rfl (hb hby d_jdk_42_method_154_0)
  refine go stt1 ?_
  show Goes p e below _ (Tt1.setTop (mkF m 3 #[.val (.ref a1)] [(.int cs)]))
  refine gIfN Xt1 hx (hb hby d_jdk_42_method_154_3) (XT.i0_eq_f hcs) ?_
  show Goes p e below _ (Tt1.setTop (mkF m 6 #[.val (.ref a1)] []))
  refine gAloadN Xt1 hx (hb hby d_jdk_42_method_154_6) rfl rfl ?_
  obtain ⟨Tt2, Xt2, et2, stt2⟩ := getF Xt1 hx hZ hown (host := "") (Or.inl (hw _ (List.mem_of_getElem? (i := 29) rfl))) Via.refl et1 C1 (g := (mkF m 7 #[.val (.ref a1)] [(.ref a1)])) rfl rfl (hb hby d_jdk_42_method_154_7)
  refine go stt2 ?_
  show Goes p e below _ (Tt2.setTop (mkF m 10 #[.val (.ref a1)] [(.int (0 : Int32))]))
  refine gIfN Xt2 hx (hb hby d_jdk_42_method_154_10) (XT.i0_ne_f (by decide)) ?_
  show Goes p e below _ (Tt2.setTop (mkF m 13 #[.val (.ref a1)] []))
  refine gIconst Xt2 hx (hb hby d_jdk_42_method_154_13) (v := (1 : Int32)) rfl ?_
  refine gGoto Xt2 hx (hb hby d_jdk_42_method_154_14) (pc' := 18) (by decide) (by decide) ?_
  show Goes p e below _ (Tt2.setTop (mkF m 18 #[.val (.ref a1)] [(.int (1 : Int32))]))
  exact goRetN Xt2 hx (t := .boolean) hret hlocks (by simp) (hb hby d_jdk_42_method_154_18) (z' := (1 : Int32)) rfl (by decide) (by decide) et2 (⟨rfl, N0, rfl⟩)
theorem ef_rmLc30 (m : MethodId) (x0 : Addr) (x1 : Int32) : entryFrame m #[(.ref x0), (.int x1)] 2 = mkF m 0 #[.val (.ref x0), .val (.int x1)] [] := by first | (simp [entryFrame, mkF, argsToLocals, Value.category]; done) | rfl
set_option maxRecDepth 65536 in
set_option maxHeartbeats 40000000 in
theorem rmLc30 (l : Launch) (Z : State) (a0 : Array Value) (hw : ∀ d ∈ tables_1, d.before a0 Z = true) (fm : Value) (c0 c1 c2 : Int32) (u : Addr) (h0 : Heap) (O0 : Ext Z.heap h0) (S_fm : Sta Z Z.heap "jdk/internal/util/Preconditions" "SIOOBE_FORMATTER" "Ljava/util/function/BiFunction;" fm) (rf : fm.isRef = true) (Y1 : Ary Z h0 u .byte [(.int (c0.toInt8.toInt32)), (.int (c1.toInt8.toInt32)), (.int (c2.toInt8.toInt32))]) (g0 : ¬ c0 < 0) (g1 : ¬ (255 : Int32) < c0) :
    Ctr l Z (⟨"java/lang/StringLatin1", "charAt", "([BI)C"⟩ : MethodName) jdk_43_method_2_code 2 (some .char) [] ({ frames := 2, cells := 0, slots := 0, locals := 27 } : Room) #[(.ref u), (.int (0 : Int32))] h0 (fun v h L => v = some (.int c0) ∧ Fr Z.heap.size L ∧ h = h0) := by
  refine ctr (plainFor_of_name pn_0) ?_
  intro p e s m below meth c s₁ hx hby hml hown hnm hret hlocks hZ X0 e0
  have N0 := Fr.nil Z.heap.size
  have hsz : ∀ {Ls : Array Slot}, Ls.size = 2 → Ls.size = c.maxLocals := fun q => q.trans hml.symm
  refine goE (ef_rmLc30 m (u) ((0 : Int32))) ?_
  show Goes p e below _ (s₁.setTop (mkF m 0 #[.val (.ref u), .val (.int (0 : Int32))] []))
  refine gIloadN X0 hx (hb hby d_jdk_43_method_2_0) rfl ?_
  refine gAloadN X0 hx (hb hby d_jdk_43_method_2_1) rfl rfl ?_
  refine goAlen X0 hx hZ e0 Y1 (n := (3 : Int32)) (hb hby d_jdk_43_method_2_2) rfl ?_
  refine goCallS X0 hx hZ hown (hw _ (List.mem_of_getElem? (i := 77) rfl)) (hw _ (List.mem_of_getElem? (i := 78) rfl)) (hw _ (List.mem_of_getElem? (i := 10) rfl)) (hw _ (List.mem_of_getElem? (i := 79) rfl)) (by decide) (rmCk l Z a0 hw fm (0 : Int32) (3 : Int32) h0 O0 S_fm rf (by decide) (by decide)) 0 (by decide) (by decide) e0 (hsz rfl) [(.int (0 : Int32)), (.int (3 : Int32))] [] pd_16 rfl rfl rfl (Nat.le_of_eq rfl) (hb hby d_jdk_43_method_2_3) (by decide) (by decide) (fun Tt1 vt1 Lt1 Xt1 qt1 => ?_)
  obtain ⟨rfl, N2, et1⟩ := qt1
  have N3 := Fr.app N0 N2
  show Goes p e below _ (Tt1.setTop (mkF m 6 #[.val (.ref u), .val (.int (0 : Int32))] []))
  refine gAloadN Xt1 hx (hb hby d_jdk_43_method_2_6) rfl rfl ?_
  refine gIloadN Xt1 hx (hb hby d_jdk_43_method_2_7) rfl ?_
  refine goBaload Xt1 hx hZ et1 Y1 (x := (c0.toInt8.toInt32)) (hb hby d_jdk_43_method_2_8) (by decide) rfl ?_
  refine gSipush Xt1 hx (hb hby d_jdk_43_method_2_9) (v := (255 : Int32)) rfl ?_
  refine gIand Xt1 hx (hb hby d_jdk_43_method_2_12) ?_
  refine gI2c Xt1 hx (hb hby d_jdk_43_method_2_13) ?_
  exact goRetN Xt1 hx (t := .char) hret hlocks (by simp) (hb hby d_jdk_43_method_2_14) (z' := c0) ((narc _).trans (own_lc g0 g1)) (by decide) (by decide) et1 (⟨rfl, N3, rfl⟩)
theorem ef_rmXa300 (m : MethodId) (x0 : Addr) (x1 : Int32) : entryFrame m #[(.ref x0), (.int x1)] 2 = mkF m 0 #[.val (.ref x0), .val (.int x1)] [] := by first | (simp [entryFrame, mkF, argsToLocals, Value.category]; done) | rfl
set_option maxRecDepth 65536 in
set_option maxHeartbeats 40000000 in
theorem rmXa300 (l : Launch) (Z : State) (a0 : Array Value) (hw : ∀ d ∈ tables_1, d.before a0 Z = true) (fm : Value) (u : Addr) (cs : Int32) (c0 c1 c2 : Int32) (a1 : Addr) (h0 : Heap) (O0 : Ext Z.heap h0) (S_cs : Sta Z Z.heap "java/lang/String" "COMPACT_STRINGS" "Z" (.int cs)) (hcs : ¬ cs = 0) (E1 : Exa Z h0 a1 "java/lang/String") (V1 : Fld Z h0 a1 "java/lang/String" "value" "[B" (.ref u)) (C1 : Fld Z h0 a1 "java/lang/String" "coder" "B" (.int (0 : Int32))) (Y1 : Ary Z h0 u .byte [(.int (c0.toInt8.toInt32)), (.int (c1.toInt8.toInt32)), (.int (c2.toInt8.toInt32))]) (S_fm : Sta Z Z.heap "jdk/internal/util/Preconditions" "SIOOBE_FORMATTER" "Ljava/util/function/BiFunction;" fm) (rf : fm.isRef = true) (g0 : ¬ c0 < 0) (g1 : ¬ (255 : Int32) < c0) (nc : nar .char c0 = c0) :
    Ctr l Z (⟨"java/lang/String", "charAt", "(I)C"⟩ : MethodName) jdk_42_method_56_code 2 (some .char) [] ({ frames := 4, cells := 0, slots := 0, locals := 53 } : Room) #[(.ref a1), (.int (0 : Int32))] h0 (fun v h L => v = some (.int c0) ∧ Fr Z.heap.size L ∧ h = h0) := by
  refine ctr (plainFor_of_name pn_1) ?_
  intro p e s m below meth c s₁ hx hby hml hown hnm hret hlocks hZ X0 e0
  have N0 := Fr.nil Z.heap.size
  have hsz : ∀ {Ls : Array Slot}, Ls.size = 2 → Ls.size = c.maxLocals := fun q => q.trans hml.symm
  refine goE (ef_rmXa300 m (a1) ((0 : Int32))) ?_
  show Goes p e below _ (s₁.setTop (mkF m 0 #[.val (.ref a1), .val (.int (0 : Int32))] []))
  refine gAloadN X0 hx (hb hby d_jdk_42_method_56_0) rfl rfl ?_
  refine goCallV X0 hx hZ hown (hw _ (List.mem_of_getElem? (i := 68) rfl)) (hw _ (List.mem_of_getElem? (i := 69) rfl)) (hw _ (List.mem_of_getElem? (i := 71) rfl)) (hw _ (List.mem_of_getElem? (i := 70) rfl)) (hw _ (List.mem_of_getElem? (i := 10) rfl)) (hw _ (List.mem_of_getElem? (i := 72) rfl)) (by decide) (rmXi30 l Z a0 hw u cs c0 c1 c2 a1 h0 O0 S_cs hcs E1 V1 C1 Y1) 0 (by decide) (by decide) e0 E1 (hsz rfl) [] [] pd_4 rfl rfl rfl (Nat.le_of_eq rfl) (hb hby d_jdk_42_method_56_1) (by decide) (by decide) (fun Tt1 vt1 Lt1 Xt1 qt1 => ?_)
  obtain ⟨rfl, N2, et1⟩ := qt1
  have N3 := Fr.app N0 N2
  show Goes p e below _ (Tt1.setTop (mkF m 4 #[.val (.ref a1), .val (.int (0 : Int32))] [(.int (1 : Int32))]))
  refine gIfN Xt1 hx (hb hby d_jdk_42_method_56_4) (XT.i0_eq_f (by decide)) ?_
  show Goes p e below _ (Tt1.setTop (mkF m 7 #[.val (.ref a1), .val (.int (0 : Int32))] []))
  refine gAloadN Xt1 hx (hb hby d_jdk_42_method_56_7) rfl rfl ?_
  obtain ⟨Tt4, Xt4, et4, stt4⟩ := getF Xt1 hx hZ hown (host := "") (Or.inl (hw _ (List.mem_of_getElem? (i := 28) rfl))) Via.refl et1 V1 (g := (mkF m 8 #[.val (.ref a1), .val (.int (0 : Int32))] [(.ref a1)])) rfl rfl (hb hby d_jdk_42_method_56_8)
  refine go stt4 ?_
  show Goes p e below _ (Tt4.setTop (mkF m 11 #[.val (.ref a1), .val (.int (0 : Int32))] [(.ref u)]))
  refine gIloadN Xt4 hx (hb hby d_jdk_42_method_56_11) rfl ?_
  refine goCallS Xt4 hx hZ hown (hw _ (List.mem_of_getElem? (i := 73) rfl)) (hw _ (List.mem_of_getElem? (i := 74) rfl)) (hw _ (List.mem_of_getElem? (i := 75) rfl)) (hw _ (List.mem_of_getElem? (i := 76) rfl)) (by decide) (rmLc30 l Z a0 hw fm c0 c1 c2 u h0 O0 S_fm rf Y1 g0 g1) 0 (by decide) (by decide) et4 (hsz rfl) [(.ref u), (.int (0 : Int32))] [] pd_12 rfl rfl rfl (Nat.le_of_eq rfl) (hb hby d_jdk_42_method_56_12) (by decide) (by decide) (fun Tt5 vt5 Lt5 Xt5 qt5 => ?_)
  obtain ⟨rfl, N6, et5⟩ := qt5
  have N7 := Fr.app N3 N6
  show Goes p e below _ (Tt5.setTop (mkF m 15 #[.val (.ref a1), .val (.int (0 : Int32))] [(.int c0)]))
  exact goRetN Xt5 hx (t := .char) hret hlocks (by simp) (hb hby d_jdk_42_method_56_15) (z' := c0) nc (by decide) (by decide) et5 (⟨rfl, N7, rfl⟩)
theorem ef_rmLc31 (m : MethodId) (x0 : Addr) (x1 : Int32) : entryFrame m #[(.ref x0), (.int x1)] 2 = mkF m 0 #[.val (.ref x0), .val (.int x1)] [] := by first | (simp [entryFrame, mkF, argsToLocals, Value.category]; done) | rfl
set_option maxRecDepth 65536 in
set_option maxHeartbeats 40000000 in
theorem rmLc31 (l : Launch) (Z : State) (a0 : Array Value) (hw : ∀ d ∈ tables_1, d.before a0 Z = true) (fm : Value) (c0 c1 c2 : Int32) (u : Addr) (h0 : Heap) (O0 : Ext Z.heap h0) (S_fm : Sta Z Z.heap "jdk/internal/util/Preconditions" "SIOOBE_FORMATTER" "Ljava/util/function/BiFunction;" fm) (rf : fm.isRef = true) (Y1 : Ary Z h0 u .byte [(.int (c0.toInt8.toInt32)), (.int (c1.toInt8.toInt32)), (.int (c2.toInt8.toInt32))]) (g0 : ¬ c1 < 0) (g1 : ¬ (255 : Int32) < c1) :
    Ctr l Z (⟨"java/lang/StringLatin1", "charAt", "([BI)C"⟩ : MethodName) jdk_43_method_2_code 2 (some .char) [] ({ frames := 2, cells := 0, slots := 0, locals := 27 } : Room) #[(.ref u), (.int (1 : Int32))] h0 (fun v h L => v = some (.int c1) ∧ Fr Z.heap.size L ∧ h = h0) := by
  refine ctr (plainFor_of_name pn_0) ?_
  intro p e s m below meth c s₁ hx hby hml hown hnm hret hlocks hZ X0 e0
  have N0 := Fr.nil Z.heap.size
  have hsz : ∀ {Ls : Array Slot}, Ls.size = 2 → Ls.size = c.maxLocals := fun q => q.trans hml.symm
  refine goE (ef_rmLc31 m (u) ((1 : Int32))) ?_
  show Goes p e below _ (s₁.setTop (mkF m 0 #[.val (.ref u), .val (.int (1 : Int32))] []))
  refine gIloadN X0 hx (hb hby d_jdk_43_method_2_0) rfl ?_
  refine gAloadN X0 hx (hb hby d_jdk_43_method_2_1) rfl rfl ?_
  refine goAlen X0 hx hZ e0 Y1 (n := (3 : Int32)) (hb hby d_jdk_43_method_2_2) rfl ?_
  refine goCallS X0 hx hZ hown (hw _ (List.mem_of_getElem? (i := 77) rfl)) (hw _ (List.mem_of_getElem? (i := 78) rfl)) (hw _ (List.mem_of_getElem? (i := 10) rfl)) (hw _ (List.mem_of_getElem? (i := 79) rfl)) (by decide) (rmCk l Z a0 hw fm (1 : Int32) (3 : Int32) h0 O0 S_fm rf (by decide) (by decide)) 0 (by decide) (by decide) e0 (hsz rfl) [(.int (1 : Int32)), (.int (3 : Int32))] [] pd_16 rfl rfl rfl (Nat.le_of_eq rfl) (hb hby d_jdk_43_method_2_3) (by decide) (by decide) (fun Tt1 vt1 Lt1 Xt1 qt1 => ?_)
  obtain ⟨rfl, N2, et1⟩ := qt1
  have N3 := Fr.app N0 N2
  show Goes p e below _ (Tt1.setTop (mkF m 6 #[.val (.ref u), .val (.int (1 : Int32))] []))
  refine gAloadN Xt1 hx (hb hby d_jdk_43_method_2_6) rfl rfl ?_
  refine gIloadN Xt1 hx (hb hby d_jdk_43_method_2_7) rfl ?_
  refine goBaload Xt1 hx hZ et1 Y1 (x := (c1.toInt8.toInt32)) (hb hby d_jdk_43_method_2_8) (by decide) rfl ?_
  refine gSipush Xt1 hx (hb hby d_jdk_43_method_2_9) (v := (255 : Int32)) rfl ?_
  refine gIand Xt1 hx (hb hby d_jdk_43_method_2_12) ?_
  refine gI2c Xt1 hx (hb hby d_jdk_43_method_2_13) ?_
  exact goRetN Xt1 hx (t := .char) hret hlocks (by simp) (hb hby d_jdk_43_method_2_14) (z' := c1) ((narc _).trans (own_lc g0 g1)) (by decide) (by decide) et1 (⟨rfl, N3, rfl⟩)
theorem ef_rmXa301 (m : MethodId) (x0 : Addr) (x1 : Int32) : entryFrame m #[(.ref x0), (.int x1)] 2 = mkF m 0 #[.val (.ref x0), .val (.int x1)] [] := by first | (simp [entryFrame, mkF, argsToLocals, Value.category]; done) | rfl
set_option maxRecDepth 65536 in
set_option maxHeartbeats 40000000 in
theorem rmXa301 (l : Launch) (Z : State) (a0 : Array Value) (hw : ∀ d ∈ tables_1, d.before a0 Z = true) (fm : Value) (u : Addr) (cs : Int32) (c0 c1 c2 : Int32) (a1 : Addr) (h0 : Heap) (O0 : Ext Z.heap h0) (S_cs : Sta Z Z.heap "java/lang/String" "COMPACT_STRINGS" "Z" (.int cs)) (hcs : ¬ cs = 0) (E1 : Exa Z h0 a1 "java/lang/String") (V1 : Fld Z h0 a1 "java/lang/String" "value" "[B" (.ref u)) (C1 : Fld Z h0 a1 "java/lang/String" "coder" "B" (.int (0 : Int32))) (Y1 : Ary Z h0 u .byte [(.int (c0.toInt8.toInt32)), (.int (c1.toInt8.toInt32)), (.int (c2.toInt8.toInt32))]) (S_fm : Sta Z Z.heap "jdk/internal/util/Preconditions" "SIOOBE_FORMATTER" "Ljava/util/function/BiFunction;" fm) (rf : fm.isRef = true) (g0 : ¬ c1 < 0) (g1 : ¬ (255 : Int32) < c1) (nc : nar .char c1 = c1) :
    Ctr l Z (⟨"java/lang/String", "charAt", "(I)C"⟩ : MethodName) jdk_42_method_56_code 2 (some .char) [] ({ frames := 4, cells := 0, slots := 0, locals := 53 } : Room) #[(.ref a1), (.int (1 : Int32))] h0 (fun v h L => v = some (.int c1) ∧ Fr Z.heap.size L ∧ h = h0) := by
  refine ctr (plainFor_of_name pn_1) ?_
  intro p e s m below meth c s₁ hx hby hml hown hnm hret hlocks hZ X0 e0
  have N0 := Fr.nil Z.heap.size
  have hsz : ∀ {Ls : Array Slot}, Ls.size = 2 → Ls.size = c.maxLocals := fun q => q.trans hml.symm
  refine goE (ef_rmXa301 m (a1) ((1 : Int32))) ?_
  show Goes p e below _ (s₁.setTop (mkF m 0 #[.val (.ref a1), .val (.int (1 : Int32))] []))
  refine gAloadN X0 hx (hb hby d_jdk_42_method_56_0) rfl rfl ?_
  refine goCallV X0 hx hZ hown (hw _ (List.mem_of_getElem? (i := 68) rfl)) (hw _ (List.mem_of_getElem? (i := 69) rfl)) (hw _ (List.mem_of_getElem? (i := 71) rfl)) (hw _ (List.mem_of_getElem? (i := 70) rfl)) (hw _ (List.mem_of_getElem? (i := 10) rfl)) (hw _ (List.mem_of_getElem? (i := 72) rfl)) (by decide) (rmXi30 l Z a0 hw u cs c0 c1 c2 a1 h0 O0 S_cs hcs E1 V1 C1 Y1) 0 (by decide) (by decide) e0 E1 (hsz rfl) [] [] pd_4 rfl rfl rfl (Nat.le_of_eq rfl) (hb hby d_jdk_42_method_56_1) (by decide) (by decide) (fun Tt1 vt1 Lt1 Xt1 qt1 => ?_)
  obtain ⟨rfl, N2, et1⟩ := qt1
  have N3 := Fr.app N0 N2
  show Goes p e below _ (Tt1.setTop (mkF m 4 #[.val (.ref a1), .val (.int (1 : Int32))] [(.int (1 : Int32))]))
  refine gIfN Xt1 hx (hb hby d_jdk_42_method_56_4) (XT.i0_eq_f (by decide)) ?_
  show Goes p e below _ (Tt1.setTop (mkF m 7 #[.val (.ref a1), .val (.int (1 : Int32))] []))
  refine gAloadN Xt1 hx (hb hby d_jdk_42_method_56_7) rfl rfl ?_
  obtain ⟨Tt4, Xt4, et4, stt4⟩ := getF Xt1 hx hZ hown (host := "") (Or.inl (hw _ (List.mem_of_getElem? (i := 28) rfl))) Via.refl et1 V1 (g := (mkF m 8 #[.val (.ref a1), .val (.int (1 : Int32))] [(.ref a1)])) rfl rfl (hb hby d_jdk_42_method_56_8)
  refine go stt4 ?_
  show Goes p e below _ (Tt4.setTop (mkF m 11 #[.val (.ref a1), .val (.int (1 : Int32))] [(.ref u)]))
  refine gIloadN Xt4 hx (hb hby d_jdk_42_method_56_11) rfl ?_
  refine goCallS Xt4 hx hZ hown (hw _ (List.mem_of_getElem? (i := 73) rfl)) (hw _ (List.mem_of_getElem? (i := 74) rfl)) (hw _ (List.mem_of_getElem? (i := 75) rfl)) (hw _ (List.mem_of_getElem? (i := 76) rfl)) (by decide) (rmLc31 l Z a0 hw fm c0 c1 c2 u h0 O0 S_fm rf Y1 g0 g1) 0 (by decide) (by decide) et4 (hsz rfl) [(.ref u), (.int (1 : Int32))] [] pd_12 rfl rfl rfl (Nat.le_of_eq rfl) (hb hby d_jdk_42_method_56_12) (by decide) (by decide) (fun Tt5 vt5 Lt5 Xt5 qt5 => ?_)
  obtain ⟨rfl, N6, et5⟩ := qt5
  have N7 := Fr.app N3 N6
  show Goes p e below _ (Tt5.setTop (mkF m 15 #[.val (.ref a1), .val (.int (1 : Int32))] [(.int c1)]))
  exact goRetN Xt5 hx (t := .char) hret hlocks (by simp) (hb hby d_jdk_42_method_56_15) (z' := c1) nc (by decide) (by decide) et5 (⟨rfl, N7, rfl⟩)
theorem ef_rmLc32 (m : MethodId) (x0 : Addr) (x1 : Int32) : entryFrame m #[(.ref x0), (.int x1)] 2 = mkF m 0 #[.val (.ref x0), .val (.int x1)] [] := by first | (simp [entryFrame, mkF, argsToLocals, Value.category]; done) | rfl
set_option maxRecDepth 65536 in
set_option maxHeartbeats 40000000 in
theorem rmLc32 (l : Launch) (Z : State) (a0 : Array Value) (hw : ∀ d ∈ tables_1, d.before a0 Z = true) (fm : Value) (c0 c1 c2 : Int32) (u : Addr) (h0 : Heap) (O0 : Ext Z.heap h0) (S_fm : Sta Z Z.heap "jdk/internal/util/Preconditions" "SIOOBE_FORMATTER" "Ljava/util/function/BiFunction;" fm) (rf : fm.isRef = true) (Y1 : Ary Z h0 u .byte [(.int (c0.toInt8.toInt32)), (.int (c1.toInt8.toInt32)), (.int (c2.toInt8.toInt32))]) (g0 : ¬ c2 < 0) (g1 : ¬ (255 : Int32) < c2) :
    Ctr l Z (⟨"java/lang/StringLatin1", "charAt", "([BI)C"⟩ : MethodName) jdk_43_method_2_code 2 (some .char) [] ({ frames := 2, cells := 0, slots := 0, locals := 27 } : Room) #[(.ref u), (.int (2 : Int32))] h0 (fun v h L => v = some (.int c2) ∧ Fr Z.heap.size L ∧ h = h0) := by
  refine ctr (plainFor_of_name pn_0) ?_
  intro p e s m below meth c s₁ hx hby hml hown hnm hret hlocks hZ X0 e0
  have N0 := Fr.nil Z.heap.size
  have hsz : ∀ {Ls : Array Slot}, Ls.size = 2 → Ls.size = c.maxLocals := fun q => q.trans hml.symm
  refine goE (ef_rmLc32 m (u) ((2 : Int32))) ?_
  show Goes p e below _ (s₁.setTop (mkF m 0 #[.val (.ref u), .val (.int (2 : Int32))] []))
  refine gIloadN X0 hx (hb hby d_jdk_43_method_2_0) rfl ?_
  refine gAloadN X0 hx (hb hby d_jdk_43_method_2_1) rfl rfl ?_
  refine goAlen X0 hx hZ e0 Y1 (n := (3 : Int32)) (hb hby d_jdk_43_method_2_2) rfl ?_
  refine goCallS X0 hx hZ hown (hw _ (List.mem_of_getElem? (i := 77) rfl)) (hw _ (List.mem_of_getElem? (i := 78) rfl)) (hw _ (List.mem_of_getElem? (i := 10) rfl)) (hw _ (List.mem_of_getElem? (i := 79) rfl)) (by decide) (rmCk l Z a0 hw fm (2 : Int32) (3 : Int32) h0 O0 S_fm rf (by decide) (by decide)) 0 (by decide) (by decide) e0 (hsz rfl) [(.int (2 : Int32)), (.int (3 : Int32))] [] pd_16 rfl rfl rfl (Nat.le_of_eq rfl) (hb hby d_jdk_43_method_2_3) (by decide) (by decide) (fun Tt1 vt1 Lt1 Xt1 qt1 => ?_)
  obtain ⟨rfl, N2, et1⟩ := qt1
  have N3 := Fr.app N0 N2
  show Goes p e below _ (Tt1.setTop (mkF m 6 #[.val (.ref u), .val (.int (2 : Int32))] []))
  refine gAloadN Xt1 hx (hb hby d_jdk_43_method_2_6) rfl rfl ?_
  refine gIloadN Xt1 hx (hb hby d_jdk_43_method_2_7) rfl ?_
  refine goBaload Xt1 hx hZ et1 Y1 (x := (c2.toInt8.toInt32)) (hb hby d_jdk_43_method_2_8) (by decide) rfl ?_
  refine gSipush Xt1 hx (hb hby d_jdk_43_method_2_9) (v := (255 : Int32)) rfl ?_
  refine gIand Xt1 hx (hb hby d_jdk_43_method_2_12) ?_
  refine gI2c Xt1 hx (hb hby d_jdk_43_method_2_13) ?_
  exact goRetN Xt1 hx (t := .char) hret hlocks (by simp) (hb hby d_jdk_43_method_2_14) (z' := c2) ((narc _).trans (own_lc g0 g1)) (by decide) (by decide) et1 (⟨rfl, N3, rfl⟩)
theorem ef_rmXa302 (m : MethodId) (x0 : Addr) (x1 : Int32) : entryFrame m #[(.ref x0), (.int x1)] 2 = mkF m 0 #[.val (.ref x0), .val (.int x1)] [] := by first | (simp [entryFrame, mkF, argsToLocals, Value.category]; done) | rfl
set_option maxRecDepth 65536 in
set_option maxHeartbeats 40000000 in
theorem rmXa302 (l : Launch) (Z : State) (a0 : Array Value) (hw : ∀ d ∈ tables_1, d.before a0 Z = true) (fm : Value) (u : Addr) (cs : Int32) (c0 c1 c2 : Int32) (a1 : Addr) (h0 : Heap) (O0 : Ext Z.heap h0) (S_cs : Sta Z Z.heap "java/lang/String" "COMPACT_STRINGS" "Z" (.int cs)) (hcs : ¬ cs = 0) (E1 : Exa Z h0 a1 "java/lang/String") (V1 : Fld Z h0 a1 "java/lang/String" "value" "[B" (.ref u)) (C1 : Fld Z h0 a1 "java/lang/String" "coder" "B" (.int (0 : Int32))) (Y1 : Ary Z h0 u .byte [(.int (c0.toInt8.toInt32)), (.int (c1.toInt8.toInt32)), (.int (c2.toInt8.toInt32))]) (S_fm : Sta Z Z.heap "jdk/internal/util/Preconditions" "SIOOBE_FORMATTER" "Ljava/util/function/BiFunction;" fm) (rf : fm.isRef = true) (g0 : ¬ c2 < 0) (g1 : ¬ (255 : Int32) < c2) (nc : nar .char c2 = c2) :
    Ctr l Z (⟨"java/lang/String", "charAt", "(I)C"⟩ : MethodName) jdk_42_method_56_code 2 (some .char) [] ({ frames := 4, cells := 0, slots := 0, locals := 53 } : Room) #[(.ref a1), (.int (2 : Int32))] h0 (fun v h L => v = some (.int c2) ∧ Fr Z.heap.size L ∧ h = h0) := by
  refine ctr (plainFor_of_name pn_1) ?_
  intro p e s m below meth c s₁ hx hby hml hown hnm hret hlocks hZ X0 e0
  have N0 := Fr.nil Z.heap.size
  have hsz : ∀ {Ls : Array Slot}, Ls.size = 2 → Ls.size = c.maxLocals := fun q => q.trans hml.symm
  refine goE (ef_rmXa302 m (a1) ((2 : Int32))) ?_
  show Goes p e below _ (s₁.setTop (mkF m 0 #[.val (.ref a1), .val (.int (2 : Int32))] []))
  refine gAloadN X0 hx (hb hby d_jdk_42_method_56_0) rfl rfl ?_
  refine goCallV X0 hx hZ hown (hw _ (List.mem_of_getElem? (i := 68) rfl)) (hw _ (List.mem_of_getElem? (i := 69) rfl)) (hw _ (List.mem_of_getElem? (i := 71) rfl)) (hw _ (List.mem_of_getElem? (i := 70) rfl)) (hw _ (List.mem_of_getElem? (i := 10) rfl)) (hw _ (List.mem_of_getElem? (i := 72) rfl)) (by decide) (rmXi30 l Z a0 hw u cs c0 c1 c2 a1 h0 O0 S_cs hcs E1 V1 C1 Y1) 0 (by decide) (by decide) e0 E1 (hsz rfl) [] [] pd_4 rfl rfl rfl (Nat.le_of_eq rfl) (hb hby d_jdk_42_method_56_1) (by decide) (by decide) (fun Tt1 vt1 Lt1 Xt1 qt1 => ?_)
  obtain ⟨rfl, N2, et1⟩ := qt1
  have N3 := Fr.app N0 N2
  show Goes p e below _ (Tt1.setTop (mkF m 4 #[.val (.ref a1), .val (.int (2 : Int32))] [(.int (1 : Int32))]))
  refine gIfN Xt1 hx (hb hby d_jdk_42_method_56_4) (XT.i0_eq_f (by decide)) ?_
  show Goes p e below _ (Tt1.setTop (mkF m 7 #[.val (.ref a1), .val (.int (2 : Int32))] []))
  refine gAloadN Xt1 hx (hb hby d_jdk_42_method_56_7) rfl rfl ?_
  obtain ⟨Tt4, Xt4, et4, stt4⟩ := getF Xt1 hx hZ hown (host := "") (Or.inl (hw _ (List.mem_of_getElem? (i := 28) rfl))) Via.refl et1 V1 (g := (mkF m 8 #[.val (.ref a1), .val (.int (2 : Int32))] [(.ref a1)])) rfl rfl (hb hby d_jdk_42_method_56_8)
  refine go stt4 ?_
  show Goes p e below _ (Tt4.setTop (mkF m 11 #[.val (.ref a1), .val (.int (2 : Int32))] [(.ref u)]))
  refine gIloadN Xt4 hx (hb hby d_jdk_42_method_56_11) rfl ?_
  refine goCallS Xt4 hx hZ hown (hw _ (List.mem_of_getElem? (i := 73) rfl)) (hw _ (List.mem_of_getElem? (i := 74) rfl)) (hw _ (List.mem_of_getElem? (i := 75) rfl)) (hw _ (List.mem_of_getElem? (i := 76) rfl)) (by decide) (rmLc32 l Z a0 hw fm c0 c1 c2 u h0 O0 S_fm rf Y1 g0 g1) 0 (by decide) (by decide) et4 (hsz rfl) [(.ref u), (.int (2 : Int32))] [] pd_12 rfl rfl rfl (Nat.le_of_eq rfl) (hb hby d_jdk_42_method_56_12) (by decide) (by decide) (fun Tt5 vt5 Lt5 Xt5 qt5 => ?_)
  obtain ⟨rfl, N6, et5⟩ := qt5
  have N7 := Fr.app N3 N6
  show Goes p e below _ (Tt5.setTop (mkF m 15 #[.val (.ref a1), .val (.int (2 : Int32))] [(.int c2)]))
  exact goRetN Xt5 hx (t := .char) hret hlocks (by simp) (hb hby d_jdk_42_method_56_15) (z' := c2) nc (by decide) (by decide) et5 (⟨rfl, N7, rfl⟩)
theorem ef_rmXe31 (m : MethodId) (x0 : Addr) : entryFrame m #[(.ref x0)] 1 = mkF m 0 #[.val (.ref x0)] [] := by first | (simp [entryFrame, mkF, argsToLocals, Value.category]; done) | rfl
set_option maxRecDepth 65536 in
set_option maxHeartbeats 40000000 in
theorem rmXe31 (l : Launch) (Z : State) (a0 : Array Value) (hw : ∀ d ∈ tables_1, d.before a0 Z = true) (u : Addr) (cs : Int32) (c0 c1 c2 : Int32) (a1 : Addr) (h0 : Heap) (O0 : Ext Z.heap h0) (S_cs : Sta Z Z.heap "java/lang/String" "COMPACT_STRINGS" "Z" (.int cs)) (hcs : ¬ cs = 0) (E1 : Exa Z h0 a1 "java/lang/String") (V1 : Fld Z h0 a1 "java/lang/String" "value" "[B" (.ref u)) (C1 : Fld Z h0 a1 "java/lang/String" "coder" "B" (.int (1 : Int32))) (Y1 : Ary Z h0 u .byte [(.int ((c0 >>> ((0 : Int32) &&& 31)).toInt8.toInt32)), (.int ((c0 >>> ((8 : Int32) &&& 31)).toInt8.toInt32)), (.int ((c1 >>> ((0 : Int32) &&& 31)).toInt8.toInt32)), (.int ((c1 >>> ((8 : Int32) &&& 31)).toInt8.toInt32)), (.int ((c2 >>> ((0 : Int32) &&& 31)).toInt8.toInt32)), (.int ((c2 >>> ((8 : Int32) &&& 31)).toInt8.toInt32))]) :
    Ctr l Z (⟨"java/lang/String", "isEmpty", "()Z"⟩ : MethodName) jdk_42_method_55_code 1 (some .boolean) [] ({ frames := 0, cells := 0, slots := 0, locals := 0 } : Room) #[(.ref a1)] h0 (fun v h L => v = some (.int 0) ∧ Fr Z.heap.size L ∧ h = h0) := by
  refine ctr (plainFor_of_name pn_1) ?_
  intro p e s m below meth c s₁ hx hby hml hown hnm hret hlocks hZ X0 e0
  have N0 := Fr.nil Z.heap.size
  have hsz : ∀ {Ls : Array Slot}, Ls.size = 1 → Ls.size = c.maxLocals := fun q => q.trans hml.symm
  refine goE (ef_rmXe31 m (a1)) ?_
  show Goes p e below _ (s₁.setTop (mkF m 0 #[.val (.ref a1)] []))
  refine gAloadN X0 hx (hb hby d_jdk_42_method_55_0) rfl rfl ?_
  obtain ⟨Tt1, Xt1, et1, stt1⟩ := getF X0 hx hZ hown (host := "") (Or.inl (hw _ (List.mem_of_getElem? (i := 28) rfl))) Via.refl e0 V1 (g := (mkF m 1 #[.val (.ref a1)] [(.ref a1)])) rfl rfl (hb hby d_jdk_42_method_55_1)
  refine go stt1 ?_
  show Goes p e below _ (Tt1.setTop (mkF m 4 #[.val (.ref a1)] [(.ref u)]))
  refine goAlen Xt1 hx hZ et1 Y1 (n := (6 : Int32)) (hb hby d_jdk_42_method_55_4) rfl ?_
  refine gIfY Xt1 hx (hb hby d_jdk_42_method_55_5) (pc' := 12) (XT.i0_ne_t (by decide)) (by decide) (by decide) ?_
  show Goes p e below _ (Tt1.setTop (mkF m 12 #[.val (.ref a1)] []))
  refine gIconst Xt1 hx (hb hby d_jdk_42_method_55_12) (v := (0 : Int32)) rfl ?_
  exact goRetN Xt1 hx (t := .boolean) hret hlocks (by simp) (hb hby d_jdk_42_method_55_13) (z' := (0 : Int32)) rfl (by decide) (by decide) et1 (⟨rfl, N0, rfl⟩)
theorem ef_rmXc31 (m : MethodId) (x0 : Addr) : entryFrame m #[(.ref x0)] 1 = mkF m 0 #[.val (.ref x0)] [] := by first | (simp [entryFrame, mkF, argsToLocals, Value.category]; done) | rfl
set_option maxRecDepth 65536 in
set_option maxHeartbeats 40000000 in
theorem rmXc31 (l : Launch) (Z : State) (a0 : Array Value) (hw : ∀ d ∈ tables_1, d.before a0 Z = true) (u : Addr) (cs : Int32) (c0 c1 c2 : Int32) (a1 : Addr) (h0 : Heap) (O0 : Ext Z.heap h0) (S_cs : Sta Z Z.heap "java/lang/String" "COMPACT_STRINGS" "Z" (.int cs)) (hcs : ¬ cs = 0) (E1 : Exa Z h0 a1 "java/lang/String") (V1 : Fld Z h0 a1 "java/lang/String" "value" "[B" (.ref u)) (C1 : Fld Z h0 a1 "java/lang/String" "coder" "B" (.int (1 : Int32))) (Y1 : Ary Z h0 u .byte [(.int ((c0 >>> ((0 : Int32) &&& 31)).toInt8.toInt32)), (.int ((c0 >>> ((8 : Int32) &&& 31)).toInt8.toInt32)), (.int ((c1 >>> ((0 : Int32) &&& 31)).toInt8.toInt32)), (.int ((c1 >>> ((8 : Int32) &&& 31)).toInt8.toInt32)), (.int ((c2 >>> ((0 : Int32) &&& 31)).toInt8.toInt32)), (.int ((c2 >>> ((8 : Int32) &&& 31)).toInt8.toInt32))]) :
    Ctr l Z (⟨"java/lang/String", "coder", "()B"⟩ : MethodName) jdk_42_method_152_code 1 (some .byte) [] ({ frames := 0, cells := 0, slots := 0, locals := 0 } : Room) #[(.ref a1)] h0 (fun v h L => v = some (.int (1 : Int32)) ∧ Fr Z.heap.size L ∧ h = h0) := by
  refine ctr (plainFor_of_name pn_1) ?_
  intro p e s m below meth c s₁ hx hby hml hown hnm hret hlocks hZ X0 e0
  have N0 := Fr.nil Z.heap.size
  have hsz : ∀ {Ls : Array Slot}, Ls.size = 1 → Ls.size = c.maxLocals := fun q => q.trans hml.symm
  refine goE (ef_rmXc31 m (a1)) ?_
  show Goes p e below _ (s₁.setTop (mkF m 0 #[.val (.ref a1)] []))
  obtain ⟨Tt1, Xt1, et1, stt1⟩ := getS2 X0 hx hZ hown (host := "") (Or.inl (hw _ (List.mem_of_getElem? (i := 39) rfl))) Via.refl e0 (S_cs.ext O0) (g := (mkF m 0 #[.val (.ref a1)] [])) rfl (hb hby d_jdk_42_method_152_0)
  refine go stt1 ?_
  show Goes p e below _ (Tt1.setTop (mkF m 3 #[.val (.ref a1)] [(.int cs)]))
  refine gIfN Xt1 hx (hb hby d_jdk_42_method_152_3) (XT.i0_eq_f hcs) ?_
  show Goes p e below _ (Tt1.setTop (mkF m 6 #[.val (.ref a1)] []))
  refine gAloadN Xt1 hx (hb hby d_jdk_42_method_152_6) rfl rfl ?_
  obtain ⟨Tt2, Xt2, et2, stt2⟩ := getF Xt1 hx hZ hown (host := "") (Or.inl (hw _ (List.mem_of_getElem? (i := 29) rfl))) Via.refl et1 C1 (g := (mkF m 7 #[.val (.ref a1)] [(.ref a1)])) rfl rfl (hb hby d_jdk_42_method_152_7)
  refine go stt2 ?_
  show Goes p e below _ (Tt2.setTop (mkF m 10 #[.val (.ref a1)] [(.int (1 : Int32))]))
  refine gGoto Xt2 hx (hb hby d_jdk_42_method_152_10) (pc' := 14) (by decide) (by decide) ?_
  show Goes p e below _ (Tt2.setTop (mkF m 14 #[.val (.ref a1)] [(.int (1 : Int32))]))
  exact goRetN Xt2 hx (t := .byte) hret hlocks (by simp) (hb hby d_jdk_42_method_152_14) (z' := (1 : Int32)) rfl (by decide) (by decide) et2 (⟨rfl, N0, rfl⟩)
theorem ef_rmXl31 (m : MethodId) (x0 : Addr) : entryFrame m #[(.ref x0)] 1 = mkF m 0 #[.val (.ref x0)] [] := by first | (simp [entryFrame, mkF, argsToLocals, Value.category]; done) | rfl
set_option maxRecDepth 65536 in
set_option maxHeartbeats 40000000 in
theorem rmXl31 (l : Launch) (Z : State) (a0 : Array Value) (hw : ∀ d ∈ tables_1, d.before a0 Z = true) (u : Addr) (cs : Int32) (c0 c1 c2 : Int32) (a1 : Addr) (h0 : Heap) (O0 : Ext Z.heap h0) (S_cs : Sta Z Z.heap "java/lang/String" "COMPACT_STRINGS" "Z" (.int cs)) (hcs : ¬ cs = 0) (E1 : Exa Z h0 a1 "java/lang/String") (V1 : Fld Z h0 a1 "java/lang/String" "value" "[B" (.ref u)) (C1 : Fld Z h0 a1 "java/lang/String" "coder" "B" (.int (1 : Int32))) (Y1 : Ary Z h0 u .byte [(.int ((c0 >>> ((0 : Int32) &&& 31)).toInt8.toInt32)), (.int ((c0 >>> ((8 : Int32) &&& 31)).toInt8.toInt32)), (.int ((c1 >>> ((0 : Int32) &&& 31)).toInt8.toInt32)), (.int ((c1 >>> ((8 : Int32) &&& 31)).toInt8.toInt32)), (.int ((c2 >>> ((0 : Int32) &&& 31)).toInt8.toInt32)), (.int ((c2 >>> ((8 : Int32) &&& 31)).toInt8.toInt32))]) :
    Ctr l Z (⟨"java/lang/String", "length", "()I"⟩ : MethodName) jdk_42_method_54_code 1 (some .int) [] ({ frames := 1, cells := 0, slots := 0, locals := 13 } : Room) #[(.ref a1)] h0 (fun v h L => v = some (.int (3 : Int32)) ∧ Fr Z.heap.size L ∧ h = h0) := by
  refine ctr (plainFor_of_name pn_1) ?_
  intro p e s m below meth c s₁ hx hby hml hown hnm hret hlocks hZ X0 e0
  have N0 := Fr.nil Z.heap.size
  have hsz : ∀ {Ls : Array Slot}, Ls.size = 1 → Ls.size = c.maxLocals := fun q => q.trans hml.symm
  refine goE (ef_rmXl31 m (a1)) ?_
  show Goes p e below _ (s₁.setTop (mkF m 0 #[.val (.ref a1)] []))
  refine gAloadN X0 hx (hb hby d_jdk_42_method_54_0) rfl rfl ?_
  obtain ⟨Tt1, Xt1, et1, stt1⟩ := getF X0 hx hZ hown (host := "") (Or.inl (hw _ (List.mem_of_getElem? (i := 28) rfl))) Via.refl e0 V1 (g := (mkF m 1 #[.val (.ref a1)] [(.ref a1)])) rfl rfl (hb hby d_jdk_42_method_54_1)
  refine go stt1 ?_
  show Goes p e below _ (Tt1.setTop (mkF m 4 #[.val (.ref a1)] [(.ref u)]))
  refine goAlen Xt1 hx hZ et1 Y1 (n := (6 : Int32)) (hb hby d_jdk_42_method_54_4) rfl ?_
  refine gAloadN Xt1 hx (hb hby d_jdk_42_method_54_5) rfl rfl ?_
  refine goCallV Xt1 hx hZ hown (hw _ (List.mem_of_getElem? (i := 58) rfl)) (hw _ (List.mem_of_getElem? (i := 59) rfl)) (hw _ (List.mem_of_getElem? (i := 61) rfl)) (hw _ (List.mem_of_getElem? (i := 60) rfl)) (hw _ (List.mem_of_getElem? (i := 10) rfl)) (hw _ (List.mem_of_getElem? (i := 62) rfl)) (by decide) (rmXc31 l Z a0 hw u cs c0 c1 c2 a1 h0 O0 S_cs hcs E1 V1 C1 Y1) 1 (by decide) (by decide) et1 E1 (hsz rfl) [] [(.int (6 : Int32))] pd_3 rfl rfl rfl (Nat.le_of_eq rfl) (hb hby d_jdk_42_method_54_6) (by decide) (by decide) (fun Tt2 vt2 Lt2 Xt2 qt2 => ?_)
  obtain ⟨rfl, N3, et2⟩ := qt2
  have N4 := Fr.app N0 N3
  show Goes p e below _ (Tt2.setTop (mkF m 9 #[.val (.ref a1)] [(.int (1 : Int32)), (.int (6 : Int32))]))
  refine gIshr Xt2 hx (hb hby d_jdk_42_method_54_9) ?_
  exact goRetI Xt2 hx hret hlocks (hb hby d_jdk_42_method_54_10) (by decide) (by decide) et2 (⟨congrArg (fun z => some (Value.int z)) (by decide), N4, rfl⟩)
theorem ef_rmXi31 (m : MethodId) (x0 : Addr) : entryFrame m #[(.ref x0)] 1 = mkF m 0 #[.val (.ref x0)] [] := by first | (simp [entryFrame, mkF, argsToLocals, Value.category]; done) | rfl
set_option maxRecDepth 65536 in
set_option maxHeartbeats 40000000 in
theorem rmXi31 (l : Launch) (Z : State) (a0 : Array Value) (hw : ∀ d ∈ tables_1, d.before a0 Z = true) (u : Addr) (cs : Int32) (c0 c1 c2 : Int32) (a1 : Addr) (h0 : Heap) (O0 : Ext Z.heap h0) (S_cs : Sta Z Z.heap "java/lang/String" "COMPACT_STRINGS" "Z" (.int cs)) (hcs : ¬ cs = 0) (E1 : Exa Z h0 a1 "java/lang/String") (V1 : Fld Z h0 a1 "java/lang/String" "value" "[B" (.ref u)) (C1 : Fld Z h0 a1 "java/lang/String" "coder" "B" (.int (1 : Int32))) (Y1 : Ary Z h0 u .byte [(.int ((c0 >>> ((0 : Int32) &&& 31)).toInt8.toInt32)), (.int ((c0 >>> ((8 : Int32) &&& 31)).toInt8.toInt32)), (.int ((c1 >>> ((0 : Int32) &&& 31)).toInt8.toInt32)), (.int ((c1 >>> ((8 : Int32) &&& 31)).toInt8.toInt32)), (.int ((c2 >>> ((0 : Int32) &&& 31)).toInt8.toInt32)), (.int ((c2 >>> ((8 : Int32) &&& 31)).toInt8.toInt32))]) :
    Ctr l Z (⟨"java/lang/String", "isLatin1", "()Z"⟩ : MethodName) jdk_42_method_154_code 1 (some .boolean) [] ({ frames := 0, cells := 0, slots := 0, locals := 0 } : Room) #[(.ref a1)] h0 (fun v h L => v = some (.int (0 : Int32)) ∧ Fr Z.heap.size L ∧ h = h0) := by
  refine ctr (plainFor_of_name pn_1) ?_
  intro p e s m below meth c s₁ hx hby hml hown hnm hret hlocks hZ X0 e0
  have N0 := Fr.nil Z.heap.size
  have hsz : ∀ {Ls : Array Slot}, Ls.size = 1 → Ls.size = c.maxLocals := fun q => q.trans hml.symm
  refine goE (ef_rmXi31 m (a1)) ?_
  show Goes p e below _ (s₁.setTop (mkF m 0 #[.val (.ref a1)] []))
  obtain ⟨Tt1, Xt1, et1, stt1⟩ := getS2 X0 hx hZ hown (host := "") (Or.inl (hw _ (List.mem_of_getElem? (i := 39) rfl))) Via.refl e0 (S_cs.ext O0) (g := (mkF m 0 #[.val (.ref a1)] [])) rfl (hb hby d_jdk_42_method_154_0)
  refine go stt1 ?_
  show Goes p e below _ (Tt1.setTop (mkF m 3 #[.val (.ref a1)] [(.int cs)]))
  refine gIfN Xt1 hx (hb hby d_jdk_42_method_154_3) (XT.i0_eq_f hcs) ?_
  show Goes p e below _ (Tt1.setTop (mkF m 6 #[.val (.ref a1)] []))
  refine gAloadN Xt1 hx (hb hby d_jdk_42_method_154_6) rfl rfl ?_
  obtain ⟨Tt2, Xt2, et2, stt2⟩ := getF Xt1 hx hZ hown (host := "") (Or.inl (hw _ (List.mem_of_getElem? (i := 29) rfl))) Via.refl et1 C1 (g := (mkF m 7 #[.val (.ref a1)] [(.ref a1)])) rfl rfl (hb hby d_jdk_42_method_154_7)
  refine go stt2 ?_
  show Goes p e below _ (Tt2.setTop (mkF m 10 #[.val (.ref a1)] [(.int (1 : Int32))]))
  refine gIfY Xt2 hx (hb hby d_jdk_42_method_154_10) (pc' := 17) (XT.i0_ne_t (by decide)) (by decide) (by decide) ?_
  show Goes p e below _ (Tt2.setTop (mkF m 17 #[.val (.ref a1)] []))
  refine gIconst Xt2 hx (hb hby d_jdk_42_method_154_17) (v := (0 : Int32)) rfl ?_
  exact goRetN Xt2 hx (t := .boolean) hret hlocks (by simp) (hb hby d_jdk_42_method_154_18) (z' := (0 : Int32)) rfl (by decide) (by decide) et2 (⟨rfl, N0, rfl⟩)
theorem ef_rmUl3 (m : MethodId) (x0 : Addr) : entryFrame m #[(.ref x0)] 1 = mkF m 0 #[.val (.ref x0)] [] := by first | (simp [entryFrame, mkF, argsToLocals, Value.category]; done) | rfl
set_option maxRecDepth 65536 in
set_option maxHeartbeats 40000000 in
theorem rmUl3 (l : Launch) (Z : State) (a0 : Array Value) (hw : ∀ d ∈ tables_1, d.before a0 Z = true) (c0 c1 c2 : Int32) (u : Addr) (h0 : Heap) (O0 : Ext Z.heap h0) (Y1 : Ary Z h0 u .byte [(.int ((c0 >>> ((0 : Int32) &&& 31)).toInt8.toInt32)), (.int ((c0 >>> ((8 : Int32) &&& 31)).toInt8.toInt32)), (.int ((c1 >>> ((0 : Int32) &&& 31)).toInt8.toInt32)), (.int ((c1 >>> ((8 : Int32) &&& 31)).toInt8.toInt32)), (.int ((c2 >>> ((0 : Int32) &&& 31)).toInt8.toInt32)), (.int ((c2 >>> ((8 : Int32) &&& 31)).toInt8.toInt32))]) :
    Ctr l Z (⟨"java/lang/StringUTF16", "length", "([B)I"⟩ : MethodName) jdk_52_method_6_code 1 (some .int) [] ({ frames := 0, cells := 0, slots := 0, locals := 0 } : Room) #[(.ref u)] h0 (fun v h L => v = some (.int (3 : Int32)) ∧ Fr Z.heap.size L ∧ h = h0) := by
  refine ctr (plainFor_of_name pn_4) ?_
  intro p e s m below meth c s₁ hx hby hml hown hnm hret hlocks hZ X0 e0
  have N0 := Fr.nil Z.heap.size
  have hsz : ∀ {Ls : Array Slot}, Ls.size = 1 → Ls.size = c.maxLocals := fun q => q.trans hml.symm
  refine goE (ef_rmUl3 m (u)) ?_
  show Goes p e below _ (s₁.setTop (mkF m 0 #[.val (.ref u)] []))
  refine gAloadN X0 hx (hb hby d_jdk_52_method_6_0) rfl rfl ?_
  refine goAlen X0 hx hZ e0 Y1 (n := (6 : Int32)) (hb hby d_jdk_52_method_6_1) rfl ?_
  refine gIconst X0 hx (hb hby d_jdk_52_method_6_2) (v := (1 : Int32)) rfl ?_
  refine gIshr X0 hx (hb hby d_jdk_52_method_6_3) ?_
  exact goRetI X0 hx hret hlocks (hb hby d_jdk_52_method_6_4) (by decide) (by decide) e0 (⟨congrArg (fun z => some (Value.int z)) (by decide), N0, rfl⟩)
theorem ef_rmUk3 (m : MethodId) (x0 : Int32) (x1 : Addr) : entryFrame m #[(.int x0), (.ref x1)] 2 = mkF m 0 #[.val (.int x0), .val (.ref x1)] [] := by first | (simp [entryFrame, mkF, argsToLocals, Value.category]; done) | rfl
set_option maxRecDepth 65536 in
set_option maxHeartbeats 40000000 in
theorem rmUk3 (l : Launch) (Z : State) (a0 : Array Value) (hw : ∀ d ∈ tables_1, d.before a0 Z = true) (fm : Value) (c0 c1 c2 : Int32) (i_ : Int32) (u : Addr) (h0 : Heap) (O0 : Ext Z.heap h0) (S_fm : Sta Z Z.heap "jdk/internal/util/Preconditions" "SIOOBE_FORMATTER" "Ljava/util/function/BiFunction;" fm) (rf : fm.isRef = true) (Y1 : Ary Z h0 u .byte [(.int ((c0 >>> ((0 : Int32) &&& 31)).toInt8.toInt32)), (.int ((c0 >>> ((8 : Int32) &&& 31)).toInt8.toInt32)), (.int ((c1 >>> ((0 : Int32) &&& 31)).toInt8.toInt32)), (.int ((c1 >>> ((8 : Int32) &&& 31)).toInt8.toInt32)), (.int ((c2 >>> ((0 : Int32) &&& 31)).toInt8.toInt32)), (.int ((c2 >>> ((8 : Int32) &&& 31)).toInt8.toInt32))]) (k1 : ¬ i_ < 0) (k2 : i_ < (3 : Int32)) :
    Ctr l Z (⟨"java/lang/StringUTF16", "checkIndex", "(I[B)V"⟩ : MethodName) jdk_52_method_91_code 2 none [] ({ frames := 2, cells := 0, slots := 0, locals := 27 } : Room) #[(.int i_), (.ref u)] h0 (fun v h L => v = none ∧ Fr Z.heap.size L ∧ h = h0) := by
  refine ctr (plainFor_of_name pn_4) ?_
  intro p e s m below meth c s₁ hx hby hml hown hnm hret hlocks hZ X0 e0
  have N0 := Fr.nil Z.heap.size
  have hsz : ∀ {Ls : Array Slot}, Ls.size = 2 → Ls.size = c.maxLocals := fun q => q.trans hml.symm
  refine goE (ef_rmUk3 m (i_) (u)) ?_
  show Goes p e below _ (s₁.setTop (mkF m 0 #[.val (.int i_), .val (.ref u)] []))
  refine gIloadN X0 hx (hb hby d_jdk_52_method_91_0) rfl ?_
  refine gAloadN X0 hx (hb hby d_jdk_52_method_91_1) rfl rfl ?_
  refine goCallS X0 hx hZ hown (hw _ (List.mem_of_getElem? (i := 142) rfl)) (hw _ (List.mem_of_getElem? (i := 143) rfl)) (hw _ (List.mem_of_getElem? (i := 42) rfl)) (hw _ (List.mem_of_getElem? (i := 144) rfl)) (by decide) (rmUl3 l Z a0 hw c0 c1 c2 u h0 O0 Y1) 1 (by decide) (by decide) e0 (hsz rfl) [(.ref u)] [(.int i_)] pd_17 rfl rfl rfl (Nat.le_of_eq rfl) (hb hby d_jdk_52_method_91_2) (by decide) (by decide) (fun Tt1 vt1 Lt1 Xt1 qt1 => ?_)
  obtain ⟨rfl, N2, et1⟩ := qt1
  have N3 := Fr.app N0 N2
  show Goes p e below _ (Tt1.setTop (mkF m 5 #[.val (.int i_), .val (.ref u)] [(.int (3 : Int32)), (.int i_)]))
  refine goCallS Xt1 hx hZ hown (hw _ (List.mem_of_getElem? (i := 145) rfl)) (hw _ (List.mem_of_getElem? (i := 78) rfl)) (hw _ (List.mem_of_getElem? (i := 10) rfl)) (hw _ (List.mem_of_getElem? (i := 79) rfl)) (by decide) (rmCk l Z a0 hw fm i_ (3 : Int32) h0 O0 S_fm rf k1 k2) 0 (by decide) (by decide) et1 (hsz rfl) [(.int i_), (.int (3 : Int32))] [] pd_16 rfl rfl rfl (Nat.le_of_eq rfl) (hb hby d_jdk_52_method_91_5) (by decide) (by decide) (fun Tt4 vt4 Lt4 Xt4 qt4 => ?_)
  obtain ⟨rfl, N5, et4⟩ := qt4
  have N6 := Fr.app N3 N5
  show Goes p e below _ (Tt4.setTop (mkF m 8 #[.val (.int i_), .val (.ref u)] []))
  exact goRet0 Xt4 hx hret hlocks (hb hby d_jdk_52_method_91_8) (by decide) (by decide) et4 (⟨rfl, N6, rfl⟩)
theorem ef_rmUc30 (m : MethodId) (x0 : Addr) (x1 : Int32) : entryFrame m #[(.ref x0), (.int x1)] 2 = mkF m 0 #[.val (.ref x0), .val (.int x1)] [] := by first | (simp [entryFrame, mkF, argsToLocals, Value.category]; done) | rfl
set_option maxRecDepth 65536 in
set_option maxHeartbeats 40000000 in
theorem rmUc30 (l : Launch) (Z : State) (a0 : Array Value) (hw : ∀ d ∈ tables_1, d.before a0 Z = true) (fm : Value) (c0 c1 c2 : Int32) (u : Addr) (h0 : Heap) (O0 : Ext Z.heap h0) (S_fm : Sta Z Z.heap "jdk/internal/util/Preconditions" "SIOOBE_FORMATTER" "Ljava/util/function/BiFunction;" fm) (rf : fm.isRef = true) (S_ua : Sta Z Z.heap "java/lang/StringUTF16" "$assertionsDisabled" "Z" (.int (1 : Int32))) (S_uh : Sta Z Z.heap "java/lang/StringUTF16" "HI_BYTE_SHIFT" "I" (.int (0 : Int32))) (S_ul : Sta Z Z.heap "java/lang/StringUTF16" "LO_BYTE_SHIFT" "I" (.int (8 : Int32))) (Y1 : Ary Z h0 u .byte [(.int ((c0 >>> ((0 : Int32) &&& 31)).toInt8.toInt32)), (.int ((c0 >>> ((8 : Int32) &&& 31)).toInt8.toInt32)), (.int ((c1 >>> ((0 : Int32) &&& 31)).toInt8.toInt32)), (.int ((c1 >>> ((8 : Int32) &&& 31)).toInt8.toInt32)), (.int ((c2 >>> ((0 : Int32) &&& 31)).toInt8.toInt32)), (.int ((c2 >>> ((8 : Int32) &&& 31)).toInt8.toInt32))]) (g0 : ¬ c0 < 0) (g1 : ¬ (65535 : Int32) < c0) (nc : nar .char c0 = c0) :
    Ctr l Z (⟨"java/lang/StringUTF16", "charAt", "([BI)C"⟩ : MethodName) jdk_52_method_83_code 2 (some .char) [] ({ frames := 3, cells := 0, slots := 0, locals := 40 } : Room) #[(.ref u), (.int (0 : Int32))] h0 (fun v h L => v = some (.int c0) ∧ Fr Z.heap.size L ∧ h = h0) := by
  refine ctr (plainFor_of_name pn_4) ?_
  intro p e s m below meth c s₁ hx hby hml hown hnm hret hlocks hZ X0 e0
  have N0 := Fr.nil Z.heap.size
  have hsz : ∀ {Ls : Array Slot}, Ls.size = 2 → Ls.size = c.maxLocals := fun q => q.trans hml.symm
  refine goE (ef_rmUc30 m (u) ((0 : Int32))) ?_
  show Goes p e below _ (s₁.setTop (mkF m 0 #[.val (.ref u), .val (.int (0 : Int32))] []))
  refine gIloadN X0 hx (hb hby d_jdk_52_method_83_0) rfl ?_
  refine gAloadN X0 hx (hb hby d_jdk_52_method_83_1) rfl rfl ?_
  refine goCallS X0 hx hZ hown (hw _ (List.mem_of_getElem? (i := 139) rfl)) (hw _ (List.mem_of_getElem? (i := 140) rfl)) (hw _ (List.mem_of_getElem? (i := 42) rfl)) (hw _ (List.mem_of_getElem? (i := 141) rfl)) (by decide) (rmUk3 l Z a0 hw fm c0 c1 c2 (0 : Int32) u h0 O0 S_fm rf Y1 (by decide) (by decide)) 0 (by decide) (by decide) e0 (hsz rfl) [(.int (0 : Int32)), (.ref u)] [] pd_18 rfl rfl rfl (Nat.le_of_eq rfl) (hb hby d_jdk_52_method_83_2) (by decide) (by decide) (fun Tt1 vt1 Lt1 Xt1 qt1 => ?_)
  obtain ⟨rfl, N2, et1⟩ := qt1
  have N3 := Fr.app N0 N2
  show Goes p e below _ (Tt1.setTop (mkF m 5 #[.val (.ref u), .val (.int (0 : Int32))] []))
  refine gAloadN Xt1 hx (hb hby d_jdk_52_method_83_5) rfl rfl ?_
  refine gIloadN Xt1 hx (hb hby d_jdk_52_method_83_6) rfl ?_
  refine goCallS Xt1 hx hZ hown (hw _ (List.mem_of_getElem? (i := 133) rfl)) (hw _ (List.mem_of_getElem? (i := 134) rfl)) (hw _ (List.mem_of_getElem? (i := 42) rfl)) (hw _ (List.mem_of_getElem? (i := 135) rfl)) (by decide) (rmGc30 l Z a0 hw ((c0 >>> ((0 : Int32) &&& 31)).toInt8.toInt32) ((c0 >>> ((8 : Int32) &&& 31)).toInt8.toInt32) ((c1 >>> ((0 : Int32) &&& 31)).toInt8.toInt32) ((c1 >>> ((8 : Int32) &&& 31)).toInt8.toInt32) ((c2 >>> ((0 : Int32) &&& 31)).toInt8.toInt32) ((c2 >>> ((8 : Int32) &&& 31)).toInt8.toInt32) u h0 O0 S_ua S_uh S_ul Y1) 0 (by decide) (by decide) et1 (hsz rfl) [(.ref u), (.int (0 : Int32))] [] pd_12 rfl rfl rfl (Nat.le_of_eq rfl) (hb hby d_jdk_52_method_83_7) (by decide) (by decide) (fun Tt4 vt4 Lt4 Xt4 qt4 => ?_)
  obtain ⟨rfl, N5, et4⟩ := qt4
  have N6 := Fr.app N3 N5
  show Goes p e below _ (Tt4.setTop (mkF m 10 #[.val (.ref u), .val (.int (0 : Int32))] [(.int (own_gc ((c0 >>> ((0 : Int32) &&& 31)).toInt8.toInt32) ((c0 >>> ((8 : Int32) &&& 31)).toInt8.toInt32)))]))
  rw [own_gcc g0 g1]
  show Goes p e below _ (Tt4.setTop (mkF m 10 #[.val (.ref u), .val (.int (0 : Int32))] [(.int c0)]))
  exact goRetN Xt4 hx (t := .char) hret hlocks (by simp) (hb hby d_jdk_52_method_83_10) (z' := c0) nc (by decide) (by decide) et4 (⟨rfl, N6, rfl⟩)
theorem ef_rmXa310 (m : MethodId) (x0 : Addr) (x1 : Int32) : entryFrame m #[(.ref x0), (.int x1)] 2 = mkF m 0 #[.val (.ref x0), .val (.int x1)] [] := by first | (simp [entryFrame, mkF, argsToLocals, Value.category]; done) | rfl
set_option maxRecDepth 65536 in
set_option maxHeartbeats 40000000 in
theorem rmXa310 (l : Launch) (Z : State) (a0 : Array Value) (hw : ∀ d ∈ tables_1, d.before a0 Z = true) (fm : Value) (u : Addr) (cs : Int32) (c0 c1 c2 : Int32) (a1 : Addr) (h0 : Heap) (O0 : Ext Z.heap h0) (S_cs : Sta Z Z.heap "java/lang/String" "COMPACT_STRINGS" "Z" (.int cs)) (hcs : ¬ cs = 0) (E1 : Exa Z h0 a1 "java/lang/String") (V1 : Fld Z h0 a1 "java/lang/String" "value" "[B" (.ref u)) (C1 : Fld Z h0 a1 "java/lang/String" "coder" "B" (.int (1 : Int32))) (Y1 : Ary Z h0 u .byte [(.int ((c0 >>> ((0 : Int32) &&& 31)).toInt8.toInt32)), (.int ((c0 >>> ((8 : Int32) &&& 31)).toInt8.toInt32)), (.int ((c1 >>> ((0 : Int32) &&& 31)).toInt8.toInt32)), (.int ((c1 >>> ((8 : Int32) &&& 31)).toInt8.toInt32)), (.int ((c2 >>> ((0 : Int32) &&& 31)).toInt8.toInt32)), (.int ((c2 >>> ((8 : Int32) &&& 31)).toInt8.toInt32))]) (S_fm : Sta Z Z.heap "jdk/internal/util/Preconditions" "SIOOBE_FORMATTER" "Ljava/util/function/BiFunction;" fm) (rf : fm.isRef = true) (S_ua : Sta Z Z.heap "java/lang/StringUTF16" "$assertionsDisabled" "Z" (.int (1 : Int32))) (S_uh : Sta Z Z.heap "java/lang/StringUTF16" "HI_BYTE_SHIFT" "I" (.int (0 : Int32))) (S_ul : Sta Z Z.heap "java/lang/StringUTF16" "LO_BYTE_SHIFT" "I" (.int (8 : Int32))) (g0 : ¬ c0 < 0) (g1 : ¬ (65535 : Int32) < c0) (nc : nar .char c0 = c0) :
    Ctr l Z (⟨"java/lang/String", "charAt", "(I)C"⟩ : MethodName) jdk_42_method_56_code 2 (some .char) [] ({ frames := 4, cells := 0, slots := 0, locals := 53 } : Room) #[(.ref a1), (.int (0 : Int32))] h0 (fun v h L => v = some (.int c0) ∧ Fr Z.heap.size L ∧ h = h0) := by
  refine ctr (plainFor_of_name pn_1) ?_
  intro p e s m below meth c s₁ hx hby hml hown hnm hret hlocks hZ X0 e0
  have N0 := Fr.nil Z.heap.size
  have hsz : ∀ {Ls : Array Slot}, Ls.size = 2 → Ls.size = c.maxLocals := fun q => q.trans hml.symm
  refine goE (ef_rmXa310 m (a1) ((0 : Int32))) ?_
  show Goes p e below _ (s₁.setTop (mkF m 0 #[.val (.ref a1), .val (.int (0 : Int32))] []))
  refine gAloadN X0 hx (hb hby d_jdk_42_method_56_0) rfl rfl ?_
  refine goCallV X0 hx hZ hown (hw _ (List.mem_of_getElem? (i := 68) rfl)) (hw _ (List.mem_of_getElem? (i := 69) rfl)) (hw _ (List.mem_of_getElem? (i := 71) rfl)) (hw _ (List.mem_of_getElem? (i := 70) rfl)) (hw _ (List.mem_of_getElem? (i := 10) rfl)) (hw _ (List.mem_of_getElem? (i := 72) rfl)) (by decide) (rmXi31 l Z a0 hw u cs c0 c1 c2 a1 h0 O0 S_cs hcs E1 V1 C1 Y1) 0 (by decide) (by decide) e0 E1 (hsz rfl) [] [] pd_4 rfl rfl rfl (Nat.le_of_eq rfl) (hb hby d_jdk_42_method_56_1) (by decide) (by decide) (fun Tt1 vt1 Lt1 Xt1 qt1 => ?_)
  obtain ⟨rfl, N2, et1⟩ := qt1
  have N3 := Fr.app N0 N2
  show Goes p e below _ (Tt1.setTop (mkF m 4 #[.val (.ref a1), .val (.int (0 : Int32))] [(.int (0 : Int32))]))
  refine gIfY Xt1 hx (hb hby d_jdk_42_method_56_4) (pc' := 16) (XT.i0_eq_t (by decide)) (by decide) (by decide) ?_
  show Goes p e below _ (Tt1.setTop (mkF m 16 #[.val (.ref a1), .val (.int (0 : Int32))] []))
  refine gAloadN Xt1 hx (hb hby d_jdk_42_method_56_16) rfl rfl ?_
  obtain ⟨Tt4, Xt4, et4, stt4⟩ := getF Xt1 hx hZ hown (host := "") (Or.inl (hw _ (List.mem_of_getElem? (i := 28) rfl))) Via.refl et1 V1 (g := (mkF m 17 #[.val (.ref a1), .val (.int (0 : Int32))] [(.ref a1)])) rfl rfl (hb hby d_jdk_42_method_56_17)
  refine go stt4 ?_
  show Goes p e below _ (Tt4.setTop (mkF m 20 #[.val (.ref a1), .val (.int (0 : Int32))] [(.ref u)]))
  refine gIloadN Xt4 hx (hb hby d_jdk_42_method_56_20) rfl ?_
  refine goCallS Xt4 hx hZ hown (hw _ (List.mem_of_getElem? (i := 136) rfl)) (hw _ (List.mem_of_getElem? (i := 137) rfl)) (hw _ (List.mem_of_getElem? (i := 42) rfl)) (hw _ (List.mem_of_getElem? (i := 138) rfl)) (by decide) (rmUc30 l Z a0 hw fm c0 c1 c2 u h0 O0 S_fm rf S_ua S_uh S_ul Y1 g0 g1 nc) 0 (by decide) (by decide) et4 (hsz rfl) [(.ref u), (.int (0 : Int32))] [] pd_12 rfl rfl rfl (Nat.le_of_eq rfl) (hb hby d_jdk_42_method_56_21) (by decide) (by decide) (fun Tt5 vt5 Lt5 Xt5 qt5 => ?_)
  obtain ⟨rfl, N6, et5⟩ := qt5
  have N7 := Fr.app N3 N6
  show Goes p e below _ (Tt5.setTop (mkF m 24 #[.val (.ref a1), .val (.int (0 : Int32))] [(.int c0)]))
  exact goRetN Xt5 hx (t := .char) hret hlocks (by simp) (hb hby d_jdk_42_method_56_24) (z' := c0) nc (by decide) (by decide) et5 (⟨rfl, N7, rfl⟩)
theorem ef_rmUc31 (m : MethodId) (x0 : Addr) (x1 : Int32) : entryFrame m #[(.ref x0), (.int x1)] 2 = mkF m 0 #[.val (.ref x0), .val (.int x1)] [] := by first | (simp [entryFrame, mkF, argsToLocals, Value.category]; done) | rfl
set_option maxRecDepth 65536 in
set_option maxHeartbeats 40000000 in
theorem rmUc31 (l : Launch) (Z : State) (a0 : Array Value) (hw : ∀ d ∈ tables_1, d.before a0 Z = true) (fm : Value) (c0 c1 c2 : Int32) (u : Addr) (h0 : Heap) (O0 : Ext Z.heap h0) (S_fm : Sta Z Z.heap "jdk/internal/util/Preconditions" "SIOOBE_FORMATTER" "Ljava/util/function/BiFunction;" fm) (rf : fm.isRef = true) (S_ua : Sta Z Z.heap "java/lang/StringUTF16" "$assertionsDisabled" "Z" (.int (1 : Int32))) (S_uh : Sta Z Z.heap "java/lang/StringUTF16" "HI_BYTE_SHIFT" "I" (.int (0 : Int32))) (S_ul : Sta Z Z.heap "java/lang/StringUTF16" "LO_BYTE_SHIFT" "I" (.int (8 : Int32))) (Y1 : Ary Z h0 u .byte [(.int ((c0 >>> ((0 : Int32) &&& 31)).toInt8.toInt32)), (.int ((c0 >>> ((8 : Int32) &&& 31)).toInt8.toInt32)), (.int ((c1 >>> ((0 : Int32) &&& 31)).toInt8.toInt32)), (.int ((c1 >>> ((8 : Int32) &&& 31)).toInt8.toInt32)), (.int ((c2 >>> ((0 : Int32) &&& 31)).toInt8.toInt32)), (.int ((c2 >>> ((8 : Int32) &&& 31)).toInt8.toInt32))]) (g0 : ¬ c1 < 0) (g1 : ¬ (65535 : Int32) < c1) (nc : nar .char c1 = c1) :
    Ctr l Z (⟨"java/lang/StringUTF16", "charAt", "([BI)C"⟩ : MethodName) jdk_52_method_83_code 2 (some .char) [] ({ frames := 3, cells := 0, slots := 0, locals := 40 } : Room) #[(.ref u), (.int (1 : Int32))] h0 (fun v h L => v = some (.int c1) ∧ Fr Z.heap.size L ∧ h = h0) := by
  refine ctr (plainFor_of_name pn_4) ?_
  intro p e s m below meth c s₁ hx hby hml hown hnm hret hlocks hZ X0 e0
  have N0 := Fr.nil Z.heap.size
  have hsz : ∀ {Ls : Array Slot}, Ls.size = 2 → Ls.size = c.maxLocals := fun q => q.trans hml.symm
  refine goE (ef_rmUc31 m (u) ((1 : Int32))) ?_
  show Goes p e below _ (s₁.setTop (mkF m 0 #[.val (.ref u), .val (.int (1 : Int32))] []))
  refine gIloadN X0 hx (hb hby d_jdk_52_method_83_0) rfl ?_
  refine gAloadN X0 hx (hb hby d_jdk_52_method_83_1) rfl rfl ?_
  refine goCallS X0 hx hZ hown (hw _ (List.mem_of_getElem? (i := 139) rfl)) (hw _ (List.mem_of_getElem? (i := 140) rfl)) (hw _ (List.mem_of_getElem? (i := 42) rfl)) (hw _ (List.mem_of_getElem? (i := 141) rfl)) (by decide) (rmUk3 l Z a0 hw fm c0 c1 c2 (1 : Int32) u h0 O0 S_fm rf Y1 (by decide) (by decide)) 0 (by decide) (by decide) e0 (hsz rfl) [(.int (1 : Int32)), (.ref u)] [] pd_18 rfl rfl rfl (Nat.le_of_eq rfl) (hb hby d_jdk_52_method_83_2) (by decide) (by decide) (fun Tt1 vt1 Lt1 Xt1 qt1 => ?_)
  obtain ⟨rfl, N2, et1⟩ := qt1
  have N3 := Fr.app N0 N2
  show Goes p e below _ (Tt1.setTop (mkF m 5 #[.val (.ref u), .val (.int (1 : Int32))] []))
  refine gAloadN Xt1 hx (hb hby d_jdk_52_method_83_5) rfl rfl ?_
  refine gIloadN Xt1 hx (hb hby d_jdk_52_method_83_6) rfl ?_
  refine goCallS Xt1 hx hZ hown (hw _ (List.mem_of_getElem? (i := 133) rfl)) (hw _ (List.mem_of_getElem? (i := 134) rfl)) (hw _ (List.mem_of_getElem? (i := 42) rfl)) (hw _ (List.mem_of_getElem? (i := 135) rfl)) (by decide) (rmGc31 l Z a0 hw ((c0 >>> ((0 : Int32) &&& 31)).toInt8.toInt32) ((c0 >>> ((8 : Int32) &&& 31)).toInt8.toInt32) ((c1 >>> ((0 : Int32) &&& 31)).toInt8.toInt32) ((c1 >>> ((8 : Int32) &&& 31)).toInt8.toInt32) ((c2 >>> ((0 : Int32) &&& 31)).toInt8.toInt32) ((c2 >>> ((8 : Int32) &&& 31)).toInt8.toInt32) u h0 O0 S_ua S_uh S_ul Y1) 0 (by decide) (by decide) et1 (hsz rfl) [(.ref u), (.int (1 : Int32))] [] pd_12 rfl rfl rfl (Nat.le_of_eq rfl) (hb hby d_jdk_52_method_83_7) (by decide) (by decide) (fun Tt4 vt4 Lt4 Xt4 qt4 => ?_)
  obtain ⟨rfl, N5, et4⟩ := qt4
  have N6 := Fr.app N3 N5
  show Goes p e below _ (Tt4.setTop (mkF m 10 #[.val (.ref u), .val (.int (1 : Int32))] [(.int (own_gc ((c1 >>> ((0 : Int32) &&& 31)).toInt8.toInt32) ((c1 >>> ((8 : Int32) &&& 31)).toInt8.toInt32)))]))
  rw [own_gcc g0 g1]
  show Goes p e below _ (Tt4.setTop (mkF m 10 #[.val (.ref u), .val (.int (1 : Int32))] [(.int c1)]))
  exact goRetN Xt4 hx (t := .char) hret hlocks (by simp) (hb hby d_jdk_52_method_83_10) (z' := c1) nc (by decide) (by decide) et4 (⟨rfl, N6, rfl⟩)
theorem ef_rmXa311 (m : MethodId) (x0 : Addr) (x1 : Int32) : entryFrame m #[(.ref x0), (.int x1)] 2 = mkF m 0 #[.val (.ref x0), .val (.int x1)] [] := by first | (simp [entryFrame, mkF, argsToLocals, Value.category]; done) | rfl
set_option maxRecDepth 65536 in
set_option maxHeartbeats 40000000 in
theorem rmXa311 (l : Launch) (Z : State) (a0 : Array Value) (hw : ∀ d ∈ tables_1, d.before a0 Z = true) (fm : Value) (u : Addr) (cs : Int32) (c0 c1 c2 : Int32) (a1 : Addr) (h0 : Heap) (O0 : Ext Z.heap h0) (S_cs : Sta Z Z.heap "java/lang/String" "COMPACT_STRINGS" "Z" (.int cs)) (hcs : ¬ cs = 0) (E1 : Exa Z h0 a1 "java/lang/String") (V1 : Fld Z h0 a1 "java/lang/String" "value" "[B" (.ref u)) (C1 : Fld Z h0 a1 "java/lang/String" "coder" "B" (.int (1 : Int32))) (Y1 : Ary Z h0 u .byte [(.int ((c0 >>> ((0 : Int32) &&& 31)).toInt8.toInt32)), (.int ((c0 >>> ((8 : Int32) &&& 31)).toInt8.toInt32)), (.int ((c1 >>> ((0 : Int32) &&& 31)).toInt8.toInt32)), (.int ((c1 >>> ((8 : Int32) &&& 31)).toInt8.toInt32)), (.int ((c2 >>> ((0 : Int32) &&& 31)).toInt8.toInt32)), (.int ((c2 >>> ((8 : Int32) &&& 31)).toInt8.toInt32))]) (S_fm : Sta Z Z.heap "jdk/internal/util/Preconditions" "SIOOBE_FORMATTER" "Ljava/util/function/BiFunction;" fm) (rf : fm.isRef = true) (S_ua : Sta Z Z.heap "java/lang/StringUTF16" "$assertionsDisabled" "Z" (.int (1 : Int32))) (S_uh : Sta Z Z.heap "java/lang/StringUTF16" "HI_BYTE_SHIFT" "I" (.int (0 : Int32))) (S_ul : Sta Z Z.heap "java/lang/StringUTF16" "LO_BYTE_SHIFT" "I" (.int (8 : Int32))) (g0 : ¬ c1 < 0) (g1 : ¬ (65535 : Int32) < c1) (nc : nar .char c1 = c1) :
    Ctr l Z (⟨"java/lang/String", "charAt", "(I)C"⟩ : MethodName) jdk_42_method_56_code 2 (some .char) [] ({ frames := 4, cells := 0, slots := 0, locals := 53 } : Room) #[(.ref a1), (.int (1 : Int32))] h0 (fun v h L => v = some (.int c1) ∧ Fr Z.heap.size L ∧ h = h0) := by
  refine ctr (plainFor_of_name pn_1) ?_
  intro p e s m below meth c s₁ hx hby hml hown hnm hret hlocks hZ X0 e0
  have N0 := Fr.nil Z.heap.size
  have hsz : ∀ {Ls : Array Slot}, Ls.size = 2 → Ls.size = c.maxLocals := fun q => q.trans hml.symm
  refine goE (ef_rmXa311 m (a1) ((1 : Int32))) ?_
  show Goes p e below _ (s₁.setTop (mkF m 0 #[.val (.ref a1), .val (.int (1 : Int32))] []))
  refine gAloadN X0 hx (hb hby d_jdk_42_method_56_0) rfl rfl ?_
  refine goCallV X0 hx hZ hown (hw _ (List.mem_of_getElem? (i := 68) rfl)) (hw _ (List.mem_of_getElem? (i := 69) rfl)) (hw _ (List.mem_of_getElem? (i := 71) rfl)) (hw _ (List.mem_of_getElem? (i := 70) rfl)) (hw _ (List.mem_of_getElem? (i := 10) rfl)) (hw _ (List.mem_of_getElem? (i := 72) rfl)) (by decide) (rmXi31 l Z a0 hw u cs c0 c1 c2 a1 h0 O0 S_cs hcs E1 V1 C1 Y1) 0 (by decide) (by decide) e0 E1 (hsz rfl) [] [] pd_4 rfl rfl rfl (Nat.le_of_eq rfl) (hb hby d_jdk_42_method_56_1) (by decide) (by decide) (fun Tt1 vt1 Lt1 Xt1 qt1 => ?_)
  obtain ⟨rfl, N2, et1⟩ := qt1
  have N3 := Fr.app N0 N2
  show Goes p e below _ (Tt1.setTop (mkF m 4 #[.val (.ref a1), .val (.int (1 : Int32))] [(.int (0 : Int32))]))
  refine gIfY Xt1 hx (hb hby d_jdk_42_method_56_4) (pc' := 16) (XT.i0_eq_t (by decide)) (by decide) (by decide) ?_
  show Goes p e below _ (Tt1.setTop (mkF m 16 #[.val (.ref a1), .val (.int (1 : Int32))] []))
  refine gAloadN Xt1 hx (hb hby d_jdk_42_method_56_16) rfl rfl ?_
  obtain ⟨Tt4, Xt4, et4, stt4⟩ := getF Xt1 hx hZ hown (host := "") (Or.inl (hw _ (List.mem_of_getElem? (i := 28) rfl))) Via.refl et1 V1 (g := (mkF m 17 #[.val (.ref a1), .val (.int (1 : Int32))] [(.ref a1)])) rfl rfl (hb hby d_jdk_42_method_56_17)
  refine go stt4 ?_
  show Goes p e below _ (Tt4.setTop (mkF m 20 #[.val (.ref a1), .val (.int (1 : Int32))] [(.ref u)]))
  refine gIloadN Xt4 hx (hb hby d_jdk_42_method_56_20) rfl ?_
  refine goCallS Xt4 hx hZ hown (hw _ (List.mem_of_getElem? (i := 136) rfl)) (hw _ (List.mem_of_getElem? (i := 137) rfl)) (hw _ (List.mem_of_getElem? (i := 42) rfl)) (hw _ (List.mem_of_getElem? (i := 138) rfl)) (by decide) (rmUc31 l Z a0 hw fm c0 c1 c2 u h0 O0 S_fm rf S_ua S_uh S_ul Y1 g0 g1 nc) 0 (by decide) (by decide) et4 (hsz rfl) [(.ref u), (.int (1 : Int32))] [] pd_12 rfl rfl rfl (Nat.le_of_eq rfl) (hb hby d_jdk_42_method_56_21) (by decide) (by decide) (fun Tt5 vt5 Lt5 Xt5 qt5 => ?_)
  obtain ⟨rfl, N6, et5⟩ := qt5
  have N7 := Fr.app N3 N6
  show Goes p e below _ (Tt5.setTop (mkF m 24 #[.val (.ref a1), .val (.int (1 : Int32))] [(.int c1)]))
  exact goRetN Xt5 hx (t := .char) hret hlocks (by simp) (hb hby d_jdk_42_method_56_24) (z' := c1) nc (by decide) (by decide) et5 (⟨rfl, N7, rfl⟩)
theorem ef_rmUc32 (m : MethodId) (x0 : Addr) (x1 : Int32) : entryFrame m #[(.ref x0), (.int x1)] 2 = mkF m 0 #[.val (.ref x0), .val (.int x1)] [] := by first | (simp [entryFrame, mkF, argsToLocals, Value.category]; done) | rfl
set_option maxRecDepth 65536 in
set_option maxHeartbeats 40000000 in
theorem rmUc32 (l : Launch) (Z : State) (a0 : Array Value) (hw : ∀ d ∈ tables_1, d.before a0 Z = true) (fm : Value) (c0 c1 c2 : Int32) (u : Addr) (h0 : Heap) (O0 : Ext Z.heap h0) (S_fm : Sta Z Z.heap "jdk/internal/util/Preconditions" "SIOOBE_FORMATTER" "Ljava/util/function/BiFunction;" fm) (rf : fm.isRef = true) (S_ua : Sta Z Z.heap "java/lang/StringUTF16" "$assertionsDisabled" "Z" (.int (1 : Int32))) (S_uh : Sta Z Z.heap "java/lang/StringUTF16" "HI_BYTE_SHIFT" "I" (.int (0 : Int32))) (S_ul : Sta Z Z.heap "java/lang/StringUTF16" "LO_BYTE_SHIFT" "I" (.int (8 : Int32))) (Y1 : Ary Z h0 u .byte [(.int ((c0 >>> ((0 : Int32) &&& 31)).toInt8.toInt32)), (.int ((c0 >>> ((8 : Int32) &&& 31)).toInt8.toInt32)), (.int ((c1 >>> ((0 : Int32) &&& 31)).toInt8.toInt32)), (.int ((c1 >>> ((8 : Int32) &&& 31)).toInt8.toInt32)), (.int ((c2 >>> ((0 : Int32) &&& 31)).toInt8.toInt32)), (.int ((c2 >>> ((8 : Int32) &&& 31)).toInt8.toInt32))]) (g0 : ¬ c2 < 0) (g1 : ¬ (65535 : Int32) < c2) (nc : nar .char c2 = c2) :
    Ctr l Z (⟨"java/lang/StringUTF16", "charAt", "([BI)C"⟩ : MethodName) jdk_52_method_83_code 2 (some .char) [] ({ frames := 3, cells := 0, slots := 0, locals := 40 } : Room) #[(.ref u), (.int (2 : Int32))] h0 (fun v h L => v = some (.int c2) ∧ Fr Z.heap.size L ∧ h = h0) := by
  refine ctr (plainFor_of_name pn_4) ?_
  intro p e s m below meth c s₁ hx hby hml hown hnm hret hlocks hZ X0 e0
  have N0 := Fr.nil Z.heap.size
  have hsz : ∀ {Ls : Array Slot}, Ls.size = 2 → Ls.size = c.maxLocals := fun q => q.trans hml.symm
  refine goE (ef_rmUc32 m (u) ((2 : Int32))) ?_
  show Goes p e below _ (s₁.setTop (mkF m 0 #[.val (.ref u), .val (.int (2 : Int32))] []))
  refine gIloadN X0 hx (hb hby d_jdk_52_method_83_0) rfl ?_
  refine gAloadN X0 hx (hb hby d_jdk_52_method_83_1) rfl rfl ?_
  refine goCallS X0 hx hZ hown (hw _ (List.mem_of_getElem? (i := 139) rfl)) (hw _ (List.mem_of_getElem? (i := 140) rfl)) (hw _ (List.mem_of_getElem? (i := 42) rfl)) (hw _ (List.mem_of_getElem? (i := 141) rfl)) (by decide) (rmUk3 l Z a0 hw fm c0 c1 c2 (2 : Int32) u h0 O0 S_fm rf Y1 (by decide) (by decide)) 0 (by decide) (by decide) e0 (hsz rfl) [(.int (2 : Int32)), (.ref u)] [] pd_18 rfl rfl rfl (Nat.le_of_eq rfl) (hb hby d_jdk_52_method_83_2) (by decide) (by decide) (fun Tt1 vt1 Lt1 Xt1 qt1 => ?_)
  obtain ⟨rfl, N2, et1⟩ := qt1
  have N3 := Fr.app N0 N2
  show Goes p e below _ (Tt1.setTop (mkF m 5 #[.val (.ref u), .val (.int (2 : Int32))] []))
  refine gAloadN Xt1 hx (hb hby d_jdk_52_method_83_5) rfl rfl ?_
  refine gIloadN Xt1 hx (hb hby d_jdk_52_method_83_6) rfl ?_
  refine goCallS Xt1 hx hZ hown (hw _ (List.mem_of_getElem? (i := 133) rfl)) (hw _ (List.mem_of_getElem? (i := 134) rfl)) (hw _ (List.mem_of_getElem? (i := 42) rfl)) (hw _ (List.mem_of_getElem? (i := 135) rfl)) (by decide) (rmGc32 l Z a0 hw ((c0 >>> ((0 : Int32) &&& 31)).toInt8.toInt32) ((c0 >>> ((8 : Int32) &&& 31)).toInt8.toInt32) ((c1 >>> ((0 : Int32) &&& 31)).toInt8.toInt32) ((c1 >>> ((8 : Int32) &&& 31)).toInt8.toInt32) ((c2 >>> ((0 : Int32) &&& 31)).toInt8.toInt32) ((c2 >>> ((8 : Int32) &&& 31)).toInt8.toInt32) u h0 O0 S_ua S_uh S_ul Y1) 0 (by decide) (by decide) et1 (hsz rfl) [(.ref u), (.int (2 : Int32))] [] pd_12 rfl rfl rfl (Nat.le_of_eq rfl) (hb hby d_jdk_52_method_83_7) (by decide) (by decide) (fun Tt4 vt4 Lt4 Xt4 qt4 => ?_)
  obtain ⟨rfl, N5, et4⟩ := qt4
  have N6 := Fr.app N3 N5
  show Goes p e below _ (Tt4.setTop (mkF m 10 #[.val (.ref u), .val (.int (2 : Int32))] [(.int (own_gc ((c2 >>> ((0 : Int32) &&& 31)).toInt8.toInt32) ((c2 >>> ((8 : Int32) &&& 31)).toInt8.toInt32)))]))
  rw [own_gcc g0 g1]
  show Goes p e below _ (Tt4.setTop (mkF m 10 #[.val (.ref u), .val (.int (2 : Int32))] [(.int c2)]))
  exact goRetN Xt4 hx (t := .char) hret hlocks (by simp) (hb hby d_jdk_52_method_83_10) (z' := c2) nc (by decide) (by decide) et4 (⟨rfl, N6, rfl⟩)
theorem ef_rmXa312 (m : MethodId) (x0 : Addr) (x1 : Int32) : entryFrame m #[(.ref x0), (.int x1)] 2 = mkF m 0 #[.val (.ref x0), .val (.int x1)] [] := by first | (simp [entryFrame, mkF, argsToLocals, Value.category]; done) | rfl
set_option maxRecDepth 65536 in
set_option maxHeartbeats 40000000 in
theorem rmXa312 (l : Launch) (Z : State) (a0 : Array Value) (hw : ∀ d ∈ tables_1, d.before a0 Z = true) (fm : Value) (u : Addr) (cs : Int32) (c0 c1 c2 : Int32) (a1 : Addr) (h0 : Heap) (O0 : Ext Z.heap h0) (S_cs : Sta Z Z.heap "java/lang/String" "COMPACT_STRINGS" "Z" (.int cs)) (hcs : ¬ cs = 0) (E1 : Exa Z h0 a1 "java/lang/String") (V1 : Fld Z h0 a1 "java/lang/String" "value" "[B" (.ref u)) (C1 : Fld Z h0 a1 "java/lang/String" "coder" "B" (.int (1 : Int32))) (Y1 : Ary Z h0 u .byte [(.int ((c0 >>> ((0 : Int32) &&& 31)).toInt8.toInt32)), (.int ((c0 >>> ((8 : Int32) &&& 31)).toInt8.toInt32)), (.int ((c1 >>> ((0 : Int32) &&& 31)).toInt8.toInt32)), (.int ((c1 >>> ((8 : Int32) &&& 31)).toInt8.toInt32)), (.int ((c2 >>> ((0 : Int32) &&& 31)).toInt8.toInt32)), (.int ((c2 >>> ((8 : Int32) &&& 31)).toInt8.toInt32))]) (S_fm : Sta Z Z.heap "jdk/internal/util/Preconditions" "SIOOBE_FORMATTER" "Ljava/util/function/BiFunction;" fm) (rf : fm.isRef = true) (S_ua : Sta Z Z.heap "java/lang/StringUTF16" "$assertionsDisabled" "Z" (.int (1 : Int32))) (S_uh : Sta Z Z.heap "java/lang/StringUTF16" "HI_BYTE_SHIFT" "I" (.int (0 : Int32))) (S_ul : Sta Z Z.heap "java/lang/StringUTF16" "LO_BYTE_SHIFT" "I" (.int (8 : Int32))) (g0 : ¬ c2 < 0) (g1 : ¬ (65535 : Int32) < c2) (nc : nar .char c2 = c2) :
    Ctr l Z (⟨"java/lang/String", "charAt", "(I)C"⟩ : MethodName) jdk_42_method_56_code 2 (some .char) [] ({ frames := 4, cells := 0, slots := 0, locals := 53 } : Room) #[(.ref a1), (.int (2 : Int32))] h0 (fun v h L => v = some (.int c2) ∧ Fr Z.heap.size L ∧ h = h0) := by
  refine ctr (plainFor_of_name pn_1) ?_
  intro p e s m below meth c s₁ hx hby hml hown hnm hret hlocks hZ X0 e0
  have N0 := Fr.nil Z.heap.size
  have hsz : ∀ {Ls : Array Slot}, Ls.size = 2 → Ls.size = c.maxLocals := fun q => q.trans hml.symm
  refine goE (ef_rmXa312 m (a1) ((2 : Int32))) ?_
  show Goes p e below _ (s₁.setTop (mkF m 0 #[.val (.ref a1), .val (.int (2 : Int32))] []))
  refine gAloadN X0 hx (hb hby d_jdk_42_method_56_0) rfl rfl ?_
  refine goCallV X0 hx hZ hown (hw _ (List.mem_of_getElem? (i := 68) rfl)) (hw _ (List.mem_of_getElem? (i := 69) rfl)) (hw _ (List.mem_of_getElem? (i := 71) rfl)) (hw _ (List.mem_of_getElem? (i := 70) rfl)) (hw _ (List.mem_of_getElem? (i := 10) rfl)) (hw _ (List.mem_of_getElem? (i := 72) rfl)) (by decide) (rmXi31 l Z a0 hw u cs c0 c1 c2 a1 h0 O0 S_cs hcs E1 V1 C1 Y1) 0 (by decide) (by decide) e0 E1 (hsz rfl) [] [] pd_4 rfl rfl rfl (Nat.le_of_eq rfl) (hb hby d_jdk_42_method_56_1) (by decide) (by decide) (fun Tt1 vt1 Lt1 Xt1 qt1 => ?_)
  obtain ⟨rfl, N2, et1⟩ := qt1
  have N3 := Fr.app N0 N2
  show Goes p e below _ (Tt1.setTop (mkF m 4 #[.val (.ref a1), .val (.int (2 : Int32))] [(.int (0 : Int32))]))
  refine gIfY Xt1 hx (hb hby d_jdk_42_method_56_4) (pc' := 16) (XT.i0_eq_t (by decide)) (by decide) (by decide) ?_
  show Goes p e below _ (Tt1.setTop (mkF m 16 #[.val (.ref a1), .val (.int (2 : Int32))] []))
  refine gAloadN Xt1 hx (hb hby d_jdk_42_method_56_16) rfl rfl ?_
  obtain ⟨Tt4, Xt4, et4, stt4⟩ := getF Xt1 hx hZ hown (host := "") (Or.inl (hw _ (List.mem_of_getElem? (i := 28) rfl))) Via.refl et1 V1 (g := (mkF m 17 #[.val (.ref a1), .val (.int (2 : Int32))] [(.ref a1)])) rfl rfl (hb hby d_jdk_42_method_56_17)
  refine go stt4 ?_
  show Goes p e below _ (Tt4.setTop (mkF m 20 #[.val (.ref a1), .val (.int (2 : Int32))] [(.ref u)]))
  refine gIloadN Xt4 hx (hb hby d_jdk_42_method_56_20) rfl ?_
  refine goCallS Xt4 hx hZ hown (hw _ (List.mem_of_getElem? (i := 136) rfl)) (hw _ (List.mem_of_getElem? (i := 137) rfl)) (hw _ (List.mem_of_getElem? (i := 42) rfl)) (hw _ (List.mem_of_getElem? (i := 138) rfl)) (by decide) (rmUc32 l Z a0 hw fm c0 c1 c2 u h0 O0 S_fm rf S_ua S_uh S_ul Y1 g0 g1 nc) 0 (by decide) (by decide) et4 (hsz rfl) [(.ref u), (.int (2 : Int32))] [] pd_12 rfl rfl rfl (Nat.le_of_eq rfl) (hb hby d_jdk_42_method_56_21) (by decide) (by decide) (fun Tt5 vt5 Lt5 Xt5 qt5 => ?_)
  obtain ⟨rfl, N6, et5⟩ := qt5
  have N7 := Fr.app N3 N6
  show Goes p e below _ (Tt5.setTop (mkF m 24 #[.val (.ref a1), .val (.int (2 : Int32))] [(.int c2)]))
  exact goRetN Xt5 hx (t := .char) hret hlocks (by simp) (hb hby d_jdk_42_method_56_24) (z' := c2) nc (by decide) (by decide) et5 (⟨rfl, N7, rfl⟩)
theorem ef_rmTk3 (m : MethodId) (x0 : Addr) : entryFrame m #[(.ref x0)] 2 = mkF m 0 #[.val (.ref x0), .unset] [] := by first | (simp [entryFrame, mkF, argsToLocals, Value.category]; done) | rfl
set_option maxRecDepth 65536 in
set_option maxHeartbeats 40000000 in
theorem rmTk3 (l : Launch) (Z : State) (a0 : Array Value) (hw : ∀ d ∈ tables_1, d.before a0 Z = true) (u : Addr) (fm : Value) (cs : Int32) (c0 c1 c2 : Int32) (a1 : Addr) (h0 : Heap) (O0 : Ext Z.heap h0) (S_cs : Sta Z Z.heap "java/lang/String" "COMPACT_STRINGS" "Z" (.int cs)) (hcs : ¬ cs = 0) (S_ua : Sta Z Z.heap "java/lang/StringUTF16" "$assertionsDisabled" "Z" (.int (1 : Int32))) (S_uh : Sta Z Z.heap "java/lang/StringUTF16" "HI_BYTE_SHIFT" "I" (.int (0 : Int32))) (S_ul : Sta Z Z.heap "java/lang/StringUTF16" "LO_BYTE_SHIFT" "I" (.int (8 : Int32))) (S_fm : Sta Z Z.heap "jdk/internal/util/Preconditions" "SIOOBE_FORMATTER" "Ljava/util/function/BiFunction;" fm) (rf : fm.isRef = true) (hh : Jvm.Lit.constHeld Z "com/example/rolegate/rolegate/HttpSyntax" 27) (hcw : Jvm.Lit.compactW.before a0 Z = true) (nc0 : nar .char c0 = c0) (nc1 : nar .char c1 = c1) (nc2 : nar .char c2 = c2) (q0_0 : ¬ c0 < 0) (q1_0 : ¬ (65535 : Int32) < c0) (q0_1 : ¬ c1 < 0) (q1_1 : ¬ (65535 : Int32) < c1) (q0_2 : ¬ c2 < 0) (q1_2 : ¬ (65535 : Int32) < c2) (E1 : Exa Z h0 a1 "java/lang/String") (V1 : Fld Z h0 a1 "java/lang/String" "value" "[B" (.ref u)) (A1 : (Fld Z h0 a1 "java/lang/String" "coder" "B" (.int (0 : Int32)) ∧ (¬ (255 : Int32) < c0 ∧ ¬ (255 : Int32) < c1 ∧ ¬ (255 : Int32) < c2) ∧ Ary Z h0 u .byte [(.int (c0.toInt8.toInt32)), (.int (c1.toInt8.toInt32)), (.int (c2.toInt8.toInt32))]) ∨ (Fld Z h0 a1 "java/lang/String" "coder" "B" (.int (1 : Int32)) ∧ Ary Z h0 u .byte [(.int ((c0 >>> ((0 : Int32) &&& 31)).toInt8.toInt32)), (.int ((c0 >>> ((8 : Int32) &&& 31)).toInt8.toInt32)), (.int ((c1 >>> ((0 : Int32) &&& 31)).toInt8.toInt32)), (.int ((c1 >>> ((8 : Int32) &&& 31)).toInt8.toInt32)), (.int ((c2 >>> ((0 : Int32) &&& 31)).toInt8.toInt32)), (.int ((c2 >>> ((8 : Int32) &&& 31)).toInt8.toInt32))])) :
    CtrW l Z (⟨"com/example/rolegate/rolegate/HttpSyntax", "isToken", "(Ljava/lang/String;)Z"⟩ : MethodName) prog_2_method_2_code 2 (some .boolean) [] ({ frames := 5, cells := 6, slots := 192, locals := 93 } : Room) #[(.ref a1)] h0 (fun vm => own_Tx Z h0 vm) (fun v h L vm => ∃ z : Int32, v = some (.int z) ∧ Fr Z.heap.size L ∧ Keep h0 h [] ∧ ((z = 1 ∧ ¬ own_tc c0 = 0 ∧ ¬ own_tc c1 = 0 ∧ ¬ own_tc c2 = 0) ∨ (z = 0 ∧ (own_tc c0 = 0 ∨ own_tc c1 = 0 ∨ own_tc c2 = 0)))) := by
  refine ctrW (plainFor_of_name pn_2) ?_
  intro p e s m below meth c s₁ vm0 hx hby hml hown hnm hret hlocks hZ X0 e0 hS hh0 hPv
  have N0 := Fr.nil Z.heap.size
  have hsz : ∀ {Ls : Array Slot}, Ls.size = 2 → Ls.size = c.maxLocals := fun q => q.trans hml.symm
  have K0 := Keep.refl h0 []
  refine goE (ef_rmTk3 m (a1)) ?_
  show Goes p e below _ (s₁.setTop (mkF m 0 #[.val (.ref a1), .unset] []))
  rcases A1 with ⟨C1, ⟨k0, k1, k2⟩, Y1⟩ | ⟨C1, Y1⟩
  · refine gAloadN X0 hx (hb hby d_prog_2_method_2_0) rfl rfl ?_
    refine goCallV X0 hx hZ hown (hw _ (List.mem_of_getElem? (i := 34) rfl)) (hw _ (List.mem_of_getElem? (i := 35) rfl)) (hw _ (List.mem_of_getElem? (i := 37) rfl)) (hw _ (List.mem_of_getElem? (i := 36) rfl)) (hw _ (List.mem_of_getElem? (i := 10) rfl)) (hw _ (List.mem_of_getElem? (i := 38) rfl)) (by decide) (rmXe30 l Z a0 hw u cs c0 c1 c2 a1 h0 O0 S_cs hcs E1 V1 C1 Y1) 0 (by decide) (by decide) e0 E1 (hsz rfl) [] [] pd_4 rfl rfl rfl (Nat.le_of_eq rfl) (hb hby d_prog_2_method_2_1) (by decide) (by decide) (fun Tt1 vt1 Lt1 Xt1 qt1 => ?_)
    obtain ⟨rfl, N2, et1⟩ := qt1
    have N3 := Fr.app N0 N2
    show Goes p e below _ (Tt1.setTop (mkF m 4 #[.val (.ref a1), .unset] [(.int (0 : Int32))]))
    refine gIfY Xt1 hx (hb hby d_prog_2_method_2_4) (pc' := 9) (XT.i0_eq_t (by decide)) (by decide) (by decide) ?_
    show Goes p e below _ (Tt1.setTop (mkF m 9 #[.val (.ref a1), .unset] []))
    refine gIconst Xt1 hx (hb hby d_prog_2_method_2_9) (v := (0 : Int32)) rfl ?_
    refine gIstoreN Xt1 hx (hb hby d_prog_2_method_2_10) (l' := #[.val (.ref a1), .val (.int (0 : Int32))]) rfl ?_
    refine gIloadN Xt1 hx (hb hby d_prog_2_method_2_11) rfl ?_
    refine gAloadN Xt1 hx (hb hby d_prog_2_method_2_12) rfl rfl ?_
    refine goCallV Xt1 hx hZ hown (hw _ (List.mem_of_getElem? (i := 53) rfl)) (hw _ (List.mem_of_getElem? (i := 54) rfl)) (hw _ (List.mem_of_getElem? (i := 56) rfl)) (hw _ (List.mem_of_getElem? (i := 55) rfl)) (hw _ (List.mem_of_getElem? (i := 10) rfl)) (hw _ (List.mem_of_getElem? (i := 57) rfl)) (by decide) (rmXl30 l Z a0 hw u cs c0 c1 c2 a1 h0 O0 S_cs hcs E1 V1 C1 Y1) 1 (by decide) (by decide) et1 E1 (hsz rfl) [] [(.int (0 : Int32))] pd_5 rfl rfl rfl (Nat.le_of_eq rfl) (hb hby d_prog_2_method_2_13) (by decide) (by decide) (fun Tt4 vt4 Lt4 Xt4 qt4 => ?_)
    obtain ⟨rfl, N5, et4⟩ := qt4
    have N6 := Fr.app N3 N5
    show Goes p e below _ (Tt4.setTop (mkF m 16 #[.val (.ref a1), .val (.int (0 : Int32))] [(.int (3 : Int32)), (.int (0 : Int32))]))
    refine gIcmpN Xt4 hx (hb hby d_prog_2_method_2_16) (XT.ii_ge_f (by decide)) ?_
    show Goes p e below _ (Tt4.setTop (mkF m 19 #[.val (.ref a1), .val (.int (0 : Int32))] []))
    refine gAloadN Xt4 hx (hb hby d_prog_2_method_2_19) rfl rfl ?_
    refine gIloadN Xt4 hx (hb hby d_prog_2_method_2_20) rfl ?_
    refine goCallV Xt4 hx hZ hown (hw _ (List.mem_of_getElem? (i := 63) rfl)) (hw _ (List.mem_of_getElem? (i := 64) rfl)) (hw _ (List.mem_of_getElem? (i := 66) rfl)) (hw _ (List.mem_of_getElem? (i := 65) rfl)) (hw _ (List.mem_of_getElem? (i := 10) rfl)) (hw _ (List.mem_of_getElem? (i := 67) rfl)) (by decide) (rmXa300 l Z a0 hw fm u cs c0 c1 c2 a1 h0 O0 S_cs hcs E1 V1 C1 Y1 S_fm rf q0_0 k0 nc0) 0 (by decide) (by decide) et4 E1 (hsz rfl) [(.int (0 : Int32))] [] pd_19 rfl rfl rfl (Nat.le_of_eq rfl) (hb hby d_prog_2_method_2_21) (by decide) (by decide) (fun Tt7 vt7 Lt7 Xt7 qt7 => ?_)
    obtain ⟨rfl, N8, et7⟩ := qt7
    have N9 := Fr.app N6 N8
    show Goes p e below _ (Tt7.setTop (mkF m 24 #[.val (.ref a1), .val (.int (0 : Int32))] [(.int c0)]))
    refine goCallSW Xt7 hx hZ hS hown (hw _ (List.mem_of_getElem? (i := 85) rfl)) (hw _ (List.mem_of_getElem? (i := 86) rfl)) (hw _ (List.mem_of_getElem? (i := 32) rfl)) (hw _ (List.mem_of_getElem? (i := 87) rfl)) (by decide) (rmTc l Z a0 hw cs c0 h0 O0 S_cs hcs hh hcw q0_0) (fun _ w_ => hPv.warm w_) 0 (by decide) (by decide) et7 (hsz rfl) [(.int c0)] [] pd_20 rfl rfl rfl (Nat.le_of_eq rfl) (hb hby d_prog_2_method_2_24) (by decide) (by decide) (fun Tt10 vt10 Lt10 Xt10 hZ hown hS wm_t10 qt10 => ?_)
    obtain ⟨ht10, et10⟩ : ∃ z, Tt10.heap = z := ⟨_, rfl⟩
    rw [et10] at qt10 hS
    obtain ⟨rfl, N11, Kct10, Tx0⟩ := qt10
    have N12 := Fr.app N9 N11
    replace V1 := V1.keep Kct10 nin0
    replace E1 := E1.keep Kct10
    replace C1 := C1.keep Kct10 nin0
    replace Y1 := Y1.keep Kct10 nin0
    have O13 : Ext Z.heap ht10 := extK O0 Kct10 all0
    have K14 := K0.trans Kct10 all0
    show Goes p e below _ (Tt10.setTop (mkF m 27 #[.val (.ref a1), .val (.int (0 : Int32))] [(.int (own_tc c0))]))
    by_cases t0 : (own_tc c0) = 0
    · refine gIfN Xt10 hx (hb hby d_prog_2_method_2_27) (XT.i0_ne_f t0) ?_
      show Goes p e below _ (Tt10.setTop (mkF m 30 #[.val (.ref a1), .val (.int (0 : Int32))] []))
      refine gIconst Xt10 hx (hb hby d_prog_2_method_2_30) (v := (0 : Int32)) rfl ?_
      exact goRetNW Xt10 hx hS (t := .boolean) hret hlocks (by simp) (hb hby d_prog_2_method_2_31) (z' := (0 : Int32)) rfl (by decide) (by decide) et10 (⟨0, rfl, N12, K14, Or.inr ⟨rfl, Or.inl t0⟩⟩)
    · refine gIfY Xt10 hx (hb hby d_prog_2_method_2_27) (pc' := 32) (XT.i0_ne_t t0) (by decide) (by decide) ?_
      show Goes p e below _ (Tt10.setTop (mkF m 32 #[.val (.ref a1), .val (.int (0 : Int32))] []))
      refine gIinc Xt10 hx (hb hby d_prog_2_method_2_32) (v := (1 : Int32)) rfl rfl (l' := #[.val (.ref a1), .val (.int (1 : Int32))]) rfl ?_
      refine gGoto Xt10 hx (hb hby d_prog_2_method_2_35) (pc' := 11) (by decide) (by decide) ?_
      show Goes p e below _ (Tt10.setTop (mkF m 11 #[.val (.ref a1), .val (.int (1 : Int32))] []))
      refine gIloadN Xt10 hx (hb hby d_prog_2_method_2_11) rfl ?_
      refine gAloadN Xt10 hx (hb hby d_prog_2_method_2_12) rfl rfl ?_
      refine goCallV Xt10 hx hZ hown (hw _ (List.mem_of_getElem? (i := 53) rfl)) (hw _ (List.mem_of_getElem? (i := 54) rfl)) (hw _ (List.mem_of_getElem? (i := 56) rfl)) (hw _ (List.mem_of_getElem? (i := 55) rfl)) (hw _ (List.mem_of_getElem? (i := 10) rfl)) (hw _ (List.mem_of_getElem? (i := 57) rfl)) (by decide) (rmXl30 l Z a0 hw u cs c0 c1 c2 a1 ht10 O13 S_cs hcs E1 V1 C1 Y1) 1 (by decide) (by decide) et10 E1 (hsz rfl) [] [(.int (1 : Int32))] pd_5 rfl rfl rfl (Nat.le_of_eq rfl) (hb hby d_prog_2_method_2_13) (by decide) (by decide) (fun Tt15 vt15 Lt15 Xt15 qt15 => ?_)
      obtain ⟨rfl, N16, et15⟩ := qt15
      have N17 := Fr.app N12 N16
      show Goes p e below _ (Tt15.setTop (mkF m 16 #[.val (.ref a1), .val (.int (1 : Int32))] [(.int (3 : Int32)), (.int (1 : Int32))]))
      refine gIcmpN Xt15 hx (hb hby d_prog_2_method_2_16) (XT.ii_ge_f (by decide)) ?_
      show Goes p e below _ (Tt15.setTop (mkF m 19 #[.val (.ref a1), .val (.int (1 : Int32))] []))
      refine gAloadN Xt15 hx (hb hby d_prog_2_method_2_19) rfl rfl ?_
      refine gIloadN Xt15 hx (hb hby d_prog_2_method_2_20) rfl ?_
      refine goCallV Xt15 hx hZ hown (hw _ (List.mem_of_getElem? (i := 63) rfl)) (hw _ (List.mem_of_getElem? (i := 64) rfl)) (hw _ (List.mem_of_getElem? (i := 66) rfl)) (hw _ (List.mem_of_getElem? (i := 65) rfl)) (hw _ (List.mem_of_getElem? (i := 10) rfl)) (hw _ (List.mem_of_getElem? (i := 67) rfl)) (by decide) (rmXa301 l Z a0 hw fm u cs c0 c1 c2 a1 ht10 O13 S_cs hcs E1 V1 C1 Y1 S_fm rf q0_1 k1 nc1) 0 (by decide) (by decide) et15 E1 (hsz rfl) [(.int (1 : Int32))] [] pd_19 rfl rfl rfl (Nat.le_of_eq rfl) (hb hby d_prog_2_method_2_21) (by decide) (by decide) (fun Tt18 vt18 Lt18 Xt18 qt18 => ?_)
      obtain ⟨rfl, N19, et18⟩ := qt18
      have N20 := Fr.app N17 N19
      show Goes p e below _ (Tt18.setTop (mkF m 24 #[.val (.ref a1), .val (.int (1 : Int32))] [(.int c1)]))
      refine goCallSW Xt18 hx hZ hS hown (hw _ (List.mem_of_getElem? (i := 85) rfl)) (hw _ (List.mem_of_getElem? (i := 86) rfl)) (hw _ (List.mem_of_getElem? (i := 32) rfl)) (hw _ (List.mem_of_getElem? (i := 87) rfl)) (by decide) (rmTc l Z a0 hw cs c1 ht10 O13 S_cs hcs hh hcw q0_1) (fun _ w_ => Tx0.warm w_) 0 (by decide) (by decide) et18 (hsz rfl) [(.int c1)] [] pd_20 rfl rfl rfl (Nat.le_of_eq rfl) (hb hby d_prog_2_method_2_24) (by decide) (by decide) (fun Tt21 vt21 Lt21 Xt21 hZ hown hS wm_t21 qt21 => ?_)
      obtain ⟨ht21, et21⟩ : ∃ z, Tt21.heap = z := ⟨_, rfl⟩
      rw [et21] at qt21 hS
      obtain ⟨rfl, N22, Kct21, Tx1⟩ := qt21
      have N23 := Fr.app N20 N22
      replace V1 := V1.keep Kct21 nin0
      replace E1 := E1.keep Kct21
      replace C1 := C1.keep Kct21 nin0
      replace Y1 := Y1.keep Kct21 nin0
      have O24 : Ext Z.heap ht21 := extK O13 Kct21 all0
      have K25 := K14.trans Kct21 all0
      show Goes p e below _ (Tt21.setTop (mkF m 27 #[.val (.ref a1), .val (.int (1 : Int32))] [(.int (own_tc c1))]))
      by_cases t1 : (own_tc c1) = 0
      · refine gIfN Xt21 hx (hb hby d_prog_2_method_2_27) (XT.i0_ne_f t1) ?_
        show Goes p e below _ (Tt21.setTop (mkF m 30 #[.val (.ref a1), .val (.int (1 : Int32))] []))
        refine gIconst Xt21 hx (hb hby d_prog_2_method_2_30) (v := (0 : Int32)) rfl ?_
        exact goRetNW Xt21 hx hS (t := .boolean) hret hlocks (by simp) (hb hby d_prog_2_method_2_31) (z' := (0 : Int32)) rfl (by decide) (by decide) et21 (⟨0, rfl, N23, K25, Or.inr ⟨rfl, Or.inr (Or.inl t1)⟩⟩)
      · refine gIfY Xt21 hx (hb hby d_prog_2_method_2_27) (pc' := 32) (XT.i0_ne_t t1) (by decide) (by decide) ?_
        show Goes p e below _ (Tt21.setTop (mkF m 32 #[.val (.ref a1), .val (.int (1 : Int32))] []))
        refine gIinc Xt21 hx (hb hby d_prog_2_method_2_32) (v := (2 : Int32)) rfl rfl (l' := #[.val (.ref a1), .val (.int (2 : Int32))]) rfl ?_
        refine gGoto Xt21 hx (hb hby d_prog_2_method_2_35) (pc' := 11) (by decide) (by decide) ?_
        show Goes p e below _ (Tt21.setTop (mkF m 11 #[.val (.ref a1), .val (.int (2 : Int32))] []))
        refine gIloadN Xt21 hx (hb hby d_prog_2_method_2_11) rfl ?_
        refine gAloadN Xt21 hx (hb hby d_prog_2_method_2_12) rfl rfl ?_
        refine goCallV Xt21 hx hZ hown (hw _ (List.mem_of_getElem? (i := 53) rfl)) (hw _ (List.mem_of_getElem? (i := 54) rfl)) (hw _ (List.mem_of_getElem? (i := 56) rfl)) (hw _ (List.mem_of_getElem? (i := 55) rfl)) (hw _ (List.mem_of_getElem? (i := 10) rfl)) (hw _ (List.mem_of_getElem? (i := 57) rfl)) (by decide) (rmXl30 l Z a0 hw u cs c0 c1 c2 a1 ht21 O24 S_cs hcs E1 V1 C1 Y1) 1 (by decide) (by decide) et21 E1 (hsz rfl) [] [(.int (2 : Int32))] pd_5 rfl rfl rfl (Nat.le_of_eq rfl) (hb hby d_prog_2_method_2_13) (by decide) (by decide) (fun Tt26 vt26 Lt26 Xt26 qt26 => ?_)
        obtain ⟨rfl, N27, et26⟩ := qt26
        have N28 := Fr.app N23 N27
        show Goes p e below _ (Tt26.setTop (mkF m 16 #[.val (.ref a1), .val (.int (2 : Int32))] [(.int (3 : Int32)), (.int (2 : Int32))]))
        refine gIcmpN Xt26 hx (hb hby d_prog_2_method_2_16) (XT.ii_ge_f (by decide)) ?_
        show Goes p e below _ (Tt26.setTop (mkF m 19 #[.val (.ref a1), .val (.int (2 : Int32))] []))
        refine gAloadN Xt26 hx (hb hby d_prog_2_method_2_19) rfl rfl ?_
        refine gIloadN Xt26 hx (hb hby d_prog_2_method_2_20) rfl ?_
        refine goCallV Xt26 hx hZ hown (hw _ (List.mem_of_getElem? (i := 63) rfl)) (hw _ (List.mem_of_getElem? (i := 64) rfl)) (hw _ (List.mem_of_getElem? (i := 66) rfl)) (hw _ (List.mem_of_getElem? (i := 65) rfl)) (hw _ (List.mem_of_getElem? (i := 10) rfl)) (hw _ (List.mem_of_getElem? (i := 67) rfl)) (by decide) (rmXa302 l Z a0 hw fm u cs c0 c1 c2 a1 ht21 O24 S_cs hcs E1 V1 C1 Y1 S_fm rf q0_2 k2 nc2) 0 (by decide) (by decide) et26 E1 (hsz rfl) [(.int (2 : Int32))] [] pd_19 rfl rfl rfl (Nat.le_of_eq rfl) (hb hby d_prog_2_method_2_21) (by decide) (by decide) (fun Tt29 vt29 Lt29 Xt29 qt29 => ?_)
        obtain ⟨rfl, N30, et29⟩ := qt29
        have N31 := Fr.app N28 N30
        show Goes p e below _ (Tt29.setTop (mkF m 24 #[.val (.ref a1), .val (.int (2 : Int32))] [(.int c2)]))
        refine goCallSW Xt29 hx hZ hS hown (hw _ (List.mem_of_getElem? (i := 85) rfl)) (hw _ (List.mem_of_getElem? (i := 86) rfl)) (hw _ (List.mem_of_getElem? (i := 32) rfl)) (hw _ (List.mem_of_getElem? (i := 87) rfl)) (by decide) (rmTc l Z a0 hw cs c2 ht21 O24 S_cs hcs hh hcw q0_2) (fun _ w_ => Tx1.warm w_) 0 (by decide) (by decide) et29 (hsz rfl) [(.int c2)] [] pd_20 rfl rfl rfl (Nat.le_of_eq rfl) (hb hby d_prog_2_method_2_24) (by decide) (by decide) (fun Tt32 vt32 Lt32 Xt32 hZ hown hS wm_t32 qt32 => ?_)
        obtain ⟨ht32, et32⟩ : ∃ z, Tt32.heap = z := ⟨_, rfl⟩
        rw [et32] at qt32 hS
        obtain ⟨rfl, N33, Kct32, Tx2⟩ := qt32
        have N34 := Fr.app N31 N33
        replace V1 := V1.keep Kct32 nin0
        replace E1 := E1.keep Kct32
        replace C1 := C1.keep Kct32 nin0
        replace Y1 := Y1.keep Kct32 nin0
        have O35 : Ext Z.heap ht32 := extK O24 Kct32 all0
        have K36 := K25.trans Kct32 all0
        show Goes p e below _ (Tt32.setTop (mkF m 27 #[.val (.ref a1), .val (.int (2 : Int32))] [(.int (own_tc c2))]))
        by_cases t2 : (own_tc c2) = 0
        · refine gIfN Xt32 hx (hb hby d_prog_2_method_2_27) (XT.i0_ne_f t2) ?_
          show Goes p e below _ (Tt32.setTop (mkF m 30 #[.val (.ref a1), .val (.int (2 : Int32))] []))
          refine gIconst Xt32 hx (hb hby d_prog_2_method_2_30) (v := (0 : Int32)) rfl ?_
          exact goRetNW Xt32 hx hS (t := .boolean) hret hlocks (by simp) (hb hby d_prog_2_method_2_31) (z' := (0 : Int32)) rfl (by decide) (by decide) et32 (⟨0, rfl, N34, K36, Or.inr ⟨rfl, Or.inr (Or.inr (t2))⟩⟩)
        · refine gIfY Xt32 hx (hb hby d_prog_2_method_2_27) (pc' := 32) (XT.i0_ne_t t2) (by decide) (by decide) ?_
          show Goes p e below _ (Tt32.setTop (mkF m 32 #[.val (.ref a1), .val (.int (2 : Int32))] []))
          refine gIinc Xt32 hx (hb hby d_prog_2_method_2_32) (v := (3 : Int32)) rfl rfl (l' := #[.val (.ref a1), .val (.int (3 : Int32))]) rfl ?_
          refine gGoto Xt32 hx (hb hby d_prog_2_method_2_35) (pc' := 11) (by decide) (by decide) ?_
          show Goes p e below _ (Tt32.setTop (mkF m 11 #[.val (.ref a1), .val (.int (3 : Int32))] []))
          refine gIloadN Xt32 hx (hb hby d_prog_2_method_2_11) rfl ?_
          refine gAloadN Xt32 hx (hb hby d_prog_2_method_2_12) rfl rfl ?_
          refine goCallV Xt32 hx hZ hown (hw _ (List.mem_of_getElem? (i := 53) rfl)) (hw _ (List.mem_of_getElem? (i := 54) rfl)) (hw _ (List.mem_of_getElem? (i := 56) rfl)) (hw _ (List.mem_of_getElem? (i := 55) rfl)) (hw _ (List.mem_of_getElem? (i := 10) rfl)) (hw _ (List.mem_of_getElem? (i := 57) rfl)) (by decide) (rmXl30 l Z a0 hw u cs c0 c1 c2 a1 ht32 O35 S_cs hcs E1 V1 C1 Y1) 1 (by decide) (by decide) et32 E1 (hsz rfl) [] [(.int (3 : Int32))] pd_5 rfl rfl rfl (Nat.le_of_eq rfl) (hb hby d_prog_2_method_2_13) (by decide) (by decide) (fun Tt37 vt37 Lt37 Xt37 qt37 => ?_)
          obtain ⟨rfl, N38, et37⟩ := qt37
          have N39 := Fr.app N34 N38
          show Goes p e below _ (Tt37.setTop (mkF m 16 #[.val (.ref a1), .val (.int (3 : Int32))] [(.int (3 : Int32)), (.int (3 : Int32))]))
          refine gIcmpY Xt37 hx (hb hby d_prog_2_method_2_16) (pc' := 38) (XT.ii_ge_t (by decide)) (by decide) (by decide) ?_
          show Goes p e below _ (Tt37.setTop (mkF m 38 #[.val (.ref a1), .val (.int (3 : Int32))] []))
          refine gIconst Xt37 hx (hb hby d_prog_2_method_2_38) (v := (1 : Int32)) rfl ?_
          exact goRetNW Xt37 hx hS (t := .boolean) hret hlocks (by simp) (hb hby d_prog_2_method_2_39) (z' := (1 : Int32)) rfl (by decide) (by decide) et37 (⟨1, rfl, N39, K36, Or.inl ⟨rfl, t0, t1, t2⟩⟩)
  · refine gAloadN X0 hx (hb hby d_prog_2_method_2_0) rfl rfl ?_
    refine goCallV X0 hx hZ hown (hw _ (List.mem_of_getElem? (i := 34) rfl)) (hw _ (List.mem_of_getElem? (i := 35) rfl)) (hw _ (List.mem_of_getElem? (i := 37) rfl)) (hw _ (List.mem_of_getElem? (i := 36) rfl)) (hw _ (List.mem_of_getElem? (i := 10) rfl)) (hw _ (List.mem_of_getElem? (i := 38) rfl)) (by decide) (rmXe31 l Z a0 hw u cs c0 c1 c2 a1 h0 O0 S_cs hcs E1 V1 C1 Y1) 0 (by decide) (by decide) e0 E1 (hsz rfl) [] [] pd_4 rfl rfl rfl (Nat.le_of_eq rfl) (hb hby d_prog_2_method_2_1) (by decide) (by decide) (fun Tt40 vt40 Lt40 Xt40 qt40 => ?_)
    obtain ⟨rfl, N41, et40⟩ := qt40
    have N42 := Fr.app N0 N41
    show Goes p e below _ (Tt40.setTop (mkF m 4 #[.val (.ref a1), .unset] [(.int (0 : Int32))]))
    refine gIfY Xt40 hx (hb hby d_prog_2_method_2_4) (pc' := 9) (XT.i0_eq_t (by decide)) (by decide) (by decide) ?_
    show Goes p e below _ (Tt40.setTop (mkF m 9 #[.val (.ref a1), .unset] []))
    refine gIconst Xt40 hx (hb hby d_prog_2_method_2_9) (v := (0 : Int32)) rfl ?_
    refine gIstoreN Xt40 hx (hb hby d_prog_2_method_2_10) (l' := #[.val (.ref a1), .val (.int (0 : Int32))]) rfl ?_
    refine gIloadN Xt40 hx (hb hby d_prog_2_method_2_11) rfl ?_
    refine gAloadN Xt40 hx (hb hby d_prog_2_method_2_12) rfl rfl ?_
    refine goCallV Xt40 hx hZ hown (hw _ (List.mem_of_getElem? (i := 53) rfl)) (hw _ (List.mem_of_getElem? (i := 54) rfl)) (hw _ (List.mem_of_getElem? (i := 56) rfl)) (hw _ (List.mem_of_getElem? (i := 55) rfl)) (hw _ (List.mem_of_getElem? (i := 10) rfl)) (hw _ (List.mem_of_getElem? (i := 57) rfl)) (by decide) (rmXl31 l Z a0 hw u cs c0 c1 c2 a1 h0 O0 S_cs hcs E1 V1 C1 Y1) 1 (by decide) (by decide) et40 E1 (hsz rfl) [] [(.int (0 : Int32))] pd_5 rfl rfl rfl (Nat.le_of_eq rfl) (hb hby d_prog_2_method_2_13) (by decide) (by decide) (fun Tt43 vt43 Lt43 Xt43 qt43 => ?_)
    obtain ⟨rfl, N44, et43⟩ := qt43
    have N45 := Fr.app N42 N44
    show Goes p e below _ (Tt43.setTop (mkF m 16 #[.val (.ref a1), .val (.int (0 : Int32))] [(.int (3 : Int32)), (.int (0 : Int32))]))
    refine gIcmpN Xt43 hx (hb hby d_prog_2_method_2_16) (XT.ii_ge_f (by decide)) ?_
    show Goes p e below _ (Tt43.setTop (mkF m 19 #[.val (.ref a1), .val (.int (0 : Int32))] []))
    refine gAloadN Xt43 hx (hb hby d_prog_2_method_2_19) rfl rfl ?_
    refine gIloadN Xt43 hx (hb hby d_prog_2_method_2_20) rfl ?_
    refine goCallV Xt43 hx hZ hown (hw _ (List.mem_of_getElem? (i := 63) rfl)) (hw _ (List.mem_of_getElem? (i := 64) rfl)) (hw _ (List.mem_of_getElem? (i := 66) rfl)) (hw _ (List.mem_of_getElem? (i := 65) rfl)) (hw _ (List.mem_of_getElem? (i := 10) rfl)) (hw _ (List.mem_of_getElem? (i := 67) rfl)) (by decide) (rmXa310 l Z a0 hw fm u cs c0 c1 c2 a1 h0 O0 S_cs hcs E1 V1 C1 Y1 S_fm rf S_ua S_uh S_ul q0_0 q1_0 nc0) 0 (by decide) (by decide) et43 E1 (hsz rfl) [(.int (0 : Int32))] [] pd_19 rfl rfl rfl (Nat.le_of_eq rfl) (hb hby d_prog_2_method_2_21) (by decide) (by decide) (fun Tt46 vt46 Lt46 Xt46 qt46 => ?_)
    obtain ⟨rfl, N47, et46⟩ := qt46
    have N48 := Fr.app N45 N47
    show Goes p e below _ (Tt46.setTop (mkF m 24 #[.val (.ref a1), .val (.int (0 : Int32))] [(.int c0)]))
    refine goCallSW Xt46 hx hZ hS hown (hw _ (List.mem_of_getElem? (i := 85) rfl)) (hw _ (List.mem_of_getElem? (i := 86) rfl)) (hw _ (List.mem_of_getElem? (i := 32) rfl)) (hw _ (List.mem_of_getElem? (i := 87) rfl)) (by decide) (rmTc l Z a0 hw cs c0 h0 O0 S_cs hcs hh hcw q0_0) (fun _ w_ => hPv.warm w_) 0 (by decide) (by decide) et46 (hsz rfl) [(.int c0)] [] pd_20 rfl rfl rfl (Nat.le_of_eq rfl) (hb hby d_prog_2_method_2_24) (by decide) (by decide) (fun Tt49 vt49 Lt49 Xt49 hZ hown hS wm_t49 qt49 => ?_)
    obtain ⟨ht49, et49⟩ : ∃ z, Tt49.heap = z := ⟨_, rfl⟩
    rw [et49] at qt49 hS
    obtain ⟨rfl, N50, Kct49, Tx0⟩ := qt49
    have N51 := Fr.app N48 N50
    replace V1 := V1.keep Kct49 nin0
    replace E1 := E1.keep Kct49
    replace C1 := C1.keep Kct49 nin0
    replace Y1 := Y1.keep Kct49 nin0
    have O52 : Ext Z.heap ht49 := extK O0 Kct49 all0
    have K53 := K0.trans Kct49 all0
    show Goes p e below _ (Tt49.setTop (mkF m 27 #[.val (.ref a1), .val (.int (0 : Int32))] [(.int (own_tc c0))]))
    by_cases t0 : (own_tc c0) = 0
    · refine gIfN Xt49 hx (hb hby d_prog_2_method_2_27) (XT.i0_ne_f t0) ?_
      show Goes p e below _ (Tt49.setTop (mkF m 30 #[.val (.ref a1), .val (.int (0 : Int32))] []))
      refine gIconst Xt49 hx (hb hby d_prog_2_method_2_30) (v := (0 : Int32)) rfl ?_
      exact goRetNW Xt49 hx hS (t := .boolean) hret hlocks (by simp) (hb hby d_prog_2_method_2_31) (z' := (0 : Int32)) rfl (by decide) (by decide) et49 (⟨0, rfl, N51, K53, Or.inr ⟨rfl, Or.inl t0⟩⟩)
    · refine gIfY Xt49 hx (hb hby d_prog_2_method_2_27) (pc' := 32) (XT.i0_ne_t t0) (by decide) (by decide) ?_
      show Goes p e below _ (Tt49.setTop (mkF m 32 #[.val (.ref a1), .val (.int (0 : Int32))] []))
      refine gIinc Xt49 hx (hb hby d_prog_2_method_2_32) (v := (1 : Int32)) rfl rfl (l' := #[.val (.ref a1), .val (.int (1 : Int32))]) rfl ?_
      refine gGoto Xt49 hx (hb hby d_prog_2_method_2_35) (pc' := 11) (by decide) (by decide) ?_
      show Goes p e below _ (Tt49.setTop (mkF m 11 #[.val (.ref a1), .val (.int (1 : Int32))] []))
      refine gIloadN Xt49 hx (hb hby d_prog_2_method_2_11) rfl ?_
      refine gAloadN Xt49 hx (hb hby d_prog_2_method_2_12) rfl rfl ?_
      refine goCallV Xt49 hx hZ hown (hw _ (List.mem_of_getElem? (i := 53) rfl)) (hw _ (List.mem_of_getElem? (i := 54) rfl)) (hw _ (List.mem_of_getElem? (i := 56) rfl)) (hw _ (List.mem_of_getElem? (i := 55) rfl)) (hw _ (List.mem_of_getElem? (i := 10) rfl)) (hw _ (List.mem_of_getElem? (i := 57) rfl)) (by decide) (rmXl31 l Z a0 hw u cs c0 c1 c2 a1 ht49 O52 S_cs hcs E1 V1 C1 Y1) 1 (by decide) (by decide) et49 E1 (hsz rfl) [] [(.int (1 : Int32))] pd_5 rfl rfl rfl (Nat.le_of_eq rfl) (hb hby d_prog_2_method_2_13) (by decide) (by decide) (fun Tt54 vt54 Lt54 Xt54 qt54 => ?_)
      obtain ⟨rfl, N55, et54⟩ := qt54
      have N56 := Fr.app N51 N55
      show Goes p e below _ (Tt54.setTop (mkF m 16 #[.val (.ref a1), .val (.int (1 : Int32))] [(.int (3 : Int32)), (.int (1 : Int32))]))
      refine gIcmpN Xt54 hx (hb hby d_prog_2_method_2_16) (XT.ii_ge_f (by decide)) ?_
      show Goes p e below _ (Tt54.setTop (mkF m 19 #[.val (.ref a1), .val (.int (1 : Int32))] []))
      refine gAloadN Xt54 hx (hb hby d_prog_2_method_2_19) rfl rfl ?_
      refine gIloadN Xt54 hx (hb hby d_prog_2_method_2_20) rfl ?_
      refine goCallV Xt54 hx hZ hown (hw _ (List.mem_of_getElem? (i := 63) rfl)) (hw _ (List.mem_of_getElem? (i := 64) rfl)) (hw _ (List.mem_of_getElem? (i := 66) rfl)) (hw _ (List.mem_of_getElem? (i := 65) rfl)) (hw _ (List.mem_of_getElem? (i := 10) rfl)) (hw _ (List.mem_of_getElem? (i := 67) rfl)) (by decide) (rmXa311 l Z a0 hw fm u cs c0 c1 c2 a1 ht49 O52 S_cs hcs E1 V1 C1 Y1 S_fm rf S_ua S_uh S_ul q0_1 q1_1 nc1) 0 (by decide) (by decide) et54 E1 (hsz rfl) [(.int (1 : Int32))] [] pd_19 rfl rfl rfl (Nat.le_of_eq rfl) (hb hby d_prog_2_method_2_21) (by decide) (by decide) (fun Tt57 vt57 Lt57 Xt57 qt57 => ?_)
      obtain ⟨rfl, N58, et57⟩ := qt57
      have N59 := Fr.app N56 N58
      show Goes p e below _ (Tt57.setTop (mkF m 24 #[.val (.ref a1), .val (.int (1 : Int32))] [(.int c1)]))
      refine goCallSW Xt57 hx hZ hS hown (hw _ (List.mem_of_getElem? (i := 85) rfl)) (hw _ (List.mem_of_getElem? (i := 86) rfl)) (hw _ (List.mem_of_getElem? (i := 32) rfl)) (hw _ (List.mem_of_getElem? (i := 87) rfl)) (by decide) (rmTc l Z a0 hw cs c1 ht49 O52 S_cs hcs hh hcw q0_1) (fun _ w_ => Tx0.warm w_) 0 (by decide) (by decide) et57 (hsz rfl) [(.int c1)] [] pd_20 rfl rfl rfl (Nat.le_of_eq rfl) (hb hby d_prog_2_method_2_24) (by decide) (by decide) (fun Tt60 vt60 Lt60 Xt60 hZ hown hS wm_t60 qt60 => ?_)
      obtain ⟨ht60, et60⟩ : ∃ z, Tt60.heap = z := ⟨_, rfl⟩
      rw [et60] at qt60 hS
      obtain ⟨rfl, N61, Kct60, Tx1⟩ := qt60
      have N62 := Fr.app N59 N61
      replace V1 := V1.keep Kct60 nin0
      replace E1 := E1.keep Kct60
      replace C1 := C1.keep Kct60 nin0
      replace Y1 := Y1.keep Kct60 nin0
      have O63 : Ext Z.heap ht60 := extK O52 Kct60 all0
      have K64 := K53.trans Kct60 all0
      show Goes p e below _ (Tt60.setTop (mkF m 27 #[.val (.ref a1), .val (.int (1 : Int32))] [(.int (own_tc c1))]))
      by_cases t1 : (own_tc c1) = 0
      · refine gIfN Xt60 hx (hb hby d_prog_2_method_2_27) (XT.i0_ne_f t1) ?_
        show Goes p e below _ (Tt60.setTop (mkF m 30 #[.val (.ref a1), .val (.int (1 : Int32))] []))
        refine gIconst Xt60 hx (hb hby d_prog_2_method_2_30) (v := (0 : Int32)) rfl ?_
        exact goRetNW Xt60 hx hS (t := .boolean) hret hlocks (by simp) (hb hby d_prog_2_method_2_31) (z' := (0 : Int32)) rfl (by decide) (by decide) et60 (⟨0, rfl, N62, K64, Or.inr ⟨rfl, Or.inr (Or.inl t1)⟩⟩)
      · refine gIfY Xt60 hx (hb hby d_prog_2_method_2_27) (pc' := 32) (XT.i0_ne_t t1) (by decide) (by decide) ?_
        show Goes p e below _ (Tt60.setTop (mkF m 32 #[.val (.ref a1), .val (.int (1 : Int32))] []))
        refine gIinc Xt60 hx (hb hby d_prog_2_method_2_32) (v := (2 : Int32)) rfl rfl (l' := #[.val (.ref a1), .val (.int (2 : Int32))]) rfl ?_
        refine gGoto Xt60 hx (hb hby d_prog_2_method_2_35) (pc' := 11) (by decide) (by decide) ?_
        show Goes p e below _ (Tt60.setTop (mkF m 11 #[.val (.ref a1), .val (.int (2 : Int32))] []))
        refine gIloadN Xt60 hx (hb hby d_prog_2_method_2_11) rfl ?_
        refine gAloadN Xt60 hx (hb hby d_prog_2_method_2_12) rfl rfl ?_
        refine goCallV Xt60 hx hZ hown (hw _ (List.mem_of_getElem? (i := 53) rfl)) (hw _ (List.mem_of_getElem? (i := 54) rfl)) (hw _ (List.mem_of_getElem? (i := 56) rfl)) (hw _ (List.mem_of_getElem? (i := 55) rfl)) (hw _ (List.mem_of_getElem? (i := 10) rfl)) (hw _ (List.mem_of_getElem? (i := 57) rfl)) (by decide) (rmXl31 l Z a0 hw u cs c0 c1 c2 a1 ht60 O63 S_cs hcs E1 V1 C1 Y1) 1 (by decide) (by decide) et60 E1 (hsz rfl) [] [(.int (2 : Int32))] pd_5 rfl rfl rfl (Nat.le_of_eq rfl) (hb hby d_prog_2_method_2_13) (by decide) (by decide) (fun Tt65 vt65 Lt65 Xt65 qt65 => ?_)
        obtain ⟨rfl, N66, et65⟩ := qt65
        have N67 := Fr.app N62 N66
        show Goes p e below _ (Tt65.setTop (mkF m 16 #[.val (.ref a1), .val (.int (2 : Int32))] [(.int (3 : Int32)), (.int (2 : Int32))]))
        refine gIcmpN Xt65 hx (hb hby d_prog_2_method_2_16) (XT.ii_ge_f (by decide)) ?_
        show Goes p e below _ (Tt65.setTop (mkF m 19 #[.val (.ref a1), .val (.int (2 : Int32))] []))
        refine gAloadN Xt65 hx (hb hby d_prog_2_method_2_19) rfl rfl ?_
        refine gIloadN Xt65 hx (hb hby d_prog_2_method_2_20) rfl ?_
        refine goCallV Xt65 hx hZ hown (hw _ (List.mem_of_getElem? (i := 63) rfl)) (hw _ (List.mem_of_getElem? (i := 64) rfl)) (hw _ (List.mem_of_getElem? (i := 66) rfl)) (hw _ (List.mem_of_getElem? (i := 65) rfl)) (hw _ (List.mem_of_getElem? (i := 10) rfl)) (hw _ (List.mem_of_getElem? (i := 67) rfl)) (by decide) (rmXa312 l Z a0 hw fm u cs c0 c1 c2 a1 ht60 O63 S_cs hcs E1 V1 C1 Y1 S_fm rf S_ua S_uh S_ul q0_2 q1_2 nc2) 0 (by decide) (by decide) et65 E1 (hsz rfl) [(.int (2 : Int32))] [] pd_19 rfl rfl rfl (Nat.le_of_eq rfl) (hb hby d_prog_2_method_2_21) (by decide) (by decide) (fun Tt68 vt68 Lt68 Xt68 qt68 => ?_)
        obtain ⟨rfl, N69, et68⟩ := qt68
        have N70 := Fr.app N67 N69
        show Goes p e below _ (Tt68.setTop (mkF m 24 #[.val (.ref a1), .val (.int (2 : Int32))] [(.int c2)]))
        refine goCallSW Xt68 hx hZ hS hown (hw _ (List.mem_of_getElem? (i := 85) rfl)) (hw _ (List.mem_of_getElem? (i := 86) rfl)) (hw _ (List.mem_of_getElem? (i := 32) rfl)) (hw _ (List.mem_of_getElem? (i := 87) rfl)) (by decide) (rmTc l Z a0 hw cs c2 ht60 O63 S_cs hcs hh hcw q0_2) (fun _ w_ => Tx1.warm w_) 0 (by decide) (by decide) et68 (hsz rfl) [(.int c2)] [] pd_20 rfl rfl rfl (Nat.le_of_eq rfl) (hb hby d_prog_2_method_2_24) (by decide) (by decide) (fun Tt71 vt71 Lt71 Xt71 hZ hown hS wm_t71 qt71 => ?_)
        obtain ⟨ht71, et71⟩ : ∃ z, Tt71.heap = z := ⟨_, rfl⟩
        rw [et71] at qt71 hS
        obtain ⟨rfl, N72, Kct71, Tx2⟩ := qt71
        have N73 := Fr.app N70 N72
        replace V1 := V1.keep Kct71 nin0
        replace E1 := E1.keep Kct71
        replace C1 := C1.keep Kct71 nin0
        replace Y1 := Y1.keep Kct71 nin0
        have O74 : Ext Z.heap ht71 := extK O63 Kct71 all0
        have K75 := K64.trans Kct71 all0
        show Goes p e below _ (Tt71.setTop (mkF m 27 #[.val (.ref a1), .val (.int (2 : Int32))] [(.int (own_tc c2))]))
        by_cases t2 : (own_tc c2) = 0
        · refine gIfN Xt71 hx (hb hby d_prog_2_method_2_27) (XT.i0_ne_f t2) ?_
          show Goes p e below _ (Tt71.setTop (mkF m 30 #[.val (.ref a1), .val (.int (2 : Int32))] []))
          refine gIconst Xt71 hx (hb hby d_prog_2_method_2_30) (v := (0 : Int32)) rfl ?_
          exact goRetNW Xt71 hx hS (t := .boolean) hret hlocks (by simp) (hb hby d_prog_2_method_2_31) (z' := (0 : Int32)) rfl (by decide) (by decide) et71 (⟨0, rfl, N73, K75, Or.inr ⟨rfl, Or.inr (Or.inr (t2))⟩⟩)
        · refine gIfY Xt71 hx (hb hby d_prog_2_method_2_27) (pc' := 32) (XT.i0_ne_t t2) (by decide) (by decide) ?_
          show Goes p e below _ (Tt71.setTop (mkF m 32 #[.val (.ref a1), .val (.int (2 : Int32))] []))
          refine gIinc Xt71 hx (hb hby d_prog_2_method_2_32) (v := (3 : Int32)) rfl rfl (l' := #[.val (.ref a1), .val (.int (3 : Int32))]) rfl ?_
          refine gGoto Xt71 hx (hb hby d_prog_2_method_2_35) (pc' := 11) (by decide) (by decide) ?_
          show Goes p e below _ (Tt71.setTop (mkF m 11 #[.val (.ref a1), .val (.int (3 : Int32))] []))
          refine gIloadN Xt71 hx (hb hby d_prog_2_method_2_11) rfl ?_
          refine gAloadN Xt71 hx (hb hby d_prog_2_method_2_12) rfl rfl ?_
          refine goCallV Xt71 hx hZ hown (hw _ (List.mem_of_getElem? (i := 53) rfl)) (hw _ (List.mem_of_getElem? (i := 54) rfl)) (hw _ (List.mem_of_getElem? (i := 56) rfl)) (hw _ (List.mem_of_getElem? (i := 55) rfl)) (hw _ (List.mem_of_getElem? (i := 10) rfl)) (hw _ (List.mem_of_getElem? (i := 57) rfl)) (by decide) (rmXl31 l Z a0 hw u cs c0 c1 c2 a1 ht71 O74 S_cs hcs E1 V1 C1 Y1) 1 (by decide) (by decide) et71 E1 (hsz rfl) [] [(.int (3 : Int32))] pd_5 rfl rfl rfl (Nat.le_of_eq rfl) (hb hby d_prog_2_method_2_13) (by decide) (by decide) (fun Tt76 vt76 Lt76 Xt76 qt76 => ?_)
          obtain ⟨rfl, N77, et76⟩ := qt76
          have N78 := Fr.app N73 N77
          show Goes p e below _ (Tt76.setTop (mkF m 16 #[.val (.ref a1), .val (.int (3 : Int32))] [(.int (3 : Int32)), (.int (3 : Int32))]))
          refine gIcmpY Xt76 hx (hb hby d_prog_2_method_2_16) (pc' := 38) (XT.ii_ge_t (by decide)) (by decide) (by decide) ?_
          show Goes p e below _ (Tt76.setTop (mkF m 38 #[.val (.ref a1), .val (.int (3 : Int32))] []))
          refine gIconst Xt76 hx (hb hby d_prog_2_method_2_38) (v := (1 : Int32)) rfl ?_
          exact goRetNW Xt76 hx hS (t := .boolean) hret hlocks (by simp) (hb hby d_prog_2_method_2_39) (z' := (1 : Int32)) rfl (by decide) (by decide) et76 (⟨1, rfl, N78, K75, Or.inl ⟨rfl, t0, t1, t2⟩⟩)
theorem d_jdk_42_method_149_8 : decode jdk_42_method_149_code 8 = .ok (.aload_n 0, 1) := by decide +kernel
theorem d_jdk_42_method_149_9 : decode jdk_42_method_149_code 9 = .ok (.ldc 7, 2) := by decide +kernel
theorem d_jdk_42_method_149_11 : decode jdk_42_method_149_code 11 = .ok (.getfield 9, 3) := by decide +kernel
theorem d_jdk_42_method_149_14 : decode jdk_42_method_149_code 14 = .ok (.putfield 9, 3) := by decide +kernel
theorem d_jdk_42_method_149_17 : decode jdk_42_method_149_code 17 = .ok (.aload_n 0, 1) := by decide +kernel
theorem d_jdk_42_method_149_18 : decode jdk_42_method_149_code 18 = .ok (.ldc 7, 2) := by decide +kernel
theorem d_jdk_42_method_149_20 : decode jdk_42_method_149_code 20 = .ok (.getfield 15, 3) := by decide +kernel
theorem d_jdk_42_method_149_23 : decode jdk_42_method_149_code 23 = .ok (.putfield 15, 3) := by decide +kernel
theorem d_jdk_42_method_149_26 : decode jdk_42_method_149_code 26 = .ok (.return_, 1) := by decide +kernel
theorem ef_rmSd0 (m : MethodId) (x0 : Addr) (x1 : Addr) (x2 : Int32) (x3 : Int32) : entryFrame m #[(.ref x0), (.ref x1), (.int x2), (.int x3), .null] 6 = mkF m 0 #[.val (.ref x0), .val (.ref x1), .val (.int x2), .val (.int x3), .val .null, .unset] [] := by first | (simp [entryFrame, mkF, argsToLocals, Value.category]; done) | rfl
set_option maxRecDepth 65536 in
set_option maxHeartbeats 40000000 in
theorem rmSd0 (l : Launch) (Z : State) (a0 : Array Value) (hw : ∀ d ∈ tables_1, d.before a0 Z = true)  (a1 : Addr) (a2 : Addr) (h0 : Heap) (O0 : Ext Z.heap h0) (he : Jvm.Lit.constHeld Z "java/lang/String" 7) (hcw : Jvm.Lit.compactW.before a0 Z = true) (E1 : Exa Z h0 a1 "java/lang/String") (F1 : Fld Z h0 a1 "java/lang/String" "value" "[B" .null) (F2 : Fld Z h0 a1 "java/lang/String" "coder" "B" (.int (0 : Int32))) (Y2 : Ary Z h0 a2 .char []) (ne : a1 ≠ a2) (fr1 : Z.heap.size ≤ a1) :
    CtrW l Z (⟨"java/lang/String", "<init>", "([CIILjava/lang/Void;)V"⟩ : MethodName) jdk_42_method_149_code 6 none [] ({ frames := 1, cells := 2, slots := 4, locals := 12 } : Room) #[(.ref a1), (.ref a2), (.int (0 : Int32)), (.int (0 : Int32)), .null] h0 (fun vm => IB Z vm []) (fun v h L vm => v = none ∧ Fr Z.heap.size L ∧ Keep h0 h [a1] ∧ ∃ u, Fld Z h a1 "java/lang/String" "value" "[B" (.ref u) ∧ Ary Z h u .byte []) := by
  refine ctrW (plainFor_of_name pn_1) ?_
  intro p e s m below meth c s₁ vm0 hx hby hml hown hnm hret hlocks hZ X0 e0 hS hh0 hPv
  have N0 := Fr.nil Z.heap.size
  have hsz : ∀ {Ls : Array Slot}, Ls.size = 6 → Ls.size = c.maxLocals := fun q => q.trans hml.symm
  have K0 := Keep.refl h0 [a1]
  refine goE (ef_rmSd0 m (a1) (a2) ((0 : Int32)) ((0 : Int32))) ?_
  show Goes p e below _ (s₁.setTop (mkF m 0 #[.val (.ref a1), .val (.ref a2), .val (.int (0 : Int32)), .val (.int (0 : Int32)), .val .null, .unset] []))
  refine gAloadN X0 hx (hb hby d_jdk_42_method_149_0) rfl rfl ?_
  obtain ⟨Tt1, Xt1, et1, stt1⟩ := initO X0 hx hZ hown (hw _ (List.mem_of_getElem? (i := 19) rfl)) (hw _ (List.mem_of_getElem? (i := 20) rfl)) (hw _ (List.mem_of_getElem? (i := 21) rfl)) e0 (g := (mkF m 1 #[.val (.ref a1), .val (.ref a2), .val (.int (0 : Int32)), .val (.int (0 : Int32)), .val .null, .unset] [(.ref a1)])) rfl (by rw [hml]; rfl) rfl (hb hby d_jdk_42_method_149_1) (by decide) (W := 0) (Nat.le_of_eq rfl) (by decide)
  refine go stt1 ?_
  show Goes p e below _ (Tt1.setTop (mkF m 4 #[.val (.ref a1), .val (.ref a2), .val (.int (0 : Int32)), .val (.int (0 : Int32)), .val .null, .unset] []))
  refine gIloadN Xt1 hx (hb hby d_jdk_42_method_149_4) rfl ?_
  refine gIfN Xt1 hx (hb hby d_jdk_42_method_149_5) (XT.i0_ne_f (by decide)) ?_
  show Goes p e below _ (Tt1.setTop (mkF m 8 #[.val (.ref a1), .val (.ref a2), .val (.int (0 : Int32)), .val (.int (0 : Int32)), .val .null, .unset] []))
  refine gAloadN Xt1 hx (hb hby d_jdk_42_method_149_8) rfl rfl ?_
  obtain ⟨kt2, sat2, sbt2⟩ := hS
  obtain ⟨at2, Tt2, ht2, kkt2, bt2, kct2, Xt2, et2, Et2, snt2, knt2, hZ, hown, Eat2, Fct2, Fvt2, Yvt2, lat2, lbt2, IBt2, Lit2, stt2⟩ := ldcSVL Xt1 hx hZ hown (hw _ (List.mem_of_getElem? (i := 22) rfl)) (own_wS hw) et1 sat2 sbt2 (Fr.nil _) (fun b cl q => by rw [hh0]; exact O0.2 b cl q) hPv (by simp) he hcw (vs := []) (z := (0 : Int32)) ⟨by decide, rfl⟩ (by decide) (by decide) (g := (mkF m 9 #[.val (.ref a1), .val (.ref a2), .val (.int (0 : Int32)), .val (.int (0 : Int32)), .val .null, .unset] [(.ref a1)])) rfl (hb hby d_jdk_42_method_149_9) (n := 0) (by decide) (by decide) (by decide) (by decide)
  refine go stt2 ?_
  have hS : Sn s Tt2.vm ht2 := ⟨_, snt2, knt2⟩
  replace E1 := E1.ext Et2
  replace F1 := F1.ext Et2
  replace F2 := F2.ext Et2
  have O3 : Ext Z.heap ht2 := extT O0 Et2
  have K4 := K0.ext Et2
  have Yct2 := Arv.ary Yvt2 (by decide)
  show Goes p e below _ (Tt2.setTop (mkF m 11 #[.val (.ref a1), .val (.ref a2), .val (.int (0 : Int32)), .val (.int (0 : Int32)), .val .null, .unset] [(.ref at2), (.ref a1)]))
  have ne_ea : at2 ≠ a1 := Fld.ne Fvt2 F1 (fun q => nomatch q)
  have ne_eb : bt2 ≠ a1 := own_ane Yct2 F1
  obtain ⟨Tt5, Xt5, et5, stt5⟩ := getF Xt2 hx hZ hown (host := "") (Or.inl (hw _ (List.mem_of_getElem? (i := 28) rfl))) Via.refl et2 Fvt2 (g := (mkF m 11 #[.val (.ref a1), .val (.ref a2), .val (.int (0 : Int32)), .val (.int (0 : Int32)), .val .null, .unset] [(.ref at2), (.ref a1)])) rfl rfl (hb hby d_jdk_42_method_149_11)
  refine go stt5 ?_
  show Goes p e below _ (Tt5.setTop (mkF m 14 #[.val (.ref a1), .val (.ref a2), .val (.int (0 : Int32)), .val (.int (0 : Int32)), .val .null, .unset] [(.ref bt2), (.ref a1)]))
  obtain ⟨Tt6, ht6, Xt6, et6, Wt6, stt6⟩ := putF Xt5 hx hZ hown (host := "") (Or.inl (hw _ (List.mem_of_getElem? (i := 28) rfl))) Via.refl et5 F1 E1 (Or.inr ⟨(hw _ (List.mem_of_getElem? (i := 24) rfl)), rfl, hnm⟩) (hw _ (List.mem_of_getElem? (i := 9) rfl)) (ty := (.array .byte)) (by decide) rfl rfl (g := (mkF m 14 #[.val (.ref a1), .val (.ref a2), .val (.int (0 : Int32)), .val (.int (0 : Int32)), .val .null, .unset] [(.ref bt2), (.ref a1)])) rfl rfl (hb hby d_jdk_42_method_149_14)
  refine go stt6 ?_
  have N7 := Fr.snoc Xt6 N0 fr1
  replace F1 := F1.same Wt6
  replace E1 := E1.wr Wt6
  replace F2 := F2.other Wt6 (Or.inr (slot_ne (Or.inr (hw _ (List.mem_of_getElem? (i := 25) rfl))) (Or.inr (hw _ (List.mem_of_getElem? (i := 24) rfl))) (by decide) (t := .byte) (by decide) (t' := (.array .byte)) (by decide)))
  replace Fct2 := Fct2.other Wt6 (Or.inl ne_ea)
  replace Fvt2 := Fvt2.other Wt6 (Or.inl ne_ea)
  replace Yct2 := Yct2.other Wt6 ne_eb
  have O8 : Ext Z.heap ht6 := extW O3 Wt6 fr1
  replace hS := hS.wr Wt6
  have K9 := K4.wr Wt6 (Or.inl (by simp))
  show Goes p e below _ (Tt6.setTop (mkF m 17 #[.val (.ref a1), .val (.ref a2), .val (.int (0 : Int32)), .val (.int (0 : Int32)), .val .null, .unset] []))
  refine gAloadN Xt6 hx (hb hby d_jdk_42_method_149_17) rfl rfl ?_
  refine go (ldcAgain Xt6 hx hZ hown (hw _ (List.mem_of_getElem? (i := 22) rfl)) Lit2 (g := (mkF m 18 #[.val (.ref a1), .val (.ref a2), .val (.int (0 : Int32)), .val (.int (0 : Int32)), .val .null, .unset] [(.ref a1)])) rfl (hb hby d_jdk_42_method_149_18)) ?_
  show Goes p e below _ (Tt6.setTop (mkF m 20 #[.val (.ref a1), .val (.ref a2), .val (.int (0 : Int32)), .val (.int (0 : Int32)), .val .null, .unset] [(.ref at2), (.ref a1)]))
  obtain ⟨Tt10, Xt10, et10, stt10⟩ := getF Xt6 hx hZ hown (host := "") (Or.inl (hw _ (List.mem_of_getElem? (i := 29) rfl))) Via.refl et6 Fct2 (g := (mkF m 20 #[.val (.ref a1), .val (.ref a2), .val (.int (0 : Int32)), .val (.int (0 : Int32)), .val .null, .unset] [(.ref at2), (.ref a1)])) rfl rfl (hb hby d_jdk_42_method_149_20)
  refine go stt10 ?_
  show Goes p e below _ (Tt10.setTop (mkF m 23 #[.val (.ref a1), .val (.ref a2), .val (.int (0 : Int32)), .val (.int (0 : Int32)), .val .null, .unset] [(.int (0 : Int32)), (.ref a1)]))
  obtain ⟨Tt11, ht11, Xt11, et11, Wt11, stt11⟩ := putF Xt10 hx hZ hown (host := "") (Or.inl (hw _ (List.mem_of_getElem? (i := 29) rfl))) Via.refl et10 F2 E1 (Or.inr ⟨(hw _ (List.mem_of_getElem? (i := 25) rfl)), rfl, hnm⟩) (hw _ (List.mem_of_getElem? (i := 9) rfl)) (ty := .byte) (by decide) rfl rfl (g := (mkF m 23 #[.val (.ref a1), .val (.ref a2), .val (.int (0 : Int32)), .val (.int (0 : Int32)), .val .null, .unset] [(.int (0 : Int32)), (.ref a1)])) rfl rfl (hb hby d_jdk_42_method_149_23)
  refine go stt11 ?_
  have N12 := Fr.snoc Xt11 N7 fr1
  replace F2 := F2.same Wt11
  replace E1 := E1.wr Wt11
  replace F1 := F1.other Wt11 (Or.inr (slot_ne (Or.inr (hw _ (List.mem_of_getElem? (i := 24) rfl))) (Or.inr (hw _ (List.mem_of_getElem? (i := 25) rfl))) (by decide) (t := (.array .byte)) (by decide) (t' := .byte) (by decide)))
  replace Fct2 := Fct2.other Wt11 (Or.inl ne_ea)
  replace Fvt2 := Fvt2.other Wt11 (Or.inl ne_ea)
  replace Yct2 := Yct2.other Wt11 ne_eb
  have O13 : Ext Z.heap ht11 := extW O8 Wt11 fr1
  replace hS := hS.wr Wt11
  have K14 := K9.wr Wt11 (Or.inl (by simp))
  show Goes p e below _ (Tt11.setTop (mkF m 26 #[.val (.ref a1), .val (.ref a2), .val (.int (0 : Int32)), .val (.int (0 : Int32)), .val .null, .unset] []))
  exact goRet0W Xt11 hx hS hret hlocks (hb hby d_jdk_42_method_149_26) (by decide) (by decide) et11 (⟨rfl, N12, K14, bt2, F1, Yct2⟩)
theorem ef_rmS0 (m : MethodId) (x0 : Addr) (x1 : Addr) : entryFrame m #[(.ref x0), (.ref x1)] 2 = mkF m 0 #[.val (.ref x0), .val (.ref x1)] [] := by first | (simp [entryFrame, mkF, argsToLocals, Value.category]; done) | rfl
set_option maxRecDepth 65536 in
set_option maxHeartbeats 40000000 in
theorem rmS0 (l : Launch) (Z : State) (a0 : Array Value) (hw : ∀ d ∈ tables_1, d.before a0 Z = true)  (a1 : Addr) (a2 : Addr) (h0 : Heap) (O0 : Ext Z.heap h0) (he : Jvm.Lit.constHeld Z "java/lang/String" 7) (hcw : Jvm.Lit.compactW.before a0 Z = true) (E1 : Exa Z h0 a1 "java/lang/String") (F1 : Fld Z h0 a1 "java/lang/String" "value" "[B" .null) (F2 : Fld Z h0 a1 "java/lang/String" "coder" "B" (.int (0 : Int32))) (Y2 : Ary Z h0 a2 .char []) (ne : a1 ≠ a2) (fr1 : Z.heap.size ≤ a1) :
    CtrW l Z (⟨"java/lang/String", "<init>", "([C)V"⟩ : MethodName) jdk_42_method_3_code 2 none [] ({ frames := 2, cells := 2, slots := 4, locals := 29 } : Room) #[(.ref a1), (.ref a2)] h0 (fun vm => IB Z vm []) (fun v h L vm => v = none ∧ Fr Z.heap.size L ∧ Keep h0 h [a1] ∧ ∃ u, Fld Z h a1 "java/lang/String" "value" "[B" (.ref u) ∧ Ary Z h u .byte []) := by
  refine ctrW (plainFor_of_name pn_1) ?_
  intro p e s m below meth c s₁ vm0 hx hby hml hown hnm hret hlocks hZ X0 e0 hS hh0 hPv
  have N0 := Fr.nil Z.heap.size
  have hsz : ∀ {Ls : Array Slot}, Ls.size = 2 → Ls.size = c.maxLocals := fun q => q.trans hml.symm
  have K0 := Keep.refl h0 [a1]
  refine goE (ef_rmS0 m (a1) (a2)) ?_
  show Goes p e below _ (s₁.setTop (mkF m 0 #[.val (.ref a1), .val (.ref a2)] []))
  refine gAloadN X0 hx (hb hby d_jdk_42_method_3_0) rfl rfl ?_
  refine gAloadN X0 hx (hb hby d_jdk_42_method_3_1) rfl rfl ?_
  refine gIconst X0 hx (hb hby d_jdk_42_method_3_2) (v := (0 : Int32)) rfl ?_
  refine gAloadN X0 hx (hb hby d_jdk_42_method_3_3) rfl rfl ?_
  refine goAlen X0 hx hZ e0 Y2 (n := (0 : Int32)) (hb hby d_jdk_42_method_3_4) rfl ?_
  refine gAnull X0 hx (hb hby d_jdk_42_method_3_5) ?_
  refine goCallIW X0 hx hZ hS rfl hown (hw _ (List.mem_of_getElem? (i := 15) rfl)) (hw _ (List.mem_of_getElem? (i := 16) rfl)) (hw _ (List.mem_of_getElem? (i := 10) rfl)) (hw _ (List.mem_of_getElem? (i := 18) rfl)) (by decide) (rmSd0 l Z a0 hw a1 a2 h0 O0 he hcw E1 F1 F2 Y2 ne fr1) (fun _ w_ => IB.warm hPv w_) 0 (by decide) (by decide) e0 (hsz rfl) a1 [(.ref a2), (.int (0 : Int32)), (.int (0 : Int32)), .null] [] pd_14 rfl rfl rfl (Nat.le_of_eq rfl) (hb hby d_jdk_42_method_3_6) (by decide) (by decide) (fun Tt1 vt1 Lt1 Xt1 hZ hown hS wm_t1 qt1 => ?_)
  obtain ⟨ht1, et1⟩ : ∃ z, Tt1.heap = z := ⟨_, rfl⟩
  rw [et1] at qt1 hS
  obtain ⟨rfl, N2, Kct1, u, Gv, Gy⟩ := qt1
  have N3 := Fr.app N0 N2
  replace E1 := E1.keep Kct1
  replace Y2 := Y2.keep Kct1 (ninS (Ne.symm ne) nin0)
  have O4 : Ext Z.heap ht1 := extK O0 Kct1 (allS fr1 all0)
  have K5 := K0.trans Kct1 (allS (Or.inl (by simp)) all0)
  show Goes p e below _ (Tt1.setTop (mkF m 9 #[.val (.ref a1), .val (.ref a2)] []))
  exact goRet0W Xt1 hx hS hret hlocks (hb hby d_jdk_42_method_3_9) (by decide) (by decide) et1 (⟨rfl, N3, K5, u, Gv, Gy⟩)
theorem d_method_4_4 : decode method_4_code 4 = .ok (.new 9, 3) := by decide +kernel
theorem d_method_4_7 : decode method_4_code 7 = .ok (.dup, 1) := by decide +kernel
theorem d_method_4_8 : decode method_4_code 8 = .ok (.iconst 0, 1) := by decide +kernel
theorem d_method_4_9 : decode method_4_code 9 = .ok (.newarray .char, 2) := by decide +kernel
theorem d_method_4_11 : decode method_4_code 11 = .ok (.invokespecial 11, 3) := by decide +kernel
theorem d_method_4_14 : decode method_4_code 14 = .ok (.areturn, 1) := by decide +kernel
theorem ef_rmBd0 (m : MethodId) (x0 : Int32) (x1 : Int32) (x2 : Int32) (x3 : Int32) : entryFrame m #[(.int x0), (.int x1), (.int x2), (.int x3)] 4 = mkF m 0 #[.val (.int x0), .val (.int x1), .val (.int x2), .val (.int x3)] [] := by first | (simp [entryFrame, mkF, argsToLocals, Value.category]; done) | rfl
set_option maxRecDepth 65536 in
set_option maxHeartbeats 40000000 in
theorem rmBd0 (l : Launch) (Z : State) (a0 : Array Value) (hw : ∀ d ∈ tables_1, d.before a0 Z = true)  (c0 : Int32) (c1 : Int32) (c2 : Int32) (h0 : Heap) (O0 : Ext Z.heap h0) (he : Jvm.Lit.constHeld Z "java/lang/String" 7) (hcw : Jvm.Lit.compactW.before a0 Z = true) :
    CtrW l Z (⟨"com/example/rolegate/rolegate/HttpSyntaxIsTokenPinLaw", "build", "(ICCC)Ljava/lang/String;"⟩ : MethodName) method_4_code 4 (some (.object "java/lang/String")) [] ({ frames := 3, cells := 4, slots := 8, locals := 43 } : Room) #[(.int (0 : Int32)), (.int c0), (.int c1), (.int c2)] h0 (fun vm => IB Z vm []) (fun v h L vm => ∃ b_, v = some (.ref b_) ∧ Fr Z.heap.size L ∧ Keep h0 h [] ∧ Exa Z h b_ "java/lang/String" ∧ ∃ u, Fld Z h b_ "java/lang/String" "value" "[B" (.ref u) ∧ Ary Z h u .byte []) := by
  refine ctrW (plainFor_of_name pn_5) ?_
  intro p e s m below meth c s₁ vm0 hx hby hml hown hnm hret hlocks hZ X0 e0 hS hh0 hPv
  have N0 := Fr.nil Z.heap.size
  have hsz : ∀ {Ls : Array Slot}, Ls.size = 4 → Ls.size = c.maxLocals := fun q => q.trans hml.symm
  have K0 := Keep.refl h0 []
  refine goE (ef_rmBd0 m ((0 : Int32)) (c0) (c1) (c2)) ?_
  show Goes p e below _ (s₁.setTop (mkF m 0 #[.val (.int (0 : Int32)), .val (.int c0), .val (.int c1), .val (.int c2)] []))
  refine gIloadN X0 hx (hb hby d_method_4_0) rfl ?_
  refine gIfN X0 hx (hb hby d_method_4_1) (XT.i0_ne_f rfl) ?_
  show Goes p e below _ (s₁.setTop (mkF m 4 #[.val (.int (0 : Int32)), .val (.int c0), .val (.int c1), .val (.int c2)] []))
  obtain ⟨Tt1, ht1, Xt1, et1, Et1, At1, Dt1, -, stt1⟩ := newO X0 hx hZ hown (hw _ (List.mem_of_getElem? (i := 8) rfl)) (hw _ (List.mem_of_getElem? (i := 9) rfl)) (hw _ (List.mem_of_getElem? (i := 10) rfl)) e0 (g := (mkF m 4 #[.val (.int (0 : Int32)), .val (.int c0), .val (.int c1), .val (.int c2)] [])) rfl (hb hby d_method_4_4) (by decide) (by decide)
  obtain ⟨ob2, gob2⟩ : ∃ z, z = h0.size := ⟨_, rfl⟩
  rw [← gob2] at At1 Dt1 stt1
  refine go stt1 ?_
  have fr_ob2 : Z.heap.size ≤ ob2 := gob2 ▸ O0.1
  have pa_ob2 : h0.size ≤ ob2 := gob2 ▸ K0.1
  have O3 : Ext Z.heap ht1 := extT O0 Et1
  replace hS := hS.ext Et1
  have K4 := K0.ext Et1
  have F_value_ob2 : Fld Z ht1 ob2 "java/lang/String" "value" "[B" .null := Dt1 (Or.inr (hw _ (List.mem_of_getElem? (i := 24) rfl))) (ty := (.array .byte)) (by decide)
  have F_coder_ob2 : Fld Z ht1 ob2 "java/lang/String" "coder" "B" (.int (0 : Int32)) := Dt1 (Or.inr (hw _ (List.mem_of_getElem? (i := 25) rfl))) (ty := .byte) (by decide)
  show Goes p e below _ (Tt1.setTop (mkF m 7 #[.val (.int (0 : Int32)), .val (.int c0), .val (.int c1), .val (.int c2)] [(.ref ob2)]))
  refine gDup Xt1 hx (hb hby d_method_4_7) rfl ?_
  refine gIconst Xt1 hx (hb hby d_method_4_8) (v := (0 : Int32)) rfl ?_
  obtain ⟨Tt5, ht5, kt5, Xt5, et5, Et5, At5, stt5⟩ := newP Xt1 hx hZ (hw _ (List.mem_of_getElem? (i := 11) rfl)) et1 (g := (mkF m 9 #[.val (.int (0 : Int32)), .val (.int c0), .val (.int c1), .val (.int c2)] [(.int (0 : Int32)), (.ref ob2), (.ref ob2)])) rfl (hb hby d_method_4_9) rfl (by decide) (cap := 0) (by decide) (by decide) (by decide) (by decide)
  obtain ⟨ob6, gob6⟩ : ∃ z, z = ht1.size := ⟨_, rfl⟩
  rw [← gob6] at At5 stt5
  refine go stt5 ?_
  have ne_ob2_ob6 : ob2 ≠ ob6 := Nat.ne_of_lt (gob6 ▸ At1.lt)
  have fr_ob6 : Z.heap.size ≤ ob6 := gob6 ▸ O3.1
  have pa_ob6 : h0.size ≤ ob6 := gob6 ▸ K4.1
  replace At1 := At1.ext Et5
  replace F_value_ob2 := F_value_ob2.ext Et5
  replace F_coder_ob2 := F_coder_ob2.ext Et5
  have O7 : Ext Z.heap ht5 := extT O3 Et5
  replace hS := hS.ext Et5
  have K8 := K4.ext Et5
  have Y_ob6 : Ary Z ht5 ob6 .char [] := Ary.new At5 rfl (by decide)
  show Goes p e below _ (Tt5.setTop (mkF m 11 #[.val (.int (0 : Int32)), .val (.int c0), .val (.int c1), .val (.int c2)] [(.ref ob6), (.ref ob2), (.ref ob2)]))
  refine goCallIW Xt5 hx hZ hS rfl hown (hw _ (List.mem_of_getElem? (i := 12) rfl)) (hw _ (List.mem_of_getElem? (i := 13) rfl)) (hw _ (List.mem_of_getElem? (i := 10) rfl)) (hw _ (List.mem_of_getElem? (i := 14) rfl)) (by decide) (rmS0 l Z a0 hw ob2 ob6 ht5 O7 he hcw At1 F_value_ob2 F_coder_ob2 Y_ob6 ne_ob2_ob6 fr_ob2) (fun _ w_ => IB.warm hPv w_) 1 (by decide) (by decide) et5 (hsz rfl) ob2 [(.ref ob6)] [(.ref ob2)] pd_15 rfl rfl rfl (Nat.le_of_eq rfl) (hb hby d_method_4_11) (by decide) (by decide) (fun Tt9 vt9 Lt9 Xt9 hZ hown hS wm_t9 qt9 => ?_)
  obtain ⟨ht9, et9⟩ : ∃ z, Tt9.heap = z := ⟨_, rfl⟩
  rw [et9] at qt9 hS
  obtain ⟨rfl, N10, Kct9, u, Gv, Gy⟩ := qt9
  have N11 := Fr.app N0 N10
  replace At1 := At1.keep Kct9
  replace Y_ob6 := Y_ob6.keep Kct9 (ninS (Ne.symm ne_ob2_ob6) nin0)
  have O12 : Ext Z.heap ht9 := extK O7 Kct9 (allS fr_ob2 all0)
  have K13 := K8.trans Kct9 (allS (Or.inr pa_ob2) all0)
  show Goes p e below _ (Tt9.setTop (mkF m 14 #[.val (.int (0 : Int32)), .val (.int c0), .val (.int c1), .val (.int c2)] [(.ref ob2)]))
  exact goRetAW Xt9 hx hS hret hlocks rfl rfl (hb hby d_method_4_14) (by decide) (by decide) et9 (⟨ob2, rfl, N11, K13, At1, u, Gv, Gy⟩)
theorem d_jdk_42_method_55_8 : decode jdk_42_method_55_code 8 = .ok (.iconst 1, 1) := by decide +kernel
theorem d_jdk_42_method_55_9 : decode jdk_42_method_55_code 9 = .ok (.goto 4, 3) := by decide +kernel
theorem ef_rmXe0 (m : MethodId) (x0 : Addr) : entryFrame m #[(.ref x0)] 1 = mkF m 0 #[.val (.ref x0)] [] := by first | (simp [entryFrame, mkF, argsToLocals, Value.category]; done) | rfl
set_option maxRecDepth 65536 in
set_option maxHeartbeats 40000000 in
theorem rmXe0 (l : Launch) (Z : State) (a0 : Array Value) (hw : ∀ d ∈ tables_1, d.before a0 Z = true) (u : Addr) (a1 : Addr) (h0 : Heap) (O0 : Ext Z.heap h0) (V1 : Fld Z h0 a1 "java/lang/String" "value" "[B" (.ref u)) (Y1 : Ary Z h0 u .byte []) :
    Ctr l Z (⟨"java/lang/String", "isEmpty", "()Z"⟩ : MethodName) jdk_42_method_55_code 1 (some .boolean) [] ({ frames := 0, cells := 0, slots := 0, locals := 0 } : Room) #[(.ref a1)] h0 (fun v h L => v = some (.int 1) ∧ Fr Z.heap.size L ∧ h = h0) := by
  refine ctr (plainFor_of_name pn_1) ?_
  intro p e s m below meth c s₁ hx hby hml hown hnm hret hlocks hZ X0 e0
  have N0 := Fr.nil Z.heap.size
  have hsz : ∀ {Ls : Array Slot}, Ls.size = 1 → Ls.size = c.maxLocals := fun q => q.trans hml.symm
  refine goE (ef_rmXe0 m (a1)) ?_
  show Goes p e below _ (s₁.setTop (mkF m 0 #[.val (.ref a1)] []))
  refine gAloadN X0 hx (hb hby d_jdk_42_method_55_0) rfl rfl ?_
  obtain ⟨Tt1, Xt1, et1, stt1⟩ := getF X0 hx hZ hown (host := "") (Or.inl (hw _ (List.mem_of_getElem? (i := 28) rfl))) Via.refl e0 V1 (g := (mkF m 1 #[.val (.ref a1)] [(.ref a1)])) rfl rfl (hb hby d_jdk_42_method_55_1)
  refine go stt1 ?_
  show Goes p e below _ (Tt1.setTop (mkF m 4 #[.val (.ref a1)] [(.ref u)]))
  refine goAlen Xt1 hx hZ et1 Y1 (n := (0 : Int32)) (hb hby d_jdk_42_method_55_4) rfl ?_
  refine gIfN Xt1 hx (hb hby d_jdk_42_method_55_5) (XT.i0_ne_f rfl) ?_
  show Goes p e below _ (Tt1.setTop (mkF m 8 #[.val (.ref a1)] []))
  refine gIconst Xt1 hx (hb hby d_jdk_42_method_55_8) (v := (1 : Int32)) rfl ?_
  refine gGoto Xt1 hx (hb hby d_jdk_42_method_55_9) (pc' := 13) (by decide) (by decide) ?_
  show Goes p e below _ (Tt1.setTop (mkF m 13 #[.val (.ref a1)] [(.int (1 : Int32))]))
  exact goRetN Xt1 hx (t := .boolean) hret hlocks (by simp) (hb hby d_jdk_42_method_55_13) (z' := (1 : Int32)) rfl (by decide) (by decide) et1 (⟨rfl, N0, rfl⟩)
theorem d_prog_2_method_2_7 : decode prog_2_method_2_code 7 = .ok (.iconst 0, 1) := by decide +kernel
theorem d_prog_2_method_2_8 : decode prog_2_method_2_code 8 = .ok (.ireturn, 1) := by decide +kernel
theorem ef_rmTk0 (m : MethodId) (x0 : Addr) : entryFrame m #[(.ref x0)] 2 = mkF m 0 #[.val (.ref x0), .unset] [] := by first | (simp [entryFrame, mkF, argsToLocals, Value.category]; done) | rfl
set_option maxRecDepth 65536 in
set_option maxHeartbeats 40000000 in
theorem rmTk0 (l : Launch) (Z : State) (a0 : Array Value) (hw : ∀ d ∈ tables_1, d.before a0 Z = true) (u : Addr) (a1 : Addr) (h0 : Heap) (O0 : Ext Z.heap h0) (E1 : Exa Z h0 a1 "java/lang/String") (V1 : Fld Z h0 a1 "java/lang/String" "value" "[B" (.ref u)) (Y1 : Ary Z h0 u .byte []) :
    Ctr l Z (⟨"com/example/rolegate/rolegate/HttpSyntax", "isToken", "(Ljava/lang/String;)Z"⟩ : MethodName) prog_2_method_2_code 2 (some .boolean) [] ({ frames := 1, cells := 0, slots := 0, locals := 12 } : Room) #[(.ref a1)] h0 (fun v h L => v = some (.int 0) ∧ Fr Z.heap.size L ∧ h = h0) := by
  refine ctr (plainFor_of_name pn_2) ?_
  intro p e s m below meth c s₁ hx hby hml hown hnm hret hlocks hZ X0 e0
  have N0 := Fr.nil Z.heap.size
  have hsz : ∀ {Ls : Array Slot}, Ls.size = 2 → Ls.size = c.maxLocals := fun q => q.trans hml.symm
  refine goE (ef_rmTk0 m (a1)) ?_
  show Goes p e below _ (s₁.setTop (mkF m 0 #[.val (.ref a1), .unset] []))
  refine gAloadN X0 hx (hb hby d_prog_2_method_2_0) rfl rfl ?_
  refine goCallV X0 hx hZ hown (hw _ (List.mem_of_getElem? (i := 34) rfl)) (hw _ (List.mem_of_getElem? (i := 35) rfl)) (hw _ (List.mem_of_getElem? (i := 37) rfl)) (hw _ (List.mem_of_getElem? (i := 36) rfl)) (hw _ (List.mem_of_getElem? (i := 10) rfl)) (hw _ (List.mem_of_getElem? (i := 38) rfl)) (by decide) (rmXe0 l Z a0 hw u a1 h0 O0 V1 Y1) 0 (by decide) (by decide) e0 E1 (hsz rfl) [] [] pd_4 rfl rfl rfl (Nat.le_of_eq rfl) (hb hby d_prog_2_method_2_1) (by decide) (by decide) (fun Tt1 vt1 Lt1 Xt1 qt1 => ?_)
  obtain ⟨rfl, N2, et1⟩ := qt1
  have N3 := Fr.app N0 N2
  show Goes p e below _ (Tt1.setTop (mkF m 4 #[.val (.ref a1), .unset] [(.int (1 : Int32))]))
  refine gIfN Xt1 hx (hb hby d_prog_2_method_2_4) (XT.i0_eq_f (by decide)) ?_
  show Goes p e below _ (Tt1.setTop (mkF m 7 #[.val (.ref a1), .unset] []))
  refine gIconst Xt1 hx (hb hby d_prog_2_method_2_7) (v := (0 : Int32)) rfl ?_
  exact goRetN Xt1 hx (t := .boolean) hret hlocks (by simp) (hb hby d_prog_2_method_2_8) (z' := (0 : Int32)) rfl (by decide) (by decide) et1 (⟨rfl, N3, rfl⟩)
theorem d_method_2_0 : decode method_2_code 0 = .ok (.iload_n 0, 1) := by decide +kernel
theorem d_method_2_1 : decode method_2_code 1 = .ok (.ldc 7, 2) := by decide +kernel
theorem d_method_2_3 : decode method_2_code 3 = .ok (.iand, 1) := by decide +kernel
theorem d_method_2_4 : decode method_2_code 4 = .ok (.ifCond .eq 9, 3) := by decide +kernel
theorem d_method_2_13 : decode method_2_code 13 = .ok (.iload_n 0, 1) := by decide +kernel
theorem d_method_2_14 : decode method_2_code 14 = .ok (.bipush 127, 2) := by decide +kernel
theorem d_method_2_16 : decode method_2_code 16 = .ok (.iand, 1) := by decide +kernel
theorem d_method_2_17 : decode method_2_code 17 = .ok (.i2c, 1) := by decide +kernel
theorem d_method_2_18 : decode method_2_code 18 = .ok (.ireturn, 1) := by decide +kernel
theorem d_method_2_7 : decode method_2_code 7 = .ok (.iload_n 0, 1) := by decide +kernel
theorem d_method_2_8 : decode method_2_code 8 = .ok (.ldc 8, 2) := by decide +kernel
theorem d_method_2_10 : decode method_2_code 10 = .ok (.iand, 1) := by decide +kernel
theorem d_method_2_11 : decode method_2_code 11 = .ok (.i2c, 1) := by decide +kernel
theorem d_method_2_12 : decode method_2_code 12 = .ok (.ireturn, 1) := by decide +kernel
theorem ef_rmDr (m : MethodId) (x0 : Int32) : entryFrame m #[(.int x0)] 1 = mkF m 0 #[.val (.int x0)] [] := by first | (simp [entryFrame, mkF, argsToLocals, Value.category]; done) | rfl
set_option maxRecDepth 65536 in
set_option maxHeartbeats 40000000 in
theorem rmDr (l : Launch) (Z : State) (a0 : Array Value) (hw : ∀ d ∈ tables_1, d.before a0 Z = true)  (p0 : Int32) (h0 : Heap) (O0 : Ext Z.heap h0)  :
    Ctr l Z (⟨"com/example/rolegate/rolegate/HttpSyntaxIsTokenPinLaw", "draw", "(I)C"⟩ : MethodName) method_2_code 1 (some .char) [] ({ frames := 0, cells := 0, slots := 0, locals := 0 } : Room) #[(.int p0)] h0 (fun v h L => ∃ c0 : Int32, v = some (.int c0) ∧ Fr Z.heap.size L ∧ h = h0 ∧ nar .char c0 = c0 ∧ ¬ c0 < 0 ∧ ¬ (65535 : Int32) < c0) := by
  refine ctr (plainFor_of_name pn_5) ?_
  intro p e s m below meth c s₁ hx hby hml hown hnm hret hlocks hZ X0 e0
  have N0 := Fr.nil Z.heap.size
  have hsz : ∀ {Ls : Array Slot}, Ls.size = 1 → Ls.size = c.maxLocals := fun q => q.trans hml.symm
  refine goE (ef_rmDr m (p0)) ?_
  show Goes p e below _ (s₁.setTop (mkF m 0 #[.val (.int p0)] []))
  refine gIloadN X0 hx (hb hby d_method_2_0) rfl ?_
  refine gLdcI X0 hx hZ hown (hw _ (List.mem_of_getElem? (i := 4) rfl)) (hb hby d_method_2_1) ?_
  refine gIand X0 hx (hb hby d_method_2_3) ?_
  by_cases g : (p0 &&& (65536 : Int32)) = 0
  · refine gIfY X0 hx (hb hby d_method_2_4) (pc' := 13) (XT.i0_eq_t g) (by decide) (by decide) ?_
    show Goes p e below _ (s₁.setTop (mkF m 13 #[.val (.int p0)] []))
    refine gIloadN X0 hx (hb hby d_method_2_13) rfl ?_
    refine gBipush X0 hx (hb hby d_method_2_14) (v := (127 : Int32)) rfl ?_
    refine gIand X0 hx (hb hby d_method_2_16) ?_
    refine gI2c X0 hx (hb hby d_method_2_17) ?_
    exact goRetN X0 hx (t := .char) hret hlocks (by simp) (hb hby d_method_2_18) (z' := ((p0 &&& (127 : Int32)).toUInt32.toUInt16.toUInt32.toInt32)) (narc _) (by decide) (by decide) e0 (⟨_, rfl, N0, rfl, own_dr _⟩)
  · refine gIfN X0 hx (hb hby d_method_2_4) (XT.i0_eq_f g) ?_
    show Goes p e below _ (s₁.setTop (mkF m 7 #[.val (.int p0)] []))
    refine gIloadN X0 hx (hb hby d_method_2_7) rfl ?_
    refine gLdcI X0 hx hZ hown (hw _ (List.mem_of_getElem? (i := 116) rfl)) (hb hby d_method_2_8) ?_
    refine gIand X0 hx (hb hby d_method_2_10) ?_
    refine gI2c X0 hx (hb hby d_method_2_11) ?_
    exact goRetN X0 hx (t := .char) hret hlocks (by simp) (hb hby d_method_2_12) (z' := ((p0 &&& (65535 : Int32)).toUInt32.toUInt16.toUInt32.toInt32)) (narc _) (by decide) (by decide) e0 (⟨_, rfl, N0, rfl, own_dr _⟩)
theorem d_method_3_132 : decode method_3_code 132 = .ok (.iconst 1, 1) := by decide +kernel
theorem d_method_3_133 : decode method_3_code 133 = .ok (.goto 4, 3) := by decide +kernel
theorem d_method_3_137 : decode method_3_code 137 = .ok (.ireturn, 1) := by decide +kernel
theorem d_method_3_136 : decode method_3_code 136 = .ok (.iconst 0, 1) := by decide +kernel
theorem d_method_3_42 : decode method_3_code 42 = .ok (.iload_n 0, 1) := by decide +kernel
theorem d_method_3_43 : decode method_3_code 43 = .ok (.bipush 33, 2) := by decide +kernel
theorem d_method_3_45 : decode method_3_code 45 = .ok (.if_icmp .eq 87, 3) := by decide +kernel
theorem d_method_3_48 : decode method_3_code 48 = .ok (.iload_n 0, 1) := by decide +kernel
theorem d_method_3_49 : decode method_3_code 49 = .ok (.bipush 35, 2) := by decide +kernel
theorem d_method_3_51 : decode method_3_code 51 = .ok (.if_icmp .eq 81, 3) := by decide +kernel
theorem d_method_3_54 : decode method_3_code 54 = .ok (.iload_n 0, 1) := by decide +kernel
theorem d_method_3_55 : decode method_3_code 55 = .ok (.bipush 36, 2) := by decide +kernel
theorem d_method_3_57 : decode method_3_code 57 = .ok (.if_icmp .eq 75, 3) := by decide +kernel
theorem d_method_3_60 : decode method_3_code 60 = .ok (.iload_n 0, 1) := by decide +kernel
theorem d_method_3_61 : decode method_3_code 61 = .ok (.bipush 37, 2) := by decide +kernel
theorem d_method_3_63 : decode method_3_code 63 = .ok (.if_icmp .eq 69, 3) := by decide +kernel
theorem d_method_3_66 : decode method_3_code 66 = .ok (.iload_n 0, 1) := by decide +kernel
theorem d_method_3_67 : decode method_3_code 67 = .ok (.bipush 38, 2) := by decide +kernel
theorem d_method_3_69 : decode method_3_code 69 = .ok (.if_icmp .eq 63, 3) := by decide +kernel
theorem d_method_3_72 : decode method_3_code 72 = .ok (.iload_n 0, 1) := by decide +kernel
theorem d_method_3_73 : decode method_3_code 73 = .ok (.bipush 39, 2) := by decide +kernel
theorem d_method_3_75 : decode method_3_code 75 = .ok (.if_icmp .eq 57, 3) := by decide +kernel
theorem d_method_3_78 : decode method_3_code 78 = .ok (.iload_n 0, 1) := by decide +kernel
theorem d_method_3_79 : decode method_3_code 79 = .ok (.bipush 42, 2) := by decide +kernel
theorem d_method_3_81 : decode method_3_code 81 = .ok (.if_icmp .eq 51, 3) := by decide +kernel
theorem d_method_3_84 : decode method_3_code 84 = .ok (.iload_n 0, 1) := by decide +kernel
theorem d_method_3_85 : decode method_3_code 85 = .ok (.bipush 43, 2) := by decide +kernel
theorem d_method_3_87 : decode method_3_code 87 = .ok (.if_icmp .eq 45, 3) := by decide +kernel
theorem d_method_3_90 : decode method_3_code 90 = .ok (.iload_n 0, 1) := by decide +kernel
theorem d_method_3_91 : decode method_3_code 91 = .ok (.bipush 45, 2) := by decide +kernel
theorem d_method_3_93 : decode method_3_code 93 = .ok (.if_icmp .eq 39, 3) := by decide +kernel
theorem d_method_3_96 : decode method_3_code 96 = .ok (.iload_n 0, 1) := by decide +kernel
theorem d_method_3_97 : decode method_3_code 97 = .ok (.bipush 46, 2) := by decide +kernel
theorem d_method_3_99 : decode method_3_code 99 = .ok (.if_icmp .eq 33, 3) := by decide +kernel
theorem d_method_3_102 : decode method_3_code 102 = .ok (.iload_n 0, 1) := by decide +kernel
theorem d_method_3_103 : decode method_3_code 103 = .ok (.bipush 94, 2) := by decide +kernel
theorem d_method_3_105 : decode method_3_code 105 = .ok (.if_icmp .eq 27, 3) := by decide +kernel
theorem d_method_3_108 : decode method_3_code 108 = .ok (.iload_n 0, 1) := by decide +kernel
theorem d_method_3_109 : decode method_3_code 109 = .ok (.bipush 95, 2) := by decide +kernel
theorem d_method_3_111 : decode method_3_code 111 = .ok (.if_icmp .eq 21, 3) := by decide +kernel
theorem d_method_3_114 : decode method_3_code 114 = .ok (.iload_n 0, 1) := by decide +kernel
theorem d_method_3_115 : decode method_3_code 115 = .ok (.bipush 96, 2) := by decide +kernel
theorem d_method_3_117 : decode method_3_code 117 = .ok (.if_icmp .eq 15, 3) := by decide +kernel
theorem d_method_3_120 : decode method_3_code 120 = .ok (.iload_n 0, 1) := by decide +kernel
theorem d_method_3_121 : decode method_3_code 121 = .ok (.bipush 124, 2) := by decide +kernel
theorem d_method_3_123 : decode method_3_code 123 = .ok (.if_icmp .eq 9, 3) := by decide +kernel
theorem d_method_3_126 : decode method_3_code 126 = .ok (.iload_n 0, 1) := by decide +kernel
theorem d_method_3_127 : decode method_3_code 127 = .ok (.bipush 126, 2) := by decide +kernel
theorem d_method_3_129 : decode method_3_code 129 = .ok (.if_icmp .ne 7, 3) := by decide +kernel
theorem d_method_3_28 : decode method_3_code 28 = .ok (.iload_n 0, 1) := by decide +kernel
theorem d_method_3_29 : decode method_3_code 29 = .ok (.bipush 97, 2) := by decide +kernel
theorem d_method_3_31 : decode method_3_code 31 = .ok (.if_icmp .lt 11, 3) := by decide +kernel
theorem d_method_3_34 : decode method_3_code 34 = .ok (.iload_n 0, 1) := by decide +kernel
theorem d_method_3_35 : decode method_3_code 35 = .ok (.bipush 122, 2) := by decide +kernel
theorem d_method_3_37 : decode method_3_code 37 = .ok (.if_icmp .gt 5, 3) := by decide +kernel
theorem d_method_3_40 : decode method_3_code 40 = .ok (.iconst 1, 1) := by decide +kernel
theorem d_method_3_41 : decode method_3_code 41 = .ok (.ireturn, 1) := by decide +kernel
theorem d_method_3_14 : decode method_3_code 14 = .ok (.iload_n 0, 1) := by decide +kernel
theorem d_method_3_15 : decode method_3_code 15 = .ok (.bipush 65, 2) := by decide +kernel
theorem d_method_3_17 : decode method_3_code 17 = .ok (.if_icmp .lt 11, 3) := by decide +kernel
theorem d_method_3_20 : decode method_3_code 20 = .ok (.iload_n 0, 1) := by decide +kernel
theorem d_method_3_21 : decode method_3_code 21 = .ok (.bipush 90, 2) := by decide +kernel
theorem d_method_3_23 : decode method_3_code 23 = .ok (.if_icmp .gt 5, 3) := by decide +kernel
theorem d_method_3_26 : decode method_3_code 26 = .ok (.iconst 1, 1) := by decide +kernel
theorem d_method_3_27 : decode method_3_code 27 = .ok (.ireturn, 1) := by decide +kernel
theorem d_method_3_0 : decode method_3_code 0 = .ok (.iload_n 0, 1) := by decide +kernel
theorem d_method_3_1 : decode method_3_code 1 = .ok (.bipush 48, 2) := by decide +kernel
theorem d_method_3_3 : decode method_3_code 3 = .ok (.if_icmp .lt 11, 3) := by decide +kernel
theorem d_method_3_6 : decode method_3_code 6 = .ok (.iload_n 0, 1) := by decide +kernel
theorem d_method_3_7 : decode method_3_code 7 = .ok (.bipush 57, 2) := by decide +kernel
theorem d_method_3_9 : decode method_3_code 9 = .ok (.if_icmp .gt 5, 3) := by decide +kernel
theorem d_method_3_12 : decode method_3_code 12 = .ok (.iconst 1, 1) := by decide +kernel
theorem d_method_3_13 : decode method_3_code 13 = .ok (.ireturn, 1) := by decide +kernel
theorem ef_rmTh (m : MethodId) (x0 : Int32) : entryFrame m #[(.int x0)] 1 = mkF m 0 #[.val (.int x0)] [] := by first | (simp [entryFrame, mkF, argsToLocals, Value.category]; done) | rfl
set_option maxRecDepth 65536 in
set_option maxHeartbeats 40000000 in
theorem rmTh (l : Launch) (Z : State) (a0 : Array Value) (hw : ∀ d ∈ tables_1, d.before a0 Z = true)  (c0 : Int32) (h0 : Heap) (O0 : Ext Z.heap h0)  :
    Ctr l Z (⟨"com/example/rolegate/rolegate/HttpSyntaxIsTokenPinLaw", "tchar", "(C)Z"⟩ : MethodName) method_3_code 1 (some .boolean) [] ({ frames := 0, cells := 0, slots := 0, locals := 0 } : Room) #[(.int c0)] h0 (fun v h L => ∃ z : Int32, v = some (.int z) ∧ Fr Z.heap.size L ∧ h = h0 ∧ ((z = 1 ∧ ¬ own_tc c0 = 0) ∨ (z = 0 ∧ own_tc c0 = 0))) := by
  refine ctr (plainFor_of_name pn_5) ?_
  intro p e s m below meth c s₁ hx hby hml hown hnm hret hlocks hZ X0 e0
  have N0 := Fr.nil Z.heap.size
  have hsz : ∀ {Ls : Array Slot}, Ls.size = 1 → Ls.size = c.maxLocals := fun q => q.trans hml.symm
  refine goE (ef_rmTh m (c0)) ?_
  show Goes p e below _ (s₁.setTop (mkF m 0 #[.val (.int c0)] []))
  have yes : own_ld c0 ∨ own_tk c0 → Goes p e below (EndN s (fun v h L => ∃ z : Int32, v = some (.int z) ∧ Fr Z.heap.size L ∧ h = h0 ∧ ((z = 1 ∧ ¬ own_tc c0 = 0) ∨ (z = 0 ∧ own_tc c0 = 0))) ({ frames := 0, cells := 0, slots := 0, locals := 0 } : Room).cells ({ frames := 0, cells := 0, slots := 0, locals := 0 } : Room).slots) (s₁.setTop (mkF m 132 #[.val (.int c0)] [])) := by
    intro hy
    refine gIconst X0 hx (hb hby d_method_3_132) (v := (1 : Int32)) rfl ?_
    refine gGoto X0 hx (hb hby d_method_3_133) (pc' := 137) (by decide) (by decide) ?_
    show Goes p e below _ (s₁.setTop (mkF m 137 #[.val (.int c0)] [(.int (1 : Int32))]))
    exact goRetN X0 hx (t := .boolean) hret hlocks (by simp) (hb hby d_method_3_137) (z' := (1 : Int32)) rfl (by decide) (by decide) e0 (⟨1, rfl, N0, rfl, Or.inl ⟨rfl, own_tc1 hy⟩⟩)
  have no : ¬ (own_ld c0 ∨ own_tk c0) → Goes p e below (EndN s (fun v h L => ∃ z : Int32, v = some (.int z) ∧ Fr Z.heap.size L ∧ h = h0 ∧ ((z = 1 ∧ ¬ own_tc c0 = 0) ∨ (z = 0 ∧ own_tc c0 = 0))) ({ frames := 0, cells := 0, slots := 0, locals := 0 } : Room).cells ({ frames := 0, cells := 0, slots := 0, locals := 0 } : Room).slots) (s₁.setTop (mkF m 136 #[.val (.int c0)] [])) := by
    intro hn
    refine gIconst X0 hx (hb hby d_method_3_136) (v := (0 : Int32)) rfl ?_
    exact goRetN X0 hx (t := .boolean) hret hlocks (by simp) (hb hby d_method_3_137) (z' := (0 : Int32)) rfl (by decide) (by decide) e0 (⟨0, rfl, N0, rfl, Or.inr ⟨rfl, own_tc0 hn⟩⟩)
  have tail : ¬ (¬ c0 < 48 ∧ ¬ (57 : Int32) < c0) → ¬ (¬ c0 < 65 ∧ ¬ (90 : Int32) < c0) → ¬ (¬ c0 < 97 ∧ ¬ (122 : Int32) < c0) → Goes p e below (EndN s (fun v h L => ∃ z : Int32, v = some (.int z) ∧ Fr Z.heap.size L ∧ h = h0 ∧ ((z = 1 ∧ ¬ own_tc c0 = 0) ∨ (z = 0 ∧ own_tc c0 = 0))) ({ frames := 0, cells := 0, slots := 0, locals := 0 } : Room).cells ({ frames := 0, cells := 0, slots := 0, locals := 0 } : Room).slots) (s₁.setTop (mkF m 42 #[.val (.int c0)] [])) := by
    intro n0 n1 n2
    refine gIloadN X0 hx (hb hby d_method_3_42) rfl ?_
    refine gBipush X0 hx (hb hby d_method_3_43) (v := (33 : Int32)) rfl ?_
    by_cases e0 : c0 = (33 : Int32)
    · refine gIcmpY X0 hx (hb hby d_method_3_45) (pc' := 132) (XT.ii_eq_t e0) (by decide) (by decide) ?_
      show Goes p e below _ (s₁.setTop (mkF m 132 #[.val (.int c0)] []))
      exact yes (Or.inr (Or.inl e0))
    · refine gIcmpN X0 hx (hb hby d_method_3_45) (XT.ii_eq_f e0) ?_
      show Goes p e below _ (s₁.setTop (mkF m 48 #[.val (.int c0)] []))
      refine gIloadN X0 hx (hb hby d_method_3_48) rfl ?_
      refine gBipush X0 hx (hb hby d_method_3_49) (v := (35 : Int32)) rfl ?_
      by_cases e1 : c0 = (35 : Int32)
      · refine gIcmpY X0 hx (hb hby d_method_3_51) (pc' := 132) (XT.ii_eq_t e1) (by decide) (by decide) ?_
        show Goes p e below _ (s₁.setTop (mkF m 132 #[.val (.int c0)] []))
        exact yes (Or.inr (Or.inr (Or.inl e1)))
      · refine gIcmpN X0 hx (hb hby d_method_3_51) (XT.ii_eq_f e1) ?_
        show Goes p e below _ (s₁.setTop (mkF m 54 #[.val (.int c0)] []))
        refine gIloadN X0 hx (hb hby d_method_3_54) rfl ?_
        refine gBipush X0 hx (hb hby d_method_3_55) (v := (36 : Int32)) rfl ?_
        by_cases e2 : c0 = (36 : Int32)
        · refine gIcmpY X0 hx (hb hby d_method_3_57) (pc' := 132) (XT.ii_eq_t e2) (by decide) (by decide) ?_
          show Goes p e below _ (s₁.setTop (mkF m 132 #[.val (.int c0)] []))
          exact yes (Or.inr (Or.inr (Or.inr (Or.inl e2))))
        · refine gIcmpN X0 hx (hb hby d_method_3_57) (XT.ii_eq_f e2) ?_
          show Goes p e below _ (s₁.setTop (mkF m 60 #[.val (.int c0)] []))
          refine gIloadN X0 hx (hb hby d_method_3_60) rfl ?_
          refine gBipush X0 hx (hb hby d_method_3_61) (v := (37 : Int32)) rfl ?_
          by_cases e3 : c0 = (37 : Int32)
          · refine gIcmpY X0 hx (hb hby d_method_3_63) (pc' := 132) (XT.ii_eq_t e3) (by decide) (by decide) ?_
            show Goes p e below _ (s₁.setTop (mkF m 132 #[.val (.int c0)] []))
            exact yes (Or.inr (Or.inr (Or.inr (Or.inr (Or.inl e3)))))
          · refine gIcmpN X0 hx (hb hby d_method_3_63) (XT.ii_eq_f e3) ?_
            show Goes p e below _ (s₁.setTop (mkF m 66 #[.val (.int c0)] []))
            refine gIloadN X0 hx (hb hby d_method_3_66) rfl ?_
            refine gBipush X0 hx (hb hby d_method_3_67) (v := (38 : Int32)) rfl ?_
            by_cases e4 : c0 = (38 : Int32)
            · refine gIcmpY X0 hx (hb hby d_method_3_69) (pc' := 132) (XT.ii_eq_t e4) (by decide) (by decide) ?_
              show Goes p e below _ (s₁.setTop (mkF m 132 #[.val (.int c0)] []))
              exact yes (Or.inr (Or.inr (Or.inr (Or.inr (Or.inr (Or.inl e4))))))
            · refine gIcmpN X0 hx (hb hby d_method_3_69) (XT.ii_eq_f e4) ?_
              show Goes p e below _ (s₁.setTop (mkF m 72 #[.val (.int c0)] []))
              refine gIloadN X0 hx (hb hby d_method_3_72) rfl ?_
              refine gBipush X0 hx (hb hby d_method_3_73) (v := (39 : Int32)) rfl ?_
              by_cases e5 : c0 = (39 : Int32)
              · refine gIcmpY X0 hx (hb hby d_method_3_75) (pc' := 132) (XT.ii_eq_t e5) (by decide) (by decide) ?_
                show Goes p e below _ (s₁.setTop (mkF m 132 #[.val (.int c0)] []))
                exact yes (Or.inr (Or.inr (Or.inr (Or.inr (Or.inr (Or.inr (Or.inl e5)))))))
              · refine gIcmpN X0 hx (hb hby d_method_3_75) (XT.ii_eq_f e5) ?_
                show Goes p e below _ (s₁.setTop (mkF m 78 #[.val (.int c0)] []))
                refine gIloadN X0 hx (hb hby d_method_3_78) rfl ?_
                refine gBipush X0 hx (hb hby d_method_3_79) (v := (42 : Int32)) rfl ?_
                by_cases e6 : c0 = (42 : Int32)
                · refine gIcmpY X0 hx (hb hby d_method_3_81) (pc' := 132) (XT.ii_eq_t e6) (by decide) (by decide) ?_
                  show Goes p e below _ (s₁.setTop (mkF m 132 #[.val (.int c0)] []))
                  exact yes (Or.inr (Or.inr (Or.inr (Or.inr (Or.inr (Or.inr (Or.inr (Or.inl e6))))))))
                · refine gIcmpN X0 hx (hb hby d_method_3_81) (XT.ii_eq_f e6) ?_
                  show Goes p e below _ (s₁.setTop (mkF m 84 #[.val (.int c0)] []))
                  refine gIloadN X0 hx (hb hby d_method_3_84) rfl ?_
                  refine gBipush X0 hx (hb hby d_method_3_85) (v := (43 : Int32)) rfl ?_
                  by_cases e7 : c0 = (43 : Int32)
                  · refine gIcmpY X0 hx (hb hby d_method_3_87) (pc' := 132) (XT.ii_eq_t e7) (by decide) (by decide) ?_
                    show Goes p e below _ (s₁.setTop (mkF m 132 #[.val (.int c0)] []))
                    exact yes (Or.inr (Or.inr (Or.inr (Or.inr (Or.inr (Or.inr (Or.inr (Or.inr (Or.inl e7)))))))))
                  · refine gIcmpN X0 hx (hb hby d_method_3_87) (XT.ii_eq_f e7) ?_
                    show Goes p e below _ (s₁.setTop (mkF m 90 #[.val (.int c0)] []))
                    refine gIloadN X0 hx (hb hby d_method_3_90) rfl ?_
                    refine gBipush X0 hx (hb hby d_method_3_91) (v := (45 : Int32)) rfl ?_
                    by_cases e8 : c0 = (45 : Int32)
                    · refine gIcmpY X0 hx (hb hby d_method_3_93) (pc' := 132) (XT.ii_eq_t e8) (by decide) (by decide) ?_
                      show Goes p e below _ (s₁.setTop (mkF m 132 #[.val (.int c0)] []))
                      exact yes (Or.inr (Or.inr (Or.inr (Or.inr (Or.inr (Or.inr (Or.inr (Or.inr (Or.inr (Or.inl e8))))))))))
                    · refine gIcmpN X0 hx (hb hby d_method_3_93) (XT.ii_eq_f e8) ?_
                      show Goes p e below _ (s₁.setTop (mkF m 96 #[.val (.int c0)] []))
                      refine gIloadN X0 hx (hb hby d_method_3_96) rfl ?_
                      refine gBipush X0 hx (hb hby d_method_3_97) (v := (46 : Int32)) rfl ?_
                      by_cases e9 : c0 = (46 : Int32)
                      · refine gIcmpY X0 hx (hb hby d_method_3_99) (pc' := 132) (XT.ii_eq_t e9) (by decide) (by decide) ?_
                        show Goes p e below _ (s₁.setTop (mkF m 132 #[.val (.int c0)] []))
                        exact yes (Or.inr (Or.inr (Or.inr (Or.inr (Or.inr (Or.inr (Or.inr (Or.inr (Or.inr (Or.inr (Or.inl e9)))))))))))
                      · refine gIcmpN X0 hx (hb hby d_method_3_99) (XT.ii_eq_f e9) ?_
                        show Goes p e below _ (s₁.setTop (mkF m 102 #[.val (.int c0)] []))
                        refine gIloadN X0 hx (hb hby d_method_3_102) rfl ?_
                        refine gBipush X0 hx (hb hby d_method_3_103) (v := (94 : Int32)) rfl ?_
                        by_cases e10 : c0 = (94 : Int32)
                        · refine gIcmpY X0 hx (hb hby d_method_3_105) (pc' := 132) (XT.ii_eq_t e10) (by decide) (by decide) ?_
                          show Goes p e below _ (s₁.setTop (mkF m 132 #[.val (.int c0)] []))
                          exact yes (Or.inr (Or.inr (Or.inr (Or.inr (Or.inr (Or.inr (Or.inr (Or.inr (Or.inr (Or.inr (Or.inr (Or.inl e10))))))))))))
                        · refine gIcmpN X0 hx (hb hby d_method_3_105) (XT.ii_eq_f e10) ?_
                          show Goes p e below _ (s₁.setTop (mkF m 108 #[.val (.int c0)] []))
                          refine gIloadN X0 hx (hb hby d_method_3_108) rfl ?_
                          refine gBipush X0 hx (hb hby d_method_3_109) (v := (95 : Int32)) rfl ?_
                          by_cases e11 : c0 = (95 : Int32)
                          · refine gIcmpY X0 hx (hb hby d_method_3_111) (pc' := 132) (XT.ii_eq_t e11) (by decide) (by decide) ?_
                            show Goes p e below _ (s₁.setTop (mkF m 132 #[.val (.int c0)] []))
                            exact yes (Or.inr (Or.inr (Or.inr (Or.inr (Or.inr (Or.inr (Or.inr (Or.inr (Or.inr (Or.inr (Or.inr (Or.inr (Or.inl e11)))))))))))))
                          · refine gIcmpN X0 hx (hb hby d_method_3_111) (XT.ii_eq_f e11) ?_
                            show Goes p e below _ (s₁.setTop (mkF m 114 #[.val (.int c0)] []))
                            refine gIloadN X0 hx (hb hby d_method_3_114) rfl ?_
                            refine gBipush X0 hx (hb hby d_method_3_115) (v := (96 : Int32)) rfl ?_
                            by_cases e12 : c0 = (96 : Int32)
                            · refine gIcmpY X0 hx (hb hby d_method_3_117) (pc' := 132) (XT.ii_eq_t e12) (by decide) (by decide) ?_
                              show Goes p e below _ (s₁.setTop (mkF m 132 #[.val (.int c0)] []))
                              exact yes (Or.inr (Or.inr (Or.inr (Or.inr (Or.inr (Or.inr (Or.inr (Or.inr (Or.inr (Or.inr (Or.inr (Or.inr (Or.inr (Or.inl e12))))))))))))))
                            · refine gIcmpN X0 hx (hb hby d_method_3_117) (XT.ii_eq_f e12) ?_
                              show Goes p e below _ (s₁.setTop (mkF m 120 #[.val (.int c0)] []))
                              refine gIloadN X0 hx (hb hby d_method_3_120) rfl ?_
                              refine gBipush X0 hx (hb hby d_method_3_121) (v := (124 : Int32)) rfl ?_
                              by_cases e13 : c0 = (124 : Int32)
                              · refine gIcmpY X0 hx (hb hby d_method_3_123) (pc' := 132) (XT.ii_eq_t e13) (by decide) (by decide) ?_
                                show Goes p e below _ (s₁.setTop (mkF m 132 #[.val (.int c0)] []))
                                exact yes (Or.inr (Or.inr (Or.inr (Or.inr (Or.inr (Or.inr (Or.inr (Or.inr (Or.inr (Or.inr (Or.inr (Or.inr (Or.inr (Or.inr (Or.inl e13)))))))))))))))
                              · refine gIcmpN X0 hx (hb hby d_method_3_123) (XT.ii_eq_f e13) ?_
                                show Goes p e below _ (s₁.setTop (mkF m 126 #[.val (.int c0)] []))
                                refine gIloadN X0 hx (hb hby d_method_3_126) rfl ?_
                                refine gBipush X0 hx (hb hby d_method_3_127) (v := (126 : Int32)) rfl ?_
                                by_cases e14 : c0 = (126 : Int32)
                                · refine gIcmpN X0 hx (hb hby d_method_3_129) (XT.ii_ne_f e14) ?_
                                  show Goes p e below _ (s₁.setTop (mkF m 132 #[.val (.int c0)] []))
                                  exact yes (Or.inr (Or.inr (Or.inr (Or.inr (Or.inr (Or.inr (Or.inr (Or.inr (Or.inr (Or.inr (Or.inr (Or.inr (Or.inr (Or.inr (Or.inr (e14))))))))))))))))
                                · refine gIcmpY X0 hx (hb hby d_method_3_129) (pc' := 136) (XT.ii_ne_t e14) (by decide) (by decide) ?_
                                  show Goes p e below _ (s₁.setTop (mkF m 136 #[.val (.int c0)] []))
                                  refine no (fun q => ?_)
                                  rcases q with q | q
                                  · rcases q with q | q | q
                                    · exact n2 q
                                    · exact n1 q
                                    · exact n0 q
                                  · unfold own_tk at q
                                    rcases q with q | q | q | q | q | q | q | q | q | q | q | q | q | q | q
                                    · exact e0 q
                                    · exact e1 q
                                    · exact e2 q
                                    · exact e3 q
                                    · exact e4 q
                                    · exact e5 q
                                    · exact e6 q
                                    · exact e7 q
                                    · exact e8 q
                                    · exact e9 q
                                    · exact e10 q
                                    · exact e11 q
                                    · exact e12 q
                                    · exact e13 q
                                    · exact e14 q
  have at28 : ¬ (¬ c0 < 48 ∧ ¬ (57 : Int32) < c0) → ¬ (¬ c0 < 65 ∧ ¬ (90 : Int32) < c0) → Goes p e below (EndN s (fun v h L => ∃ z : Int32, v = some (.int z) ∧ Fr Z.heap.size L ∧ h = h0 ∧ ((z = 1 ∧ ¬ own_tc c0 = 0) ∨ (z = 0 ∧ own_tc c0 = 0))) ({ frames := 0, cells := 0, slots := 0, locals := 0 } : Room).cells ({ frames := 0, cells := 0, slots := 0, locals := 0 } : Room).slots) (s₁.setTop (mkF m 28 #[.val (.int c0)] [])) := by
    intro n0 n1
    refine gIloadN X0 hx (hb hby d_method_3_28) rfl ?_
    refine gBipush X0 hx (hb hby d_method_3_29) (v := (97 : Int32)) rfl ?_
    by_cases l_ : c0 < (97 : Int32)
    · refine gIcmpY X0 hx (hb hby d_method_3_31) (pc' := 42) (XT.ii_lt_t l_) (by decide) (by decide) ?_
      show Goes p e below _ (s₁.setTop (mkF m 42 #[.val (.int c0)] []))
      exact tail n0 n1 (fun q => q.1 l_)
    · refine gIcmpN X0 hx (hb hby d_method_3_31) (XT.ii_lt_f l_) ?_
      show Goes p e below _ (s₁.setTop (mkF m 34 #[.val (.int c0)] []))
      refine gIloadN X0 hx (hb hby d_method_3_34) rfl ?_
      refine gBipush X0 hx (hb hby d_method_3_35) (v := (122 : Int32)) rfl ?_
      by_cases u_ : (122 : Int32) < c0
      · refine gIcmpY X0 hx (hb hby d_method_3_37) (pc' := 42) (XT.ii_gt_t u_) (by decide) (by decide) ?_
        show Goes p e below _ (s₁.setTop (mkF m 42 #[.val (.int c0)] []))
        exact tail n0 n1 (fun q => q.2 u_)
      · refine gIcmpN X0 hx (hb hby d_method_3_37) (XT.ii_gt_f u_) ?_
        show Goes p e below _ (s₁.setTop (mkF m 40 #[.val (.int c0)] []))
        refine gIconst X0 hx (hb hby d_method_3_40) (v := (1 : Int32)) rfl ?_
        exact goRetN X0 hx (t := .boolean) hret hlocks (by simp) (hb hby d_method_3_41) (z' := (1 : Int32)) rfl (by decide) (by decide) e0 (⟨1, rfl, N0, rfl, Or.inl ⟨rfl, own_tc1 (Or.inl (Or.inl ⟨l_, u_⟩))⟩⟩)
  have at14 : ¬ (¬ c0 < 48 ∧ ¬ (57 : Int32) < c0) → Goes p e below (EndN s (fun v h L => ∃ z : Int32, v = some (.int z) ∧ Fr Z.heap.size L ∧ h = h0 ∧ ((z = 1 ∧ ¬ own_tc c0 = 0) ∨ (z = 0 ∧ own_tc c0 = 0))) ({ frames := 0, cells := 0, slots := 0, locals := 0 } : Room).cells ({ frames := 0, cells := 0, slots := 0, locals := 0 } : Room).slots) (s₁.setTop (mkF m 14 #[.val (.int c0)] [])) := by
    intro n0
    refine gIloadN X0 hx (hb hby d_method_3_14) rfl ?_
    refine gBipush X0 hx (hb hby d_method_3_15) (v := (65 : Int32)) rfl ?_
    by_cases l_ : c0 < (65 : Int32)
    · refine gIcmpY X0 hx (hb hby d_method_3_17) (pc' := 28) (XT.ii_lt_t l_) (by decide) (by decide) ?_
      show Goes p e below _ (s₁.setTop (mkF m 28 #[.val (.int c0)] []))
      exact at28 n0 (fun q => q.1 l_)
    · refine gIcmpN X0 hx (hb hby d_method_3_17) (XT.ii_lt_f l_) ?_
      show Goes p e below _ (s₁.setTop (mkF m 20 #[.val (.int c0)] []))
      refine gIloadN X0 hx (hb hby d_method_3_20) rfl ?_
      refine gBipush X0 hx (hb hby d_method_3_21) (v := (90 : Int32)) rfl ?_
      by_cases u_ : (90 : Int32) < c0
      · refine gIcmpY X0 hx (hb hby d_method_3_23) (pc' := 28) (XT.ii_gt_t u_) (by decide) (by decide) ?_
        show Goes p e below _ (s₁.setTop (mkF m 28 #[.val (.int c0)] []))
        exact at28 n0 (fun q => q.2 u_)
      · refine gIcmpN X0 hx (hb hby d_method_3_23) (XT.ii_gt_f u_) ?_
        show Goes p e below _ (s₁.setTop (mkF m 26 #[.val (.int c0)] []))
        refine gIconst X0 hx (hb hby d_method_3_26) (v := (1 : Int32)) rfl ?_
        exact goRetN X0 hx (t := .boolean) hret hlocks (by simp) (hb hby d_method_3_27) (z' := (1 : Int32)) rfl (by decide) (by decide) e0 (⟨1, rfl, N0, rfl, Or.inl ⟨rfl, own_tc1 (Or.inl (Or.inr (Or.inl ⟨l_, u_⟩)))⟩⟩)
  refine gIloadN X0 hx (hb hby d_method_3_0) rfl ?_
  refine gBipush X0 hx (hb hby d_method_3_1) (v := (48 : Int32)) rfl ?_
  by_cases l_ : c0 < (48 : Int32)
  · refine gIcmpY X0 hx (hb hby d_method_3_3) (pc' := 14) (XT.ii_lt_t l_) (by decide) (by decide) ?_
    show Goes p e below _ (s₁.setTop (mkF m 14 #[.val (.int c0)] []))
    exact at14  (fun q => q.1 l_)
  · refine gIcmpN X0 hx (hb hby d_method_3_3) (XT.ii_lt_f l_) ?_
    show Goes p e below _ (s₁.setTop (mkF m 6 #[.val (.int c0)] []))
    refine gIloadN X0 hx (hb hby d_method_3_6) rfl ?_
    refine gBipush X0 hx (hb hby d_method_3_7) (v := (57 : Int32)) rfl ?_
    by_cases u_ : (57 : Int32) < c0
    · refine gIcmpY X0 hx (hb hby d_method_3_9) (pc' := 14) (XT.ii_gt_t u_) (by decide) (by decide) ?_
      show Goes p e below _ (s₁.setTop (mkF m 14 #[.val (.int c0)] []))
      exact at14  (fun q => q.2 u_)
    · refine gIcmpN X0 hx (hb hby d_method_3_9) (XT.ii_gt_f u_) ?_
      show Goes p e below _ (s₁.setTop (mkF m 12 #[.val (.int c0)] []))
      refine gIconst X0 hx (hb hby d_method_3_12) (v := (1 : Int32)) rfl ?_
      exact goRetN X0 hx (t := .boolean) hret hlocks (by simp) (hb hby d_method_3_13) (z' := (1 : Int32)) rfl (by decide) (by decide) e0 (⟨1, rfl, N0, rfl, Or.inl ⟨rfl, own_tc1 (Or.inl (Or.inr (Or.inr ⟨l_, u_⟩)))⟩⟩)
theorem pd_21 : parseMethodDescriptor "(ICCC)Ljava/lang/String;" = some ⟨[.int, .char, .char, .char], some (.object "java/lang/String")⟩ := by decide +kernel
theorem pd_22 : parseMethodDescriptor "(Ljava/lang/String;)Z" = some ⟨[(.object "java/lang/String")], some .boolean⟩ := by decide +kernel
theorem ef_rm0 (m : MethodId) (x0 : Int32) (x1 : Int32) (x2 : Int32) (x3 : Int32) : entryFrame m #[(.int x0), (.int x1), (.int x2), (.int x3)] maxLocals = mkF m 0 #[.val (.int x0), .val (.int x1), .val (.int x2), .val (.int x3), .unset, .unset, .unset, .unset, .unset, .unset] [] := by first | (simp [entryFrame, mkF, argsToLocals, Value.category, maxLocals]; done) | rfl
set_option maxRecDepth 65536 in
set_option maxHeartbeats 40000000 in
theorem rm0 (l : Launch) (Z : State) (a0 : Array Value) (hw : ∀ d ∈ tables_1, d.before a0 Z = true) (fm : Value) (cs : Int32) (p0 : Int32) (p1 : Int32) (p2 : Int32) (p3 : Int32) (h0 : Heap) (O0 : Ext Z.heap h0) (S_cs : Sta Z Z.heap "java/lang/String" "COMPACT_STRINGS" "Z" (.int cs)) (hcs : ¬ cs = 0) (S_ua : Sta Z Z.heap "java/lang/StringUTF16" "$assertionsDisabled" "Z" (.int (1 : Int32))) (S_uh : Sta Z Z.heap "java/lang/StringUTF16" "HI_BYTE_SHIFT" "I" (.int (0 : Int32))) (S_ul : Sta Z Z.heap "java/lang/StringUTF16" "LO_BYTE_SHIFT" "I" (.int (8 : Int32))) (S_fm : Sta Z Z.heap "jdk/internal/util/Preconditions" "SIOOBE_FORMATTER" "Ljava/util/function/BiFunction;" fm) (rf : fm.isRef = true) (hh : Jvm.Lit.constHeld Z "com/example/rolegate/rolegate/HttpSyntax" 27) (hcw : Jvm.Lit.compactW.before a0 Z = true) (he : Jvm.Lit.constHeld Z "java/lang/String" 7) :
    CtrW l Z x code maxLocals ret tables_1 room_1 #[(.int p0), (.int p1), (.int p2), (.int p3)] h0 (fun vm => IB Z vm []) (fun v h L vm => v = some (.int 1) ∧ Fr Z.heap.size L) := by
  refine ctrW (plainFor_of_name pn_5) ?_
  intro p e s m below meth c s₁ vm0 hx hby hml hown hnm hret hlocks hZ X0 e0 hS hh0 hPv
  have N0 := Fr.nil Z.heap.size
  have hsz : ∀ {Ls : Array Slot}, Ls.size = 10 → Ls.size = c.maxLocals := fun q => q.trans hml.symm
  refine goE (ef_rm0 m (p0) (p1) (p2) (p3)) ?_
  show Goes p e below _ (s₁.setTop (mkF m 0 #[.val (.int p0), .val (.int p1), .val (.int p2), .val (.int p3), .unset, .unset, .unset, .unset, .unset, .unset] []))
  refine gIloadN X0 hx (hb hby at_0) rfl ?_
  refine gIconst X0 hx (hb hby at_1) (v := (3 : Int32)) rfl ?_
  refine gIand X0 hx (hb hby at_2) ?_
  rcases own_len p0 with hl | hl | hl | hl
  · show Goes p e below _ (s₁.setTop (mkF m 3 #[.val (.int p0), .val (.int p1), .val (.int p2), .val (.int p3), .unset, .unset, .unset, .unset, .unset, .unset] [(.int (p0 &&& (3 : Int32)))]))
    rw [hl]
    show Goes p e below _ (s₁.setTop (mkF m 3 #[.val (.int p0), .val (.int p1), .val (.int p2), .val (.int p3), .unset, .unset, .unset, .unset, .unset, .unset] [(.int (0 : Int32))]))
    refine gIstore X0 hx (hb hby at_3) (l' := #[.val (.int p0), .val (.int p1), .val (.int p2), .val (.int p3), .val (.int (0 : Int32)), .unset, .unset, .unset, .unset, .unset]) rfl ?_
    refine gIloadN X0 hx (hb hby at_5) rfl ?_
    refine goCallS X0 hx hZ hown (hw _ (List.mem_of_getElem? (i := 0) rfl)) (hw _ (List.mem_of_getElem? (i := 1) rfl)) (hw _ (List.mem_of_getElem? (i := 2) rfl)) (hw _ (List.mem_of_getElem? (i := 3) rfl)) (by decide) (rmDr l Z a0 hw p1 h0 O0) 0 (by decide) (by decide) e0 (hsz rfl) [(.int p1)] [] pd_19 rfl rfl rfl (Nat.le_of_eq rfl) (hb hby at_6) (by decide) (by decide) (fun Tt1 vt1 Lt1 Xt1 qt1 => ?_)
    obtain ⟨ch0, rfl, N2, et1, nc0, q0_0, q1_0⟩ := qt1
    have N3 := Fr.app N0 N2
    show Goes p e below _ (Tt1.setTop (mkF m 9 #[.val (.int p0), .val (.int p1), .val (.int p2), .val (.int p3), .val (.int (0 : Int32)), .unset, .unset, .unset, .unset, .unset] [(.int ch0)]))
    refine gIstore Xt1 hx (hb hby at_9) (l' := #[.val (.int p0), .val (.int p1), .val (.int p2), .val (.int p3), .val (.int (0 : Int32)), .val (.int ch0), .unset, .unset, .unset, .unset]) rfl ?_
    refine gIloadN Xt1 hx (hb hby at_11) rfl ?_
    refine goCallS Xt1 hx hZ hown (hw _ (List.mem_of_getElem? (i := 0) rfl)) (hw _ (List.mem_of_getElem? (i := 1) rfl)) (hw _ (List.mem_of_getElem? (i := 2) rfl)) (hw _ (List.mem_of_getElem? (i := 3) rfl)) (by decide) (rmDr l Z a0 hw p2 h0 O0) 0 (by decide) (by decide) et1 (hsz rfl) [(.int p2)] [] pd_19 rfl rfl rfl (Nat.le_of_eq rfl) (hb hby at_12) (by decide) (by decide) (fun Tt4 vt4 Lt4 Xt4 qt4 => ?_)
    obtain ⟨ch1, rfl, N5, et4, nc1, q0_1, q1_1⟩ := qt4
    have N6 := Fr.app N3 N5
    show Goes p e below _ (Tt4.setTop (mkF m 15 #[.val (.int p0), .val (.int p1), .val (.int p2), .val (.int p3), .val (.int (0 : Int32)), .val (.int ch0), .unset, .unset, .unset, .unset] [(.int ch1)]))
    refine gIstore Xt4 hx (hb hby at_15) (l' := #[.val (.int p0), .val (.int p1), .val (.int p2), .val (.int p3), .val (.int (0 : Int32)), .val (.int ch0), .val (.int ch1), .unset, .unset, .unset]) rfl ?_
    refine gIloadN Xt4 hx (hb hby at_17) rfl ?_
    refine goCallS Xt4 hx hZ hown (hw _ (List.mem_of_getElem? (i := 0) rfl)) (hw _ (List.mem_of_getElem? (i := 1) rfl)) (hw _ (List.mem_of_getElem? (i := 2) rfl)) (hw _ (List.mem_of_getElem? (i := 3) rfl)) (by decide) (rmDr l Z a0 hw p3 h0 O0) 0 (by decide) (by decide) et4 (hsz rfl) [(.int p3)] [] pd_19 rfl rfl rfl (Nat.le_of_eq rfl) (hb hby at_18) (by decide) (by decide) (fun Tt7 vt7 Lt7 Xt7 qt7 => ?_)
    obtain ⟨ch2, rfl, N8, et7, nc2, q0_2, q1_2⟩ := qt7
    have N9 := Fr.app N6 N8
    show Goes p e below _ (Tt7.setTop (mkF m 21 #[.val (.int p0), .val (.int p1), .val (.int p2), .val (.int p3), .val (.int (0 : Int32)), .val (.int ch0), .val (.int ch1), .unset, .unset, .unset] [(.int ch2)]))
    refine gIstore Xt7 hx (hb hby at_21) (l' := #[.val (.int p0), .val (.int p1), .val (.int p2), .val (.int p3), .val (.int (0 : Int32)), .val (.int ch0), .val (.int ch1), .val (.int ch2), .unset, .unset]) rfl ?_
    refine gIload Xt7 hx (hb hby at_23) rfl ?_
    refine gIload Xt7 hx (hb hby at_25) rfl ?_
    refine gIload Xt7 hx (hb hby at_27) rfl ?_
    refine gIload Xt7 hx (hb hby at_29) rfl ?_
    refine goCallSW Xt7 hx hZ hS hown (hw _ (List.mem_of_getElem? (i := 5) rfl)) (hw _ (List.mem_of_getElem? (i := 6) rfl)) (hw _ (List.mem_of_getElem? (i := 2) rfl)) (hw _ (List.mem_of_getElem? (i := 7) rfl)) (by decide) (rmBd0 l Z a0 hw ch0 ch1 ch2 h0 O0 he hcw) (fun _ w_ => IB.warm hPv w_) 0 (by decide) (by decide) et7 (hsz rfl) [(.int (0 : Int32)), (.int ch0), (.int ch1), (.int ch2)] [] pd_21 rfl rfl rfl (Nat.le_of_eq rfl) (hb hby at_31) (by decide) (by decide) (fun Tt10 vt10 Lt10 Xt10 hZ hown hS wm_t10 qt10 => ?_)
    obtain ⟨ht10, et10⟩ : ∃ z, Tt10.heap = z := ⟨_, rfl⟩
    rw [et10] at qt10 hS
    obtain ⟨sa, rfl, N11, Kct10, Es_, u, Gv, Gy⟩ := qt10
    have N12 := Fr.app N9 N11
    have O13 : Ext Z.heap ht10 := extK O0 Kct10 all0
    show Goes p e below _ (Tt10.setTop (mkF m 34 #[.val (.int p0), .val (.int p1), .val (.int p2), .val (.int p3), .val (.int (0 : Int32)), .val (.int ch0), .val (.int ch1), .val (.int ch2), .unset, .unset] [(.ref sa)]))
    refine gAstore Xt10 hx (hb hby at_34) rfl (l' := #[.val (.int p0), .val (.int p1), .val (.int p2), .val (.int p3), .val (.int (0 : Int32)), .val (.int ch0), .val (.int ch1), .val (.int ch2), .val (.ref sa), .unset]) rfl ?_
    refine gIload Xt10 hx (hb hby at_36) rfl ?_
    refine gIfY Xt10 hx (hb hby at_38) (pc' := 87) (XT.i0_le_t (by decide)) (by decide) (by decide) ?_
    show Goes p e below _ (Tt10.setTop (mkF m 87 #[.val (.int p0), .val (.int p1), .val (.int p2), .val (.int p3), .val (.int (0 : Int32)), .val (.int ch0), .val (.int ch1), .val (.int ch2), .val (.ref sa), .unset] []))
    refine gIconst Xt10 hx (hb hby at_87) (v := (0 : Int32)) rfl ?_
    refine gIstore Xt10 hx (hb hby at_88) (l' := #[.val (.int p0), .val (.int p1), .val (.int p2), .val (.int p3), .val (.int (0 : Int32)), .val (.int ch0), .val (.int ch1), .val (.int ch2), .val (.ref sa), .val (.int (0 : Int32))]) rfl ?_
    refine gAload Xt10 hx (hb hby at_90) rfl rfl ?_
    refine goCallS Xt10 hx hZ hown (hw _ (List.mem_of_getElem? (i := 30) rfl)) (hw _ (List.mem_of_getElem? (i := 31) rfl)) (hw _ (List.mem_of_getElem? (i := 32) rfl)) (hw _ (List.mem_of_getElem? (i := 33) rfl)) (by decide) (rmTk0 l Z a0 hw u sa ht10 O13 Es_ Gv Gy) 0 (by decide) (by decide) et10 (hsz rfl) [(.ref sa)] [] pd_22 rfl rfl rfl (Nat.le_of_eq rfl) (hb hby at_92) (by decide) (by decide) (fun Tt14 vt14 Lt14 Xt14 qt14 => ?_)
    obtain ⟨rfl, N15, et14⟩ := qt14
    have N16 := Fr.app N12 N15
    show Goes p e below _ (Tt14.setTop (mkF m 95 #[.val (.int p0), .val (.int p1), .val (.int p2), .val (.int p3), .val (.int (0 : Int32)), .val (.int ch0), .val (.int ch1), .val (.int ch2), .val (.ref sa), .val (.int (0 : Int32))] [(.int (0 : Int32))]))
    refine gIload Xt14 hx (hb hby at_95) rfl ?_
    refine gIcmpN Xt14 hx (hb hby at_97) (XT.ii_ne_f rfl) ?_
    show Goes p e below _ (Tt14.setTop (mkF m 100 #[.val (.int p0), .val (.int p1), .val (.int p2), .val (.int p3), .val (.int (0 : Int32)), .val (.int ch0), .val (.int ch1), .val (.int ch2), .val (.ref sa), .val (.int (0 : Int32))] []))
    refine gIconst Xt14 hx (hb hby at_100) (v := (1 : Int32)) rfl ?_
    refine gGoto Xt14 hx (hb hby at_101) (pc' := 105) (by decide) (by decide) ?_
    show Goes p e below _ (Tt14.setTop (mkF m 105 #[.val (.int p0), .val (.int p1), .val (.int p2), .val (.int p3), .val (.int (0 : Int32)), .val (.int ch0), .val (.int ch1), .val (.int ch2), .val (.ref sa), .val (.int (0 : Int32))] [(.int (1 : Int32))]))
    exact goRetNW Xt14 hx hS (t := .boolean) hret hlocks (by simp) (hb hby at_105) (z' := (1 : Int32)) rfl (by decide) (by decide) et14 (⟨rfl, N16⟩)
  · show Goes p e below _ (s₁.setTop (mkF m 3 #[.val (.int p0), .val (.int p1), .val (.int p2), .val (.int p3), .unset, .unset, .unset, .unset, .unset, .unset] [(.int (p0 &&& (3 : Int32)))]))
    rw [hl]
    show Goes p e below _ (s₁.setTop (mkF m 3 #[.val (.int p0), .val (.int p1), .val (.int p2), .val (.int p3), .unset, .unset, .unset, .unset, .unset, .unset] [(.int (1 : Int32))]))
    refine gIstore X0 hx (hb hby at_3) (l' := #[.val (.int p0), .val (.int p1), .val (.int p2), .val (.int p3), .val (.int (1 : Int32)), .unset, .unset, .unset, .unset, .unset]) rfl ?_
    refine gIloadN X0 hx (hb hby at_5) rfl ?_
    refine goCallS X0 hx hZ hown (hw _ (List.mem_of_getElem? (i := 0) rfl)) (hw _ (List.mem_of_getElem? (i := 1) rfl)) (hw _ (List.mem_of_getElem? (i := 2) rfl)) (hw _ (List.mem_of_getElem? (i := 3) rfl)) (by decide) (rmDr l Z a0 hw p1 h0 O0) 0 (by decide) (by decide) e0 (hsz rfl) [(.int p1)] [] pd_19 rfl rfl rfl (Nat.le_of_eq rfl) (hb hby at_6) (by decide) (by decide) (fun Tt17 vt17 Lt17 Xt17 qt17 => ?_)
    obtain ⟨ch0, rfl, N18, et17, nc0, q0_0, q1_0⟩ := qt17
    have N19 := Fr.app N0 N18
    show Goes p e below _ (Tt17.setTop (mkF m 9 #[.val (.int p0), .val (.int p1), .val (.int p2), .val (.int p3), .val (.int (1 : Int32)), .unset, .unset, .unset, .unset, .unset] [(.int ch0)]))
    refine gIstore Xt17 hx (hb hby at_9) (l' := #[.val (.int p0), .val (.int p1), .val (.int p2), .val (.int p3), .val (.int (1 : Int32)), .val (.int ch0), .unset, .unset, .unset, .unset]) rfl ?_
    refine gIloadN Xt17 hx (hb hby at_11) rfl ?_
    refine goCallS Xt17 hx hZ hown (hw _ (List.mem_of_getElem? (i := 0) rfl)) (hw _ (List.mem_of_getElem? (i := 1) rfl)) (hw _ (List.mem_of_getElem? (i := 2) rfl)) (hw _ (List.mem_of_getElem? (i := 3) rfl)) (by decide) (rmDr l Z a0 hw p2 h0 O0) 0 (by decide) (by decide) et17 (hsz rfl) [(.int p2)] [] pd_19 rfl rfl rfl (Nat.le_of_eq rfl) (hb hby at_12) (by decide) (by decide) (fun Tt20 vt20 Lt20 Xt20 qt20 => ?_)
    obtain ⟨ch1, rfl, N21, et20, nc1, q0_1, q1_1⟩ := qt20
    have N22 := Fr.app N19 N21
    show Goes p e below _ (Tt20.setTop (mkF m 15 #[.val (.int p0), .val (.int p1), .val (.int p2), .val (.int p3), .val (.int (1 : Int32)), .val (.int ch0), .unset, .unset, .unset, .unset] [(.int ch1)]))
    refine gIstore Xt20 hx (hb hby at_15) (l' := #[.val (.int p0), .val (.int p1), .val (.int p2), .val (.int p3), .val (.int (1 : Int32)), .val (.int ch0), .val (.int ch1), .unset, .unset, .unset]) rfl ?_
    refine gIloadN Xt20 hx (hb hby at_17) rfl ?_
    refine goCallS Xt20 hx hZ hown (hw _ (List.mem_of_getElem? (i := 0) rfl)) (hw _ (List.mem_of_getElem? (i := 1) rfl)) (hw _ (List.mem_of_getElem? (i := 2) rfl)) (hw _ (List.mem_of_getElem? (i := 3) rfl)) (by decide) (rmDr l Z a0 hw p3 h0 O0) 0 (by decide) (by decide) et20 (hsz rfl) [(.int p3)] [] pd_19 rfl rfl rfl (Nat.le_of_eq rfl) (hb hby at_18) (by decide) (by decide) (fun Tt23 vt23 Lt23 Xt23 qt23 => ?_)
    obtain ⟨ch2, rfl, N24, et23, nc2, q0_2, q1_2⟩ := qt23
    have N25 := Fr.app N22 N24
    show Goes p e below _ (Tt23.setTop (mkF m 21 #[.val (.int p0), .val (.int p1), .val (.int p2), .val (.int p3), .val (.int (1 : Int32)), .val (.int ch0), .val (.int ch1), .unset, .unset, .unset] [(.int ch2)]))
    refine gIstore Xt23 hx (hb hby at_21) (l' := #[.val (.int p0), .val (.int p1), .val (.int p2), .val (.int p3), .val (.int (1 : Int32)), .val (.int ch0), .val (.int ch1), .val (.int ch2), .unset, .unset]) rfl ?_
    refine gIload Xt23 hx (hb hby at_23) rfl ?_
    refine gIload Xt23 hx (hb hby at_25) rfl ?_
    refine gIload Xt23 hx (hb hby at_27) rfl ?_
    refine gIload Xt23 hx (hb hby at_29) rfl ?_
    refine goCallS Xt23 hx hZ hown (hw _ (List.mem_of_getElem? (i := 5) rfl)) (hw _ (List.mem_of_getElem? (i := 6) rfl)) (hw _ (List.mem_of_getElem? (i := 2) rfl)) (hw _ (List.mem_of_getElem? (i := 7) rfl)) (by decide) (rmBd1 l Z a0 hw cs ch0 ch1 ch2 h0 O0 S_cs hcs S_ua S_uh S_ul nc0 q0_0 q1_0) 0 (by decide) (by decide) et23 (hsz rfl) [(.int (1 : Int32)), (.int ch0), (.int ch1), (.int ch2)] [] pd_21 rfl rfl rfl (Nat.le_of_eq rfl) (hb hby at_31) (by decide) (by decide) (fun Tt26 vt26 Lt26 Xt26 qt26 => ?_)
    obtain ⟨ht26, et26⟩ : ∃ z, Tt26.heap = z := ⟨_, rfl⟩
    rw [et26] at qt26
    obtain ⟨sa, rfl, N27, Kct26, Es_, u, Gv, Ga⟩ := qt26
    have N28 := Fr.app N25 N27
    have O29 : Ext Z.heap ht26 := extK O0 Kct26 all0
    replace hS := hS.keep Kct26
    show Goes p e below _ (Tt26.setTop (mkF m 34 #[.val (.int p0), .val (.int p1), .val (.int p2), .val (.int p3), .val (.int (1 : Int32)), .val (.int ch0), .val (.int ch1), .val (.int ch2), .unset, .unset] [(.ref sa)]))
    refine gAstore Xt26 hx (hb hby at_34) rfl (l' := #[.val (.int p0), .val (.int p1), .val (.int p2), .val (.int p3), .val (.int (1 : Int32)), .val (.int ch0), .val (.int ch1), .val (.int ch2), .val (.ref sa), .unset]) rfl ?_
    refine gIload Xt26 hx (hb hby at_36) rfl ?_
    refine gIfN Xt26 hx (hb hby at_38) (XT.i0_le_f (by decide)) ?_
    show Goes p e below _ (Tt26.setTop (mkF m 41 #[.val (.int p0), .val (.int p1), .val (.int p2), .val (.int p3), .val (.int (1 : Int32)), .val (.int ch0), .val (.int ch1), .val (.int ch2), .val (.ref sa), .unset] []))
    refine gIload Xt26 hx (hb hby at_41) rfl ?_
    refine gIconst Xt26 hx (hb hby at_43) (v := (1 : Int32)) rfl ?_
    refine gIcmpN Xt26 hx (hb hby at_44) (XT.ii_lt_f (by decide)) ?_
    show Goes p e below _ (Tt26.setTop (mkF m 47 #[.val (.int p0), .val (.int p1), .val (.int p2), .val (.int p3), .val (.int (1 : Int32)), .val (.int ch0), .val (.int ch1), .val (.int ch2), .val (.ref sa), .unset] []))
    refine gIload Xt26 hx (hb hby at_47) rfl ?_
    refine goCallS Xt26 hx hZ hown (hw _ (List.mem_of_getElem? (i := 50) rfl)) (hw _ (List.mem_of_getElem? (i := 51) rfl)) (hw _ (List.mem_of_getElem? (i := 2) rfl)) (hw _ (List.mem_of_getElem? (i := 52) rfl)) (by decide) (rmTh l Z a0 hw ch0 ht26 O29) 0 (by decide) (by decide) et26 (hsz rfl) [(.int ch0)] [] pd_20 rfl rfl rfl (Nat.le_of_eq rfl) (hb hby at_49) (by decide) (by decide) (fun Tt30 vt30 Lt30 Xt30 qt30 => ?_)
    obtain ⟨z0_, rfl, N31, et30, Hd0⟩ := qt30
    have N32 := Fr.app N28 N31
    show Goes p e below _ (Tt30.setTop (mkF m 52 #[.val (.int p0), .val (.int p1), .val (.int p2), .val (.int p3), .val (.int (1 : Int32)), .val (.int ch0), .val (.int ch1), .val (.int ch2), .val (.ref sa), .unset] [(.int z0_)]))
    rcases Hd0 with ⟨rfl, d0⟩ | ⟨rfl, d0⟩
    · show Goes p e below _ (Tt30.setTop (mkF m 52 #[.val (.int p0), .val (.int p1), .val (.int p2), .val (.int p3), .val (.int (1 : Int32)), .val (.int ch0), .val (.int ch1), .val (.int ch2), .val (.ref sa), .unset] [(.int (1 : Int32))]))
      refine gIfN Xt30 hx (hb hby at_52) (XT.i0_eq_f (by decide)) ?_
      show Goes p e below _ (Tt30.setTop (mkF m 55 #[.val (.int p0), .val (.int p1), .val (.int p2), .val (.int p3), .val (.int (1 : Int32)), .val (.int ch0), .val (.int ch1), .val (.int ch2), .val (.ref sa), .unset] []))
      refine gIload Xt30 hx (hb hby at_55) rfl ?_
      refine gIconst Xt30 hx (hb hby at_57) (v := (2 : Int32)) rfl ?_
      refine gIcmpY Xt30 hx (hb hby at_58) (pc' := 69) (XT.ii_lt_t (by decide)) (by decide) (by decide) ?_
      show Goes p e below _ (Tt30.setTop (mkF m 69 #[.val (.int p0), .val (.int p1), .val (.int p2), .val (.int p3), .val (.int (1 : Int32)), .val (.int ch0), .val (.int ch1), .val (.int ch2), .val (.ref sa), .unset] []))
      refine gIload Xt30 hx (hb hby at_69) rfl ?_
      refine gIconst Xt30 hx (hb hby at_71) (v := (3 : Int32)) rfl ?_
      refine gIcmpY Xt30 hx (hb hby at_72) (pc' := 83) (XT.ii_lt_t (by decide)) (by decide) (by decide) ?_
      show Goes p e below _ (Tt30.setTop (mkF m 83 #[.val (.int p0), .val (.int p1), .val (.int p2), .val (.int p3), .val (.int (1 : Int32)), .val (.int ch0), .val (.int ch1), .val (.int ch2), .val (.ref sa), .unset] []))
      refine gIconst Xt30 hx (hb hby at_83) (v := (1 : Int32)) rfl ?_
      refine gGoto Xt30 hx (hb hby at_84) (pc' := 88) (by decide) (by decide) ?_
      show Goes p e below _ (Tt30.setTop (mkF m 88 #[.val (.int p0), .val (.int p1), .val (.int p2), .val (.int p3), .val (.int (1 : Int32)), .val (.int ch0), .val (.int ch1), .val (.int ch2), .val (.ref sa), .unset] [(.int (1 : Int32))]))
      refine gIstore Xt30 hx (hb hby at_88) (l' := #[.val (.int p0), .val (.int p1), .val (.int p2), .val (.int p3), .val (.int (1 : Int32)), .val (.int ch0), .val (.int ch1), .val (.int ch2), .val (.ref sa), .val (.int (1 : Int32))]) rfl ?_
      refine gAload Xt30 hx (hb hby at_90) rfl rfl ?_
      refine goCallSW Xt30 hx hZ hS hown (hw _ (List.mem_of_getElem? (i := 30) rfl)) (hw _ (List.mem_of_getElem? (i := 31) rfl)) (hw _ (List.mem_of_getElem? (i := 32) rfl)) (hw _ (List.mem_of_getElem? (i := 33) rfl)) (by decide) (rmTk1 l Z a0 hw u fm cs ch0 sa ht26 O29 S_cs hcs S_ua S_uh S_ul S_fm rf hh hcw nc0 q0_0 q1_0 Es_ Gv Ga) (fun _ w_ => Or.inl (IB.warm hPv w_)) 0 (by decide) (by decide) et30 (hsz rfl) [(.ref sa)] [] pd_22 rfl rfl rfl (Nat.le_of_eq rfl) (hb hby at_92) (by decide) (by decide) (fun Tt37 vt37 Lt37 Xt37 hZ hown hS wm_t37 qt37 => ?_)
      obtain ⟨ht37, et37⟩ : ∃ z, Tt37.heap = z := ⟨_, rfl⟩
      rw [et37] at qt37 hS
      obtain ⟨zt, rfl, N38, Kct37, Hz⟩ := qt37
      have N39 := Fr.app N32 N38
      have O40 : Ext Z.heap ht37 := extK O29 Kct37 all0
      show Goes p e below _ (Tt37.setTop (mkF m 95 #[.val (.int p0), .val (.int p1), .val (.int p2), .val (.int p3), .val (.int (1 : Int32)), .val (.int ch0), .val (.int ch1), .val (.int ch2), .val (.ref sa), .val (.int (1 : Int32))] [(.int zt)]))
      rcases Hz with ⟨rfl, Hz⟩ | ⟨rfl, Hz⟩
      · show Goes p e below _ (Tt37.setTop (mkF m 95 #[.val (.int p0), .val (.int p1), .val (.int p2), .val (.int p3), .val (.int (1 : Int32)), .val (.int ch0), .val (.int ch1), .val (.int ch2), .val (.ref sa), .val (.int (1 : Int32))] [(.int (1 : Int32))]))
        refine gIload Xt37 hx (hb hby at_95) rfl ?_
        refine gIcmpN Xt37 hx (hb hby at_97) (XT.ii_ne_f rfl) ?_
        show Goes p e below _ (Tt37.setTop (mkF m 100 #[.val (.int p0), .val (.int p1), .val (.int p2), .val (.int p3), .val (.int (1 : Int32)), .val (.int ch0), .val (.int ch1), .val (.int ch2), .val (.ref sa), .val (.int (1 : Int32))] []))
        refine gIconst Xt37 hx (hb hby at_100) (v := (1 : Int32)) rfl ?_
        refine gGoto Xt37 hx (hb hby at_101) (pc' := 105) (by decide) (by decide) ?_
        show Goes p e below _ (Tt37.setTop (mkF m 105 #[.val (.int p0), .val (.int p1), .val (.int p2), .val (.int p3), .val (.int (1 : Int32)), .val (.int ch0), .val (.int ch1), .val (.int ch2), .val (.ref sa), .val (.int (1 : Int32))] [(.int (1 : Int32))]))
        exact goRetNW Xt37 hx hS (t := .boolean) hret hlocks (by simp) (hb hby at_105) (z' := (1 : Int32)) rfl (by decide) (by decide) et37 (⟨rfl, N39⟩)
      · exfalso
        skip
        exact d0 Hz
    · show Goes p e below _ (Tt30.setTop (mkF m 52 #[.val (.int p0), .val (.int p1), .val (.int p2), .val (.int p3), .val (.int (1 : Int32)), .val (.int ch0), .val (.int ch1), .val (.int ch2), .val (.ref sa), .unset] [(.int (0 : Int32))]))
      refine gIfY Xt30 hx (hb hby at_52) (pc' := 87) (XT.i0_eq_t rfl) (by decide) (by decide) ?_
      show Goes p e below _ (Tt30.setTop (mkF m 87 #[.val (.int p0), .val (.int p1), .val (.int p2), .val (.int p3), .val (.int (1 : Int32)), .val (.int ch0), .val (.int ch1), .val (.int ch2), .val (.ref sa), .unset] []))
      refine gIconst Xt30 hx (hb hby at_87) (v := (0 : Int32)) rfl ?_
      refine gIstore Xt30 hx (hb hby at_88) (l' := #[.val (.int p0), .val (.int p1), .val (.int p2), .val (.int p3), .val (.int (1 : Int32)), .val (.int ch0), .val (.int ch1), .val (.int ch2), .val (.ref sa), .val (.int (0 : Int32))]) rfl ?_
      refine gAload Xt30 hx (hb hby at_90) rfl rfl ?_
      refine goCallSW Xt30 hx hZ hS hown (hw _ (List.mem_of_getElem? (i := 30) rfl)) (hw _ (List.mem_of_getElem? (i := 31) rfl)) (hw _ (List.mem_of_getElem? (i := 32) rfl)) (hw _ (List.mem_of_getElem? (i := 33) rfl)) (by decide) (rmTk1 l Z a0 hw u fm cs ch0 sa ht26 O29 S_cs hcs S_ua S_uh S_ul S_fm rf hh hcw nc0 q0_0 q1_0 Es_ Gv Ga) (fun _ w_ => Or.inl (IB.warm hPv w_)) 0 (by decide) (by decide) et30 (hsz rfl) [(.ref sa)] [] pd_22 rfl rfl rfl (Nat.le_of_eq rfl) (hb hby at_92) (by decide) (by decide) (fun Tt33 vt33 Lt33 Xt33 hZ hown hS wm_t33 qt33 => ?_)
      obtain ⟨ht33, et33⟩ : ∃ z, Tt33.heap = z := ⟨_, rfl⟩
      rw [et33] at qt33 hS
      obtain ⟨zt, rfl, N34, Kct33, Hz⟩ := qt33
      have N35 := Fr.app N32 N34
      have O36 : Ext Z.heap ht33 := extK O29 Kct33 all0
      show Goes p e below _ (Tt33.setTop (mkF m 95 #[.val (.int p0), .val (.int p1), .val (.int p2), .val (.int p3), .val (.int (1 : Int32)), .val (.int ch0), .val (.int ch1), .val (.int ch2), .val (.ref sa), .val (.int (0 : Int32))] [(.int zt)]))
      rcases Hz with ⟨rfl, Hz⟩ | ⟨rfl, Hz⟩
      · exfalso
        exact Hz d0
      · show Goes p e below _ (Tt33.setTop (mkF m 95 #[.val (.int p0), .val (.int p1), .val (.int p2), .val (.int p3), .val (.int (1 : Int32)), .val (.int ch0), .val (.int ch1), .val (.int ch2), .val (.ref sa), .val (.int (0 : Int32))] [(.int (0 : Int32))]))
        refine gIload Xt33 hx (hb hby at_95) rfl ?_
        refine gIcmpN Xt33 hx (hb hby at_97) (XT.ii_ne_f rfl) ?_
        show Goes p e below _ (Tt33.setTop (mkF m 100 #[.val (.int p0), .val (.int p1), .val (.int p2), .val (.int p3), .val (.int (1 : Int32)), .val (.int ch0), .val (.int ch1), .val (.int ch2), .val (.ref sa), .val (.int (0 : Int32))] []))
        refine gIconst Xt33 hx (hb hby at_100) (v := (1 : Int32)) rfl ?_
        refine gGoto Xt33 hx (hb hby at_101) (pc' := 105) (by decide) (by decide) ?_
        show Goes p e below _ (Tt33.setTop (mkF m 105 #[.val (.int p0), .val (.int p1), .val (.int p2), .val (.int p3), .val (.int (1 : Int32)), .val (.int ch0), .val (.int ch1), .val (.int ch2), .val (.ref sa), .val (.int (0 : Int32))] [(.int (1 : Int32))]))
        exact goRetNW Xt33 hx hS (t := .boolean) hret hlocks (by simp) (hb hby at_105) (z' := (1 : Int32)) rfl (by decide) (by decide) et33 (⟨rfl, N35⟩)
  · show Goes p e below _ (s₁.setTop (mkF m 3 #[.val (.int p0), .val (.int p1), .val (.int p2), .val (.int p3), .unset, .unset, .unset, .unset, .unset, .unset] [(.int (p0 &&& (3 : Int32)))]))
    rw [hl]
    show Goes p e below _ (s₁.setTop (mkF m 3 #[.val (.int p0), .val (.int p1), .val (.int p2), .val (.int p3), .unset, .unset, .unset, .unset, .unset, .unset] [(.int (2 : Int32))]))
    refine gIstore X0 hx (hb hby at_3) (l' := #[.val (.int p0), .val (.int p1), .val (.int p2), .val (.int p3), .val (.int (2 : Int32)), .unset, .unset, .unset, .unset, .unset]) rfl ?_
    refine gIloadN X0 hx (hb hby at_5) rfl ?_
    refine goCallS X0 hx hZ hown (hw _ (List.mem_of_getElem? (i := 0) rfl)) (hw _ (List.mem_of_getElem? (i := 1) rfl)) (hw _ (List.mem_of_getElem? (i := 2) rfl)) (hw _ (List.mem_of_getElem? (i := 3) rfl)) (by decide) (rmDr l Z a0 hw p1 h0 O0) 0 (by decide) (by decide) e0 (hsz rfl) [(.int p1)] [] pd_19 rfl rfl rfl (Nat.le_of_eq rfl) (hb hby at_6) (by decide) (by decide) (fun Tt41 vt41 Lt41 Xt41 qt41 => ?_)
    obtain ⟨ch0, rfl, N42, et41, nc0, q0_0, q1_0⟩ := qt41
    have N43 := Fr.app N0 N42
    show Goes p e below _ (Tt41.setTop (mkF m 9 #[.val (.int p0), .val (.int p1), .val (.int p2), .val (.int p3), .val (.int (2 : Int32)), .unset, .unset, .unset, .unset, .unset] [(.int ch0)]))
    refine gIstore Xt41 hx (hb hby at_9) (l' := #[.val (.int p0), .val (.int p1), .val (.int p2), .val (.int p3), .val (.int (2 : Int32)), .val (.int ch0), .unset, .unset, .unset, .unset]) rfl ?_
    refine gIloadN Xt41 hx (hb hby at_11) rfl ?_
    refine goCallS Xt41 hx hZ hown (hw _ (List.mem_of_getElem? (i := 0) rfl)) (hw _ (List.mem_of_getElem? (i := 1) rfl)) (hw _ (List.mem_of_getElem? (i := 2) rfl)) (hw _ (List.mem_of_getElem? (i := 3) rfl)) (by decide) (rmDr l Z a0 hw p2 h0 O0) 0 (by decide) (by decide) et41 (hsz rfl) [(.int p2)] [] pd_19 rfl rfl rfl (Nat.le_of_eq rfl) (hb hby at_12) (by decide) (by decide) (fun Tt44 vt44 Lt44 Xt44 qt44 => ?_)
    obtain ⟨ch1, rfl, N45, et44, nc1, q0_1, q1_1⟩ := qt44
    have N46 := Fr.app N43 N45
    show Goes p e below _ (Tt44.setTop (mkF m 15 #[.val (.int p0), .val (.int p1), .val (.int p2), .val (.int p3), .val (.int (2 : Int32)), .val (.int ch0), .unset, .unset, .unset, .unset] [(.int ch1)]))
    refine gIstore Xt44 hx (hb hby at_15) (l' := #[.val (.int p0), .val (.int p1), .val (.int p2), .val (.int p3), .val (.int (2 : Int32)), .val (.int ch0), .val (.int ch1), .unset, .unset, .unset]) rfl ?_
    refine gIloadN Xt44 hx (hb hby at_17) rfl ?_
    refine goCallS Xt44 hx hZ hown (hw _ (List.mem_of_getElem? (i := 0) rfl)) (hw _ (List.mem_of_getElem? (i := 1) rfl)) (hw _ (List.mem_of_getElem? (i := 2) rfl)) (hw _ (List.mem_of_getElem? (i := 3) rfl)) (by decide) (rmDr l Z a0 hw p3 h0 O0) 0 (by decide) (by decide) et44 (hsz rfl) [(.int p3)] [] pd_19 rfl rfl rfl (Nat.le_of_eq rfl) (hb hby at_18) (by decide) (by decide) (fun Tt47 vt47 Lt47 Xt47 qt47 => ?_)
    obtain ⟨ch2, rfl, N48, et47, nc2, q0_2, q1_2⟩ := qt47
    have N49 := Fr.app N46 N48
    show Goes p e below _ (Tt47.setTop (mkF m 21 #[.val (.int p0), .val (.int p1), .val (.int p2), .val (.int p3), .val (.int (2 : Int32)), .val (.int ch0), .val (.int ch1), .unset, .unset, .unset] [(.int ch2)]))
    refine gIstore Xt47 hx (hb hby at_21) (l' := #[.val (.int p0), .val (.int p1), .val (.int p2), .val (.int p3), .val (.int (2 : Int32)), .val (.int ch0), .val (.int ch1), .val (.int ch2), .unset, .unset]) rfl ?_
    refine gIload Xt47 hx (hb hby at_23) rfl ?_
    refine gIload Xt47 hx (hb hby at_25) rfl ?_
    refine gIload Xt47 hx (hb hby at_27) rfl ?_
    refine gIload Xt47 hx (hb hby at_29) rfl ?_
    refine goCallS Xt47 hx hZ hown (hw _ (List.mem_of_getElem? (i := 5) rfl)) (hw _ (List.mem_of_getElem? (i := 6) rfl)) (hw _ (List.mem_of_getElem? (i := 2) rfl)) (hw _ (List.mem_of_getElem? (i := 7) rfl)) (by decide) (rmBd2 l Z a0 hw cs ch0 ch1 ch2 h0 O0 S_cs hcs S_ua S_uh S_ul nc0 nc1 q0_0 q1_0 q0_1 q1_1) 0 (by decide) (by decide) et47 (hsz rfl) [(.int (2 : Int32)), (.int ch0), (.int ch1), (.int ch2)] [] pd_21 rfl rfl rfl (Nat.le_of_eq rfl) (hb hby at_31) (by decide) (by decide) (fun Tt50 vt50 Lt50 Xt50 qt50 => ?_)
    obtain ⟨ht50, et50⟩ : ∃ z, Tt50.heap = z := ⟨_, rfl⟩
    rw [et50] at qt50
    obtain ⟨sa, rfl, N51, Kct50, Es_, u, Gv, Ga⟩ := qt50
    have N52 := Fr.app N49 N51
    have O53 : Ext Z.heap ht50 := extK O0 Kct50 all0
    replace hS := hS.keep Kct50
    show Goes p e below _ (Tt50.setTop (mkF m 34 #[.val (.int p0), .val (.int p1), .val (.int p2), .val (.int p3), .val (.int (2 : Int32)), .val (.int ch0), .val (.int ch1), .val (.int ch2), .unset, .unset] [(.ref sa)]))
    refine gAstore Xt50 hx (hb hby at_34) rfl (l' := #[.val (.int p0), .val (.int p1), .val (.int p2), .val (.int p3), .val (.int (2 : Int32)), .val (.int ch0), .val (.int ch1), .val (.int ch2), .val (.ref sa), .unset]) rfl ?_
    refine gIload Xt50 hx (hb hby at_36) rfl ?_
    refine gIfN Xt50 hx (hb hby at_38) (XT.i0_le_f (by decide)) ?_
    show Goes p e below _ (Tt50.setTop (mkF m 41 #[.val (.int p0), .val (.int p1), .val (.int p2), .val (.int p3), .val (.int (2 : Int32)), .val (.int ch0), .val (.int ch1), .val (.int ch2), .val (.ref sa), .unset] []))
    refine gIload Xt50 hx (hb hby at_41) rfl ?_
    refine gIconst Xt50 hx (hb hby at_43) (v := (1 : Int32)) rfl ?_
    refine gIcmpN Xt50 hx (hb hby at_44) (XT.ii_lt_f (by decide)) ?_
    show Goes p e below _ (Tt50.setTop (mkF m 47 #[.val (.int p0), .val (.int p1), .val (.int p2), .val (.int p3), .val (.int (2 : Int32)), .val (.int ch0), .val (.int ch1), .val (.int ch2), .val (.ref sa), .unset] []))
    refine gIload Xt50 hx (hb hby at_47) rfl ?_
    refine goCallS Xt50 hx hZ hown (hw _ (List.mem_of_getElem? (i := 50) rfl)) (hw _ (List.mem_of_getElem? (i := 51) rfl)) (hw _ (List.mem_of_getElem? (i := 2) rfl)) (hw _ (List.mem_of_getElem? (i := 52) rfl)) (by decide) (rmTh l Z a0 hw ch0 ht50 O53) 0 (by decide) (by decide) et50 (hsz rfl) [(.int ch0)] [] pd_20 rfl rfl rfl (Nat.le_of_eq rfl) (hb hby at_49) (by decide) (by decide) (fun Tt54 vt54 Lt54 Xt54 qt54 => ?_)
    obtain ⟨z0_, rfl, N55, et54, Hd0⟩ := qt54
    have N56 := Fr.app N52 N55
    show Goes p e below _ (Tt54.setTop (mkF m 52 #[.val (.int p0), .val (.int p1), .val (.int p2), .val (.int p3), .val (.int (2 : Int32)), .val (.int ch0), .val (.int ch1), .val (.int ch2), .val (.ref sa), .unset] [(.int z0_)]))
    rcases Hd0 with ⟨rfl, d0⟩ | ⟨rfl, d0⟩
    · show Goes p e below _ (Tt54.setTop (mkF m 52 #[.val (.int p0), .val (.int p1), .val (.int p2), .val (.int p3), .val (.int (2 : Int32)), .val (.int ch0), .val (.int ch1), .val (.int ch2), .val (.ref sa), .unset] [(.int (1 : Int32))]))
      refine gIfN Xt54 hx (hb hby at_52) (XT.i0_eq_f (by decide)) ?_
      show Goes p e below _ (Tt54.setTop (mkF m 55 #[.val (.int p0), .val (.int p1), .val (.int p2), .val (.int p3), .val (.int (2 : Int32)), .val (.int ch0), .val (.int ch1), .val (.int ch2), .val (.ref sa), .unset] []))
      refine gIload Xt54 hx (hb hby at_55) rfl ?_
      refine gIconst Xt54 hx (hb hby at_57) (v := (2 : Int32)) rfl ?_
      refine gIcmpN Xt54 hx (hb hby at_58) (XT.ii_lt_f (by decide)) ?_
      show Goes p e below _ (Tt54.setTop (mkF m 61 #[.val (.int p0), .val (.int p1), .val (.int p2), .val (.int p3), .val (.int (2 : Int32)), .val (.int ch0), .val (.int ch1), .val (.int ch2), .val (.ref sa), .unset] []))
      refine gIload Xt54 hx (hb hby at_61) rfl ?_
      refine goCallS Xt54 hx hZ hown (hw _ (List.mem_of_getElem? (i := 50) rfl)) (hw _ (List.mem_of_getElem? (i := 51) rfl)) (hw _ (List.mem_of_getElem? (i := 2) rfl)) (hw _ (List.mem_of_getElem? (i := 52) rfl)) (by decide) (rmTh l Z a0 hw ch1 ht50 O53) 0 (by decide) (by decide) et54 (hsz rfl) [(.int ch1)] [] pd_20 rfl rfl rfl (Nat.le_of_eq rfl) (hb hby at_63) (by decide) (by decide) (fun Tt61 vt61 Lt61 Xt61 qt61 => ?_)
      obtain ⟨z1_, rfl, N62, et61, Hd1⟩ := qt61
      have N63 := Fr.app N56 N62
      show Goes p e below _ (Tt61.setTop (mkF m 66 #[.val (.int p0), .val (.int p1), .val (.int p2), .val (.int p3), .val (.int (2 : Int32)), .val (.int ch0), .val (.int ch1), .val (.int ch2), .val (.ref sa), .unset] [(.int z1_)]))
      rcases Hd1 with ⟨rfl, d1⟩ | ⟨rfl, d1⟩
      · show Goes p e below _ (Tt61.setTop (mkF m 66 #[.val (.int p0), .val (.int p1), .val (.int p2), .val (.int p3), .val (.int (2 : Int32)), .val (.int ch0), .val (.int ch1), .val (.int ch2), .val (.ref sa), .unset] [(.int (1 : Int32))]))
        refine gIfN Xt61 hx (hb hby at_66) (XT.i0_eq_f (by decide)) ?_
        show Goes p e below _ (Tt61.setTop (mkF m 69 #[.val (.int p0), .val (.int p1), .val (.int p2), .val (.int p3), .val (.int (2 : Int32)), .val (.int ch0), .val (.int ch1), .val (.int ch2), .val (.ref sa), .unset] []))
        refine gIload Xt61 hx (hb hby at_69) rfl ?_
        refine gIconst Xt61 hx (hb hby at_71) (v := (3 : Int32)) rfl ?_
        refine gIcmpY Xt61 hx (hb hby at_72) (pc' := 83) (XT.ii_lt_t (by decide)) (by decide) (by decide) ?_
        show Goes p e below _ (Tt61.setTop (mkF m 83 #[.val (.int p0), .val (.int p1), .val (.int p2), .val (.int p3), .val (.int (2 : Int32)), .val (.int ch0), .val (.int ch1), .val (.int ch2), .val (.ref sa), .unset] []))
        refine gIconst Xt61 hx (hb hby at_83) (v := (1 : Int32)) rfl ?_
        refine gGoto Xt61 hx (hb hby at_84) (pc' := 88) (by decide) (by decide) ?_
        show Goes p e below _ (Tt61.setTop (mkF m 88 #[.val (.int p0), .val (.int p1), .val (.int p2), .val (.int p3), .val (.int (2 : Int32)), .val (.int ch0), .val (.int ch1), .val (.int ch2), .val (.ref sa), .unset] [(.int (1 : Int32))]))
        refine gIstore Xt61 hx (hb hby at_88) (l' := #[.val (.int p0), .val (.int p1), .val (.int p2), .val (.int p3), .val (.int (2 : Int32)), .val (.int ch0), .val (.int ch1), .val (.int ch2), .val (.ref sa), .val (.int (1 : Int32))]) rfl ?_
        refine gAload Xt61 hx (hb hby at_90) rfl rfl ?_
        refine goCallSW Xt61 hx hZ hS hown (hw _ (List.mem_of_getElem? (i := 30) rfl)) (hw _ (List.mem_of_getElem? (i := 31) rfl)) (hw _ (List.mem_of_getElem? (i := 32) rfl)) (hw _ (List.mem_of_getElem? (i := 33) rfl)) (by decide) (rmTk2 l Z a0 hw u fm cs ch0 ch1 sa ht50 O53 S_cs hcs S_ua S_uh S_ul S_fm rf hh hcw nc0 nc1 q0_0 q1_0 q0_1 q1_1 Es_ Gv Ga) (fun _ w_ => Or.inl (IB.warm hPv w_)) 0 (by decide) (by decide) et61 (hsz rfl) [(.ref sa)] [] pd_22 rfl rfl rfl (Nat.le_of_eq rfl) (hb hby at_92) (by decide) (by decide) (fun Tt68 vt68 Lt68 Xt68 hZ hown hS wm_t68 qt68 => ?_)
        obtain ⟨ht68, et68⟩ : ∃ z, Tt68.heap = z := ⟨_, rfl⟩
        rw [et68] at qt68 hS
        obtain ⟨zt, rfl, N69, Kct68, Hz⟩ := qt68
        have N70 := Fr.app N63 N69
        have O71 : Ext Z.heap ht68 := extK O53 Kct68 all0
        show Goes p e below _ (Tt68.setTop (mkF m 95 #[.val (.int p0), .val (.int p1), .val (.int p2), .val (.int p3), .val (.int (2 : Int32)), .val (.int ch0), .val (.int ch1), .val (.int ch2), .val (.ref sa), .val (.int (1 : Int32))] [(.int zt)]))
        rcases Hz with ⟨rfl, Hz⟩ | ⟨rfl, Hz⟩
        · show Goes p e below _ (Tt68.setTop (mkF m 95 #[.val (.int p0), .val (.int p1), .val (.int p2), .val (.int p3), .val (.int (2 : Int32)), .val (.int ch0), .val (.int ch1), .val (.int ch2), .val (.ref sa), .val (.int (1 : Int32))] [(.int (1 : Int32))]))
          refine gIload Xt68 hx (hb hby at_95) rfl ?_
          refine gIcmpN Xt68 hx (hb hby at_97) (XT.ii_ne_f rfl) ?_
          show Goes p e below _ (Tt68.setTop (mkF m 100 #[.val (.int p0), .val (.int p1), .val (.int p2), .val (.int p3), .val (.int (2 : Int32)), .val (.int ch0), .val (.int ch1), .val (.int ch2), .val (.ref sa), .val (.int (1 : Int32))] []))
          refine gIconst Xt68 hx (hb hby at_100) (v := (1 : Int32)) rfl ?_
          refine gGoto Xt68 hx (hb hby at_101) (pc' := 105) (by decide) (by decide) ?_
          show Goes p e below _ (Tt68.setTop (mkF m 105 #[.val (.int p0), .val (.int p1), .val (.int p2), .val (.int p3), .val (.int (2 : Int32)), .val (.int ch0), .val (.int ch1), .val (.int ch2), .val (.ref sa), .val (.int (1 : Int32))] [(.int (1 : Int32))]))
          exact goRetNW Xt68 hx hS (t := .boolean) hret hlocks (by simp) (hb hby at_105) (z' := (1 : Int32)) rfl (by decide) (by decide) et68 (⟨rfl, N70⟩)
        · exfalso
          rcases Hz with Hz | Hz
          · exact d0 Hz
          · exact d1 Hz
      · show Goes p e below _ (Tt61.setTop (mkF m 66 #[.val (.int p0), .val (.int p1), .val (.int p2), .val (.int p3), .val (.int (2 : Int32)), .val (.int ch0), .val (.int ch1), .val (.int ch2), .val (.ref sa), .unset] [(.int (0 : Int32))]))
        refine gIfY Xt61 hx (hb hby at_66) (pc' := 87) (XT.i0_eq_t rfl) (by decide) (by decide) ?_
        show Goes p e below _ (Tt61.setTop (mkF m 87 #[.val (.int p0), .val (.int p1), .val (.int p2), .val (.int p3), .val (.int (2 : Int32)), .val (.int ch0), .val (.int ch1), .val (.int ch2), .val (.ref sa), .unset] []))
        refine gIconst Xt61 hx (hb hby at_87) (v := (0 : Int32)) rfl ?_
        refine gIstore Xt61 hx (hb hby at_88) (l' := #[.val (.int p0), .val (.int p1), .val (.int p2), .val (.int p3), .val (.int (2 : Int32)), .val (.int ch0), .val (.int ch1), .val (.int ch2), .val (.ref sa), .val (.int (0 : Int32))]) rfl ?_
        refine gAload Xt61 hx (hb hby at_90) rfl rfl ?_
        refine goCallSW Xt61 hx hZ hS hown (hw _ (List.mem_of_getElem? (i := 30) rfl)) (hw _ (List.mem_of_getElem? (i := 31) rfl)) (hw _ (List.mem_of_getElem? (i := 32) rfl)) (hw _ (List.mem_of_getElem? (i := 33) rfl)) (by decide) (rmTk2 l Z a0 hw u fm cs ch0 ch1 sa ht50 O53 S_cs hcs S_ua S_uh S_ul S_fm rf hh hcw nc0 nc1 q0_0 q1_0 q0_1 q1_1 Es_ Gv Ga) (fun _ w_ => Or.inl (IB.warm hPv w_)) 0 (by decide) (by decide) et61 (hsz rfl) [(.ref sa)] [] pd_22 rfl rfl rfl (Nat.le_of_eq rfl) (hb hby at_92) (by decide) (by decide) (fun Tt64 vt64 Lt64 Xt64 hZ hown hS wm_t64 qt64 => ?_)
        obtain ⟨ht64, et64⟩ : ∃ z, Tt64.heap = z := ⟨_, rfl⟩
        rw [et64] at qt64 hS
        obtain ⟨zt, rfl, N65, Kct64, Hz⟩ := qt64
        have N66 := Fr.app N63 N65
        have O67 : Ext Z.heap ht64 := extK O53 Kct64 all0
        show Goes p e below _ (Tt64.setTop (mkF m 95 #[.val (.int p0), .val (.int p1), .val (.int p2), .val (.int p3), .val (.int (2 : Int32)), .val (.int ch0), .val (.int ch1), .val (.int ch2), .val (.ref sa), .val (.int (0 : Int32))] [(.int zt)]))
        rcases Hz with ⟨rfl, Hz⟩ | ⟨rfl, Hz⟩
        · exfalso
          exact Hz.2 d1
        · show Goes p e below _ (Tt64.setTop (mkF m 95 #[.val (.int p0), .val (.int p1), .val (.int p2), .val (.int p3), .val (.int (2 : Int32)), .val (.int ch0), .val (.int ch1), .val (.int ch2), .val (.ref sa), .val (.int (0 : Int32))] [(.int (0 : Int32))]))
          refine gIload Xt64 hx (hb hby at_95) rfl ?_
          refine gIcmpN Xt64 hx (hb hby at_97) (XT.ii_ne_f rfl) ?_
          show Goes p e below _ (Tt64.setTop (mkF m 100 #[.val (.int p0), .val (.int p1), .val (.int p2), .val (.int p3), .val (.int (2 : Int32)), .val (.int ch0), .val (.int ch1), .val (.int ch2), .val (.ref sa), .val (.int (0 : Int32))] []))
          refine gIconst Xt64 hx (hb hby at_100) (v := (1 : Int32)) rfl ?_
          refine gGoto Xt64 hx (hb hby at_101) (pc' := 105) (by decide) (by decide) ?_
          show Goes p e below _ (Tt64.setTop (mkF m 105 #[.val (.int p0), .val (.int p1), .val (.int p2), .val (.int p3), .val (.int (2 : Int32)), .val (.int ch0), .val (.int ch1), .val (.int ch2), .val (.ref sa), .val (.int (0 : Int32))] [(.int (1 : Int32))]))
          exact goRetNW Xt64 hx hS (t := .boolean) hret hlocks (by simp) (hb hby at_105) (z' := (1 : Int32)) rfl (by decide) (by decide) et64 (⟨rfl, N66⟩)
    · show Goes p e below _ (Tt54.setTop (mkF m 52 #[.val (.int p0), .val (.int p1), .val (.int p2), .val (.int p3), .val (.int (2 : Int32)), .val (.int ch0), .val (.int ch1), .val (.int ch2), .val (.ref sa), .unset] [(.int (0 : Int32))]))
      refine gIfY Xt54 hx (hb hby at_52) (pc' := 87) (XT.i0_eq_t rfl) (by decide) (by decide) ?_
      show Goes p e below _ (Tt54.setTop (mkF m 87 #[.val (.int p0), .val (.int p1), .val (.int p2), .val (.int p3), .val (.int (2 : Int32)), .val (.int ch0), .val (.int ch1), .val (.int ch2), .val (.ref sa), .unset] []))
      refine gIconst Xt54 hx (hb hby at_87) (v := (0 : Int32)) rfl ?_
      refine gIstore Xt54 hx (hb hby at_88) (l' := #[.val (.int p0), .val (.int p1), .val (.int p2), .val (.int p3), .val (.int (2 : Int32)), .val (.int ch0), .val (.int ch1), .val (.int ch2), .val (.ref sa), .val (.int (0 : Int32))]) rfl ?_
      refine gAload Xt54 hx (hb hby at_90) rfl rfl ?_
      refine goCallSW Xt54 hx hZ hS hown (hw _ (List.mem_of_getElem? (i := 30) rfl)) (hw _ (List.mem_of_getElem? (i := 31) rfl)) (hw _ (List.mem_of_getElem? (i := 32) rfl)) (hw _ (List.mem_of_getElem? (i := 33) rfl)) (by decide) (rmTk2 l Z a0 hw u fm cs ch0 ch1 sa ht50 O53 S_cs hcs S_ua S_uh S_ul S_fm rf hh hcw nc0 nc1 q0_0 q1_0 q0_1 q1_1 Es_ Gv Ga) (fun _ w_ => Or.inl (IB.warm hPv w_)) 0 (by decide) (by decide) et54 (hsz rfl) [(.ref sa)] [] pd_22 rfl rfl rfl (Nat.le_of_eq rfl) (hb hby at_92) (by decide) (by decide) (fun Tt57 vt57 Lt57 Xt57 hZ hown hS wm_t57 qt57 => ?_)
      obtain ⟨ht57, et57⟩ : ∃ z, Tt57.heap = z := ⟨_, rfl⟩
      rw [et57] at qt57 hS
      obtain ⟨zt, rfl, N58, Kct57, Hz⟩ := qt57
      have N59 := Fr.app N56 N58
      have O60 : Ext Z.heap ht57 := extK O53 Kct57 all0
      show Goes p e below _ (Tt57.setTop (mkF m 95 #[.val (.int p0), .val (.int p1), .val (.int p2), .val (.int p3), .val (.int (2 : Int32)), .val (.int ch0), .val (.int ch1), .val (.int ch2), .val (.ref sa), .val (.int (0 : Int32))] [(.int zt)]))
      rcases Hz with ⟨rfl, Hz⟩ | ⟨rfl, Hz⟩
      · exfalso
        exact Hz.1 d0
      · show Goes p e below _ (Tt57.setTop (mkF m 95 #[.val (.int p0), .val (.int p1), .val (.int p2), .val (.int p3), .val (.int (2 : Int32)), .val (.int ch0), .val (.int ch1), .val (.int ch2), .val (.ref sa), .val (.int (0 : Int32))] [(.int (0 : Int32))]))
        refine gIload Xt57 hx (hb hby at_95) rfl ?_
        refine gIcmpN Xt57 hx (hb hby at_97) (XT.ii_ne_f rfl) ?_
        show Goes p e below _ (Tt57.setTop (mkF m 100 #[.val (.int p0), .val (.int p1), .val (.int p2), .val (.int p3), .val (.int (2 : Int32)), .val (.int ch0), .val (.int ch1), .val (.int ch2), .val (.ref sa), .val (.int (0 : Int32))] []))
        refine gIconst Xt57 hx (hb hby at_100) (v := (1 : Int32)) rfl ?_
        refine gGoto Xt57 hx (hb hby at_101) (pc' := 105) (by decide) (by decide) ?_
        show Goes p e below _ (Tt57.setTop (mkF m 105 #[.val (.int p0), .val (.int p1), .val (.int p2), .val (.int p3), .val (.int (2 : Int32)), .val (.int ch0), .val (.int ch1), .val (.int ch2), .val (.ref sa), .val (.int (0 : Int32))] [(.int (1 : Int32))]))
        exact goRetNW Xt57 hx hS (t := .boolean) hret hlocks (by simp) (hb hby at_105) (z' := (1 : Int32)) rfl (by decide) (by decide) et57 (⟨rfl, N59⟩)
  · show Goes p e below _ (s₁.setTop (mkF m 3 #[.val (.int p0), .val (.int p1), .val (.int p2), .val (.int p3), .unset, .unset, .unset, .unset, .unset, .unset] [(.int (p0 &&& (3 : Int32)))]))
    rw [hl]
    show Goes p e below _ (s₁.setTop (mkF m 3 #[.val (.int p0), .val (.int p1), .val (.int p2), .val (.int p3), .unset, .unset, .unset, .unset, .unset, .unset] [(.int (3 : Int32))]))
    refine gIstore X0 hx (hb hby at_3) (l' := #[.val (.int p0), .val (.int p1), .val (.int p2), .val (.int p3), .val (.int (3 : Int32)), .unset, .unset, .unset, .unset, .unset]) rfl ?_
    refine gIloadN X0 hx (hb hby at_5) rfl ?_
    refine goCallS X0 hx hZ hown (hw _ (List.mem_of_getElem? (i := 0) rfl)) (hw _ (List.mem_of_getElem? (i := 1) rfl)) (hw _ (List.mem_of_getElem? (i := 2) rfl)) (hw _ (List.mem_of_getElem? (i := 3) rfl)) (by decide) (rmDr l Z a0 hw p1 h0 O0) 0 (by decide) (by decide) e0 (hsz rfl) [(.int p1)] [] pd_19 rfl rfl rfl (Nat.le_of_eq rfl) (hb hby at_6) (by decide) (by decide) (fun Tt72 vt72 Lt72 Xt72 qt72 => ?_)
    obtain ⟨ch0, rfl, N73, et72, nc0, q0_0, q1_0⟩ := qt72
    have N74 := Fr.app N0 N73
    show Goes p e below _ (Tt72.setTop (mkF m 9 #[.val (.int p0), .val (.int p1), .val (.int p2), .val (.int p3), .val (.int (3 : Int32)), .unset, .unset, .unset, .unset, .unset] [(.int ch0)]))
    refine gIstore Xt72 hx (hb hby at_9) (l' := #[.val (.int p0), .val (.int p1), .val (.int p2), .val (.int p3), .val (.int (3 : Int32)), .val (.int ch0), .unset, .unset, .unset, .unset]) rfl ?_
    refine gIloadN Xt72 hx (hb hby at_11) rfl ?_
    refine goCallS Xt72 hx hZ hown (hw _ (List.mem_of_getElem? (i := 0) rfl)) (hw _ (List.mem_of_getElem? (i := 1) rfl)) (hw _ (List.mem_of_getElem? (i := 2) rfl)) (hw _ (List.mem_of_getElem? (i := 3) rfl)) (by decide) (rmDr l Z a0 hw p2 h0 O0) 0 (by decide) (by decide) et72 (hsz rfl) [(.int p2)] [] pd_19 rfl rfl rfl (Nat.le_of_eq rfl) (hb hby at_12) (by decide) (by decide) (fun Tt75 vt75 Lt75 Xt75 qt75 => ?_)
    obtain ⟨ch1, rfl, N76, et75, nc1, q0_1, q1_1⟩ := qt75
    have N77 := Fr.app N74 N76
    show Goes p e below _ (Tt75.setTop (mkF m 15 #[.val (.int p0), .val (.int p1), .val (.int p2), .val (.int p3), .val (.int (3 : Int32)), .val (.int ch0), .unset, .unset, .unset, .unset] [(.int ch1)]))
    refine gIstore Xt75 hx (hb hby at_15) (l' := #[.val (.int p0), .val (.int p1), .val (.int p2), .val (.int p3), .val (.int (3 : Int32)), .val (.int ch0), .val (.int ch1), .unset, .unset, .unset]) rfl ?_
    refine gIloadN Xt75 hx (hb hby at_17) rfl ?_
    refine goCallS Xt75 hx hZ hown (hw _ (List.mem_of_getElem? (i := 0) rfl)) (hw _ (List.mem_of_getElem? (i := 1) rfl)) (hw _ (List.mem_of_getElem? (i := 2) rfl)) (hw _ (List.mem_of_getElem? (i := 3) rfl)) (by decide) (rmDr l Z a0 hw p3 h0 O0) 0 (by decide) (by decide) et75 (hsz rfl) [(.int p3)] [] pd_19 rfl rfl rfl (Nat.le_of_eq rfl) (hb hby at_18) (by decide) (by decide) (fun Tt78 vt78 Lt78 Xt78 qt78 => ?_)
    obtain ⟨ch2, rfl, N79, et78, nc2, q0_2, q1_2⟩ := qt78
    have N80 := Fr.app N77 N79
    show Goes p e below _ (Tt78.setTop (mkF m 21 #[.val (.int p0), .val (.int p1), .val (.int p2), .val (.int p3), .val (.int (3 : Int32)), .val (.int ch0), .val (.int ch1), .unset, .unset, .unset] [(.int ch2)]))
    refine gIstore Xt78 hx (hb hby at_21) (l' := #[.val (.int p0), .val (.int p1), .val (.int p2), .val (.int p3), .val (.int (3 : Int32)), .val (.int ch0), .val (.int ch1), .val (.int ch2), .unset, .unset]) rfl ?_
    refine gIload Xt78 hx (hb hby at_23) rfl ?_
    refine gIload Xt78 hx (hb hby at_25) rfl ?_
    refine gIload Xt78 hx (hb hby at_27) rfl ?_
    refine gIload Xt78 hx (hb hby at_29) rfl ?_
    refine goCallS Xt78 hx hZ hown (hw _ (List.mem_of_getElem? (i := 5) rfl)) (hw _ (List.mem_of_getElem? (i := 6) rfl)) (hw _ (List.mem_of_getElem? (i := 2) rfl)) (hw _ (List.mem_of_getElem? (i := 7) rfl)) (by decide) (rmBd3 l Z a0 hw cs ch0 ch1 ch2 h0 O0 S_cs hcs S_ua S_uh S_ul nc0 nc1 nc2 q0_0 q1_0 q0_1 q1_1 q0_2 q1_2) 0 (by decide) (by decide) et78 (hsz rfl) [(.int (3 : Int32)), (.int ch0), (.int ch1), (.int ch2)] [] pd_21 rfl rfl rfl (Nat.le_of_eq rfl) (hb hby at_31) (by decide) (by decide) (fun Tt81 vt81 Lt81 Xt81 qt81 => ?_)
    obtain ⟨ht81, et81⟩ : ∃ z, Tt81.heap = z := ⟨_, rfl⟩
    rw [et81] at qt81
    obtain ⟨sa, rfl, N82, Kct81, Es_, u, Gv, Ga⟩ := qt81
    have N83 := Fr.app N80 N82
    have O84 : Ext Z.heap ht81 := extK O0 Kct81 all0
    replace hS := hS.keep Kct81
    show Goes p e below _ (Tt81.setTop (mkF m 34 #[.val (.int p0), .val (.int p1), .val (.int p2), .val (.int p3), .val (.int (3 : Int32)), .val (.int ch0), .val (.int ch1), .val (.int ch2), .unset, .unset] [(.ref sa)]))
    refine gAstore Xt81 hx (hb hby at_34) rfl (l' := #[.val (.int p0), .val (.int p1), .val (.int p2), .val (.int p3), .val (.int (3 : Int32)), .val (.int ch0), .val (.int ch1), .val (.int ch2), .val (.ref sa), .unset]) rfl ?_
    refine gIload Xt81 hx (hb hby at_36) rfl ?_
    refine gIfN Xt81 hx (hb hby at_38) (XT.i0_le_f (by decide)) ?_
    show Goes p e below _ (Tt81.setTop (mkF m 41 #[.val (.int p0), .val (.int p1), .val (.int p2), .val (.int p3), .val (.int (3 : Int32)), .val (.int ch0), .val (.int ch1), .val (.int ch2), .val (.ref sa), .unset] []))
    refine gIload Xt81 hx (hb hby at_41) rfl ?_
    refine gIconst Xt81 hx (hb hby at_43) (v := (1 : Int32)) rfl ?_
    refine gIcmpN Xt81 hx (hb hby at_44) (XT.ii_lt_f (by decide)) ?_
    show Goes p e below _ (Tt81.setTop (mkF m 47 #[.val (.int p0), .val (.int p1), .val (.int p2), .val (.int p3), .val (.int (3 : Int32)), .val (.int ch0), .val (.int ch1), .val (.int ch2), .val (.ref sa), .unset] []))
    refine gIload Xt81 hx (hb hby at_47) rfl ?_
    refine goCallS Xt81 hx hZ hown (hw _ (List.mem_of_getElem? (i := 50) rfl)) (hw _ (List.mem_of_getElem? (i := 51) rfl)) (hw _ (List.mem_of_getElem? (i := 2) rfl)) (hw _ (List.mem_of_getElem? (i := 52) rfl)) (by decide) (rmTh l Z a0 hw ch0 ht81 O84) 0 (by decide) (by decide) et81 (hsz rfl) [(.int ch0)] [] pd_20 rfl rfl rfl (Nat.le_of_eq rfl) (hb hby at_49) (by decide) (by decide) (fun Tt85 vt85 Lt85 Xt85 qt85 => ?_)
    obtain ⟨z0_, rfl, N86, et85, Hd0⟩ := qt85
    have N87 := Fr.app N83 N86
    show Goes p e below _ (Tt85.setTop (mkF m 52 #[.val (.int p0), .val (.int p1), .val (.int p2), .val (.int p3), .val (.int (3 : Int32)), .val (.int ch0), .val (.int ch1), .val (.int ch2), .val (.ref sa), .unset] [(.int z0_)]))
    rcases Hd0 with ⟨rfl, d0⟩ | ⟨rfl, d0⟩
    · show Goes p e below _ (Tt85.setTop (mkF m 52 #[.val (.int p0), .val (.int p1), .val (.int p2), .val (.int p3), .val (.int (3 : Int32)), .val (.int ch0), .val (.int ch1), .val (.int ch2), .val (.ref sa), .unset] [(.int (1 : Int32))]))
      refine gIfN Xt85 hx (hb hby at_52) (XT.i0_eq_f (by decide)) ?_
      show Goes p e below _ (Tt85.setTop (mkF m 55 #[.val (.int p0), .val (.int p1), .val (.int p2), .val (.int p3), .val (.int (3 : Int32)), .val (.int ch0), .val (.int ch1), .val (.int ch2), .val (.ref sa), .unset] []))
      refine gIload Xt85 hx (hb hby at_55) rfl ?_
      refine gIconst Xt85 hx (hb hby at_57) (v := (2 : Int32)) rfl ?_
      refine gIcmpN Xt85 hx (hb hby at_58) (XT.ii_lt_f (by decide)) ?_
      show Goes p e below _ (Tt85.setTop (mkF m 61 #[.val (.int p0), .val (.int p1), .val (.int p2), .val (.int p3), .val (.int (3 : Int32)), .val (.int ch0), .val (.int ch1), .val (.int ch2), .val (.ref sa), .unset] []))
      refine gIload Xt85 hx (hb hby at_61) rfl ?_
      refine goCallS Xt85 hx hZ hown (hw _ (List.mem_of_getElem? (i := 50) rfl)) (hw _ (List.mem_of_getElem? (i := 51) rfl)) (hw _ (List.mem_of_getElem? (i := 2) rfl)) (hw _ (List.mem_of_getElem? (i := 52) rfl)) (by decide) (rmTh l Z a0 hw ch1 ht81 O84) 0 (by decide) (by decide) et85 (hsz rfl) [(.int ch1)] [] pd_20 rfl rfl rfl (Nat.le_of_eq rfl) (hb hby at_63) (by decide) (by decide) (fun Tt92 vt92 Lt92 Xt92 qt92 => ?_)
      obtain ⟨z1_, rfl, N93, et92, Hd1⟩ := qt92
      have N94 := Fr.app N87 N93
      show Goes p e below _ (Tt92.setTop (mkF m 66 #[.val (.int p0), .val (.int p1), .val (.int p2), .val (.int p3), .val (.int (3 : Int32)), .val (.int ch0), .val (.int ch1), .val (.int ch2), .val (.ref sa), .unset] [(.int z1_)]))
      rcases Hd1 with ⟨rfl, d1⟩ | ⟨rfl, d1⟩
      · show Goes p e below _ (Tt92.setTop (mkF m 66 #[.val (.int p0), .val (.int p1), .val (.int p2), .val (.int p3), .val (.int (3 : Int32)), .val (.int ch0), .val (.int ch1), .val (.int ch2), .val (.ref sa), .unset] [(.int (1 : Int32))]))
        refine gIfN Xt92 hx (hb hby at_66) (XT.i0_eq_f (by decide)) ?_
        show Goes p e below _ (Tt92.setTop (mkF m 69 #[.val (.int p0), .val (.int p1), .val (.int p2), .val (.int p3), .val (.int (3 : Int32)), .val (.int ch0), .val (.int ch1), .val (.int ch2), .val (.ref sa), .unset] []))
        refine gIload Xt92 hx (hb hby at_69) rfl ?_
        refine gIconst Xt92 hx (hb hby at_71) (v := (3 : Int32)) rfl ?_
        refine gIcmpN Xt92 hx (hb hby at_72) (XT.ii_lt_f (by decide)) ?_
        show Goes p e below _ (Tt92.setTop (mkF m 75 #[.val (.int p0), .val (.int p1), .val (.int p2), .val (.int p3), .val (.int (3 : Int32)), .val (.int ch0), .val (.int ch1), .val (.int ch2), .val (.ref sa), .unset] []))
        refine gIload Xt92 hx (hb hby at_75) rfl ?_
        refine goCallS Xt92 hx hZ hown (hw _ (List.mem_of_getElem? (i := 50) rfl)) (hw _ (List.mem_of_getElem? (i := 51) rfl)) (hw _ (List.mem_of_getElem? (i := 2) rfl)) (hw _ (List.mem_of_getElem? (i := 52) rfl)) (by decide) (rmTh l Z a0 hw ch2 ht81 O84) 0 (by decide) (by decide) et92 (hsz rfl) [(.int ch2)] [] pd_20 rfl rfl rfl (Nat.le_of_eq rfl) (hb hby at_77) (by decide) (by decide) (fun Tt99 vt99 Lt99 Xt99 qt99 => ?_)
        obtain ⟨z2_, rfl, N100, et99, Hd2⟩ := qt99
        have N101 := Fr.app N94 N100
        show Goes p e below _ (Tt99.setTop (mkF m 80 #[.val (.int p0), .val (.int p1), .val (.int p2), .val (.int p3), .val (.int (3 : Int32)), .val (.int ch0), .val (.int ch1), .val (.int ch2), .val (.ref sa), .unset] [(.int z2_)]))
        rcases Hd2 with ⟨rfl, d2⟩ | ⟨rfl, d2⟩
        · show Goes p e below _ (Tt99.setTop (mkF m 80 #[.val (.int p0), .val (.int p1), .val (.int p2), .val (.int p3), .val (.int (3 : Int32)), .val (.int ch0), .val (.int ch1), .val (.int ch2), .val (.ref sa), .unset] [(.int (1 : Int32))]))
          refine gIfN Xt99 hx (hb hby at_80) (XT.i0_eq_f (by decide)) ?_
          show Goes p e below _ (Tt99.setTop (mkF m 83 #[.val (.int p0), .val (.int p1), .val (.int p2), .val (.int p3), .val (.int (3 : Int32)), .val (.int ch0), .val (.int ch1), .val (.int ch2), .val (.ref sa), .unset] []))
          refine gIconst Xt99 hx (hb hby at_83) (v := (1 : Int32)) rfl ?_
          refine gGoto Xt99 hx (hb hby at_84) (pc' := 88) (by decide) (by decide) ?_
          show Goes p e below _ (Tt99.setTop (mkF m 88 #[.val (.int p0), .val (.int p1), .val (.int p2), .val (.int p3), .val (.int (3 : Int32)), .val (.int ch0), .val (.int ch1), .val (.int ch2), .val (.ref sa), .unset] [(.int (1 : Int32))]))
          refine gIstore Xt99 hx (hb hby at_88) (l' := #[.val (.int p0), .val (.int p1), .val (.int p2), .val (.int p3), .val (.int (3 : Int32)), .val (.int ch0), .val (.int ch1), .val (.int ch2), .val (.ref sa), .val (.int (1 : Int32))]) rfl ?_
          refine gAload Xt99 hx (hb hby at_90) rfl rfl ?_
          refine goCallSW Xt99 hx hZ hS hown (hw _ (List.mem_of_getElem? (i := 30) rfl)) (hw _ (List.mem_of_getElem? (i := 31) rfl)) (hw _ (List.mem_of_getElem? (i := 32) rfl)) (hw _ (List.mem_of_getElem? (i := 33) rfl)) (by decide) (rmTk3 l Z a0 hw u fm cs ch0 ch1 ch2 sa ht81 O84 S_cs hcs S_ua S_uh S_ul S_fm rf hh hcw nc0 nc1 nc2 q0_0 q1_0 q0_1 q1_1 q0_2 q1_2 Es_ Gv Ga) (fun _ w_ => Or.inl (IB.warm hPv w_)) 0 (by decide) (by decide) et99 (hsz rfl) [(.ref sa)] [] pd_22 rfl rfl rfl (Nat.le_of_eq rfl) (hb hby at_92) (by decide) (by decide) (fun Tt106 vt106 Lt106 Xt106 hZ hown hS wm_t106 qt106 => ?_)
          obtain ⟨ht106, et106⟩ : ∃ z, Tt106.heap = z := ⟨_, rfl⟩
          rw [et106] at qt106 hS
          obtain ⟨zt, rfl, N107, Kct106, Hz⟩ := qt106
          have N108 := Fr.app N101 N107
          have O109 : Ext Z.heap ht106 := extK O84 Kct106 all0
          show Goes p e below _ (Tt106.setTop (mkF m 95 #[.val (.int p0), .val (.int p1), .val (.int p2), .val (.int p3), .val (.int (3 : Int32)), .val (.int ch0), .val (.int ch1), .val (.int ch2), .val (.ref sa), .val (.int (1 : Int32))] [(.int zt)]))
          rcases Hz with ⟨rfl, Hz⟩ | ⟨rfl, Hz⟩
          · show Goes p e below _ (Tt106.setTop (mkF m 95 #[.val (.int p0), .val (.int p1), .val (.int p2), .val (.int p3), .val (.int (3 : Int32)), .val (.int ch0), .val (.int ch1), .val (.int ch2), .val (.ref sa), .val (.int (1 : Int32))] [(.int (1 : Int32))]))
            refine gIload Xt106 hx (hb hby at_95) rfl ?_
            refine gIcmpN Xt106 hx (hb hby at_97) (XT.ii_ne_f rfl) ?_
            show Goes p e below _ (Tt106.setTop (mkF m 100 #[.val (.int p0), .val (.int p1), .val (.int p2), .val (.int p3), .val (.int (3 : Int32)), .val (.int ch0), .val (.int ch1), .val (.int ch2), .val (.ref sa), .val (.int (1 : Int32))] []))
            refine gIconst Xt106 hx (hb hby at_100) (v := (1 : Int32)) rfl ?_
            refine gGoto Xt106 hx (hb hby at_101) (pc' := 105) (by decide) (by decide) ?_
            show Goes p e below _ (Tt106.setTop (mkF m 105 #[.val (.int p0), .val (.int p1), .val (.int p2), .val (.int p3), .val (.int (3 : Int32)), .val (.int ch0), .val (.int ch1), .val (.int ch2), .val (.ref sa), .val (.int (1 : Int32))] [(.int (1 : Int32))]))
            exact goRetNW Xt106 hx hS (t := .boolean) hret hlocks (by simp) (hb hby at_105) (z' := (1 : Int32)) rfl (by decide) (by decide) et106 (⟨rfl, N108⟩)
          · exfalso
            rcases Hz with Hz | Hz | Hz
            · exact d0 Hz
            · exact d1 Hz
            · exact d2 Hz
        · show Goes p e below _ (Tt99.setTop (mkF m 80 #[.val (.int p0), .val (.int p1), .val (.int p2), .val (.int p3), .val (.int (3 : Int32)), .val (.int ch0), .val (.int ch1), .val (.int ch2), .val (.ref sa), .unset] [(.int (0 : Int32))]))
          refine gIfY Xt99 hx (hb hby at_80) (pc' := 87) (XT.i0_eq_t rfl) (by decide) (by decide) ?_
          show Goes p e below _ (Tt99.setTop (mkF m 87 #[.val (.int p0), .val (.int p1), .val (.int p2), .val (.int p3), .val (.int (3 : Int32)), .val (.int ch0), .val (.int ch1), .val (.int ch2), .val (.ref sa), .unset] []))
          refine gIconst Xt99 hx (hb hby at_87) (v := (0 : Int32)) rfl ?_
          refine gIstore Xt99 hx (hb hby at_88) (l' := #[.val (.int p0), .val (.int p1), .val (.int p2), .val (.int p3), .val (.int (3 : Int32)), .val (.int ch0), .val (.int ch1), .val (.int ch2), .val (.ref sa), .val (.int (0 : Int32))]) rfl ?_
          refine gAload Xt99 hx (hb hby at_90) rfl rfl ?_
          refine goCallSW Xt99 hx hZ hS hown (hw _ (List.mem_of_getElem? (i := 30) rfl)) (hw _ (List.mem_of_getElem? (i := 31) rfl)) (hw _ (List.mem_of_getElem? (i := 32) rfl)) (hw _ (List.mem_of_getElem? (i := 33) rfl)) (by decide) (rmTk3 l Z a0 hw u fm cs ch0 ch1 ch2 sa ht81 O84 S_cs hcs S_ua S_uh S_ul S_fm rf hh hcw nc0 nc1 nc2 q0_0 q1_0 q0_1 q1_1 q0_2 q1_2 Es_ Gv Ga) (fun _ w_ => Or.inl (IB.warm hPv w_)) 0 (by decide) (by decide) et99 (hsz rfl) [(.ref sa)] [] pd_22 rfl rfl rfl (Nat.le_of_eq rfl) (hb hby at_92) (by decide) (by decide) (fun Tt102 vt102 Lt102 Xt102 hZ hown hS wm_t102 qt102 => ?_)
          obtain ⟨ht102, et102⟩ : ∃ z, Tt102.heap = z := ⟨_, rfl⟩
          rw [et102] at qt102 hS
          obtain ⟨zt, rfl, N103, Kct102, Hz⟩ := qt102
          have N104 := Fr.app N101 N103
          have O105 : Ext Z.heap ht102 := extK O84 Kct102 all0
          show Goes p e below _ (Tt102.setTop (mkF m 95 #[.val (.int p0), .val (.int p1), .val (.int p2), .val (.int p3), .val (.int (3 : Int32)), .val (.int ch0), .val (.int ch1), .val (.int ch2), .val (.ref sa), .val (.int (0 : Int32))] [(.int zt)]))
          rcases Hz with ⟨rfl, Hz⟩ | ⟨rfl, Hz⟩
          · exfalso
            exact Hz.2.2 d2
          · show Goes p e below _ (Tt102.setTop (mkF m 95 #[.val (.int p0), .val (.int p1), .val (.int p2), .val (.int p3), .val (.int (3 : Int32)), .val (.int ch0), .val (.int ch1), .val (.int ch2), .val (.ref sa), .val (.int (0 : Int32))] [(.int (0 : Int32))]))
            refine gIload Xt102 hx (hb hby at_95) rfl ?_
            refine gIcmpN Xt102 hx (hb hby at_97) (XT.ii_ne_f rfl) ?_
            show Goes p e below _ (Tt102.setTop (mkF m 100 #[.val (.int p0), .val (.int p1), .val (.int p2), .val (.int p3), .val (.int (3 : Int32)), .val (.int ch0), .val (.int ch1), .val (.int ch2), .val (.ref sa), .val (.int (0 : Int32))] []))
            refine gIconst Xt102 hx (hb hby at_100) (v := (1 : Int32)) rfl ?_
            refine gGoto Xt102 hx (hb hby at_101) (pc' := 105) (by decide) (by decide) ?_
            show Goes p e below _ (Tt102.setTop (mkF m 105 #[.val (.int p0), .val (.int p1), .val (.int p2), .val (.int p3), .val (.int (3 : Int32)), .val (.int ch0), .val (.int ch1), .val (.int ch2), .val (.ref sa), .val (.int (0 : Int32))] [(.int (1 : Int32))]))
            exact goRetNW Xt102 hx hS (t := .boolean) hret hlocks (by simp) (hb hby at_105) (z' := (1 : Int32)) rfl (by decide) (by decide) et102 (⟨rfl, N104⟩)
      · show Goes p e below _ (Tt92.setTop (mkF m 66 #[.val (.int p0), .val (.int p1), .val (.int p2), .val (.int p3), .val (.int (3 : Int32)), .val (.int ch0), .val (.int ch1), .val (.int ch2), .val (.ref sa), .unset] [(.int (0 : Int32))]))
        refine gIfY Xt92 hx (hb hby at_66) (pc' := 87) (XT.i0_eq_t rfl) (by decide) (by decide) ?_
        show Goes p e below _ (Tt92.setTop (mkF m 87 #[.val (.int p0), .val (.int p1), .val (.int p2), .val (.int p3), .val (.int (3 : Int32)), .val (.int ch0), .val (.int ch1), .val (.int ch2), .val (.ref sa), .unset] []))
        refine gIconst Xt92 hx (hb hby at_87) (v := (0 : Int32)) rfl ?_
        refine gIstore Xt92 hx (hb hby at_88) (l' := #[.val (.int p0), .val (.int p1), .val (.int p2), .val (.int p3), .val (.int (3 : Int32)), .val (.int ch0), .val (.int ch1), .val (.int ch2), .val (.ref sa), .val (.int (0 : Int32))]) rfl ?_
        refine gAload Xt92 hx (hb hby at_90) rfl rfl ?_
        refine goCallSW Xt92 hx hZ hS hown (hw _ (List.mem_of_getElem? (i := 30) rfl)) (hw _ (List.mem_of_getElem? (i := 31) rfl)) (hw _ (List.mem_of_getElem? (i := 32) rfl)) (hw _ (List.mem_of_getElem? (i := 33) rfl)) (by decide) (rmTk3 l Z a0 hw u fm cs ch0 ch1 ch2 sa ht81 O84 S_cs hcs S_ua S_uh S_ul S_fm rf hh hcw nc0 nc1 nc2 q0_0 q1_0 q0_1 q1_1 q0_2 q1_2 Es_ Gv Ga) (fun _ w_ => Or.inl (IB.warm hPv w_)) 0 (by decide) (by decide) et92 (hsz rfl) [(.ref sa)] [] pd_22 rfl rfl rfl (Nat.le_of_eq rfl) (hb hby at_92) (by decide) (by decide) (fun Tt95 vt95 Lt95 Xt95 hZ hown hS wm_t95 qt95 => ?_)
        obtain ⟨ht95, et95⟩ : ∃ z, Tt95.heap = z := ⟨_, rfl⟩
        rw [et95] at qt95 hS
        obtain ⟨zt, rfl, N96, Kct95, Hz⟩ := qt95
        have N97 := Fr.app N94 N96
        have O98 : Ext Z.heap ht95 := extK O84 Kct95 all0
        show Goes p e below _ (Tt95.setTop (mkF m 95 #[.val (.int p0), .val (.int p1), .val (.int p2), .val (.int p3), .val (.int (3 : Int32)), .val (.int ch0), .val (.int ch1), .val (.int ch2), .val (.ref sa), .val (.int (0 : Int32))] [(.int zt)]))
        rcases Hz with ⟨rfl, Hz⟩ | ⟨rfl, Hz⟩
        · exfalso
          exact Hz.2.1 d1
        · show Goes p e below _ (Tt95.setTop (mkF m 95 #[.val (.int p0), .val (.int p1), .val (.int p2), .val (.int p3), .val (.int (3 : Int32)), .val (.int ch0), .val (.int ch1), .val (.int ch2), .val (.ref sa), .val (.int (0 : Int32))] [(.int (0 : Int32))]))
          refine gIload Xt95 hx (hb hby at_95) rfl ?_
          refine gIcmpN Xt95 hx (hb hby at_97) (XT.ii_ne_f rfl) ?_
          show Goes p e below _ (Tt95.setTop (mkF m 100 #[.val (.int p0), .val (.int p1), .val (.int p2), .val (.int p3), .val (.int (3 : Int32)), .val (.int ch0), .val (.int ch1), .val (.int ch2), .val (.ref sa), .val (.int (0 : Int32))] []))
          refine gIconst Xt95 hx (hb hby at_100) (v := (1 : Int32)) rfl ?_
          refine gGoto Xt95 hx (hb hby at_101) (pc' := 105) (by decide) (by decide) ?_
          show Goes p e below _ (Tt95.setTop (mkF m 105 #[.val (.int p0), .val (.int p1), .val (.int p2), .val (.int p3), .val (.int (3 : Int32)), .val (.int ch0), .val (.int ch1), .val (.int ch2), .val (.ref sa), .val (.int (0 : Int32))] [(.int (1 : Int32))]))
          exact goRetNW Xt95 hx hS (t := .boolean) hret hlocks (by simp) (hb hby at_105) (z' := (1 : Int32)) rfl (by decide) (by decide) et95 (⟨rfl, N97⟩)
    · show Goes p e below _ (Tt85.setTop (mkF m 52 #[.val (.int p0), .val (.int p1), .val (.int p2), .val (.int p3), .val (.int (3 : Int32)), .val (.int ch0), .val (.int ch1), .val (.int ch2), .val (.ref sa), .unset] [(.int (0 : Int32))]))
      refine gIfY Xt85 hx (hb hby at_52) (pc' := 87) (XT.i0_eq_t rfl) (by decide) (by decide) ?_
      show Goes p e below _ (Tt85.setTop (mkF m 87 #[.val (.int p0), .val (.int p1), .val (.int p2), .val (.int p3), .val (.int (3 : Int32)), .val (.int ch0), .val (.int ch1), .val (.int ch2), .val (.ref sa), .unset] []))
      refine gIconst Xt85 hx (hb hby at_87) (v := (0 : Int32)) rfl ?_
      refine gIstore Xt85 hx (hb hby at_88) (l' := #[.val (.int p0), .val (.int p1), .val (.int p2), .val (.int p3), .val (.int (3 : Int32)), .val (.int ch0), .val (.int ch1), .val (.int ch2), .val (.ref sa), .val (.int (0 : Int32))]) rfl ?_
      refine gAload Xt85 hx (hb hby at_90) rfl rfl ?_
      refine goCallSW Xt85 hx hZ hS hown (hw _ (List.mem_of_getElem? (i := 30) rfl)) (hw _ (List.mem_of_getElem? (i := 31) rfl)) (hw _ (List.mem_of_getElem? (i := 32) rfl)) (hw _ (List.mem_of_getElem? (i := 33) rfl)) (by decide) (rmTk3 l Z a0 hw u fm cs ch0 ch1 ch2 sa ht81 O84 S_cs hcs S_ua S_uh S_ul S_fm rf hh hcw nc0 nc1 nc2 q0_0 q1_0 q0_1 q1_1 q0_2 q1_2 Es_ Gv Ga) (fun _ w_ => Or.inl (IB.warm hPv w_)) 0 (by decide) (by decide) et85 (hsz rfl) [(.ref sa)] [] pd_22 rfl rfl rfl (Nat.le_of_eq rfl) (hb hby at_92) (by decide) (by decide) (fun Tt88 vt88 Lt88 Xt88 hZ hown hS wm_t88 qt88 => ?_)
      obtain ⟨ht88, et88⟩ : ∃ z, Tt88.heap = z := ⟨_, rfl⟩
      rw [et88] at qt88 hS
      obtain ⟨zt, rfl, N89, Kct88, Hz⟩ := qt88
      have N90 := Fr.app N87 N89
      have O91 : Ext Z.heap ht88 := extK O84 Kct88 all0
      show Goes p e below _ (Tt88.setTop (mkF m 95 #[.val (.int p0), .val (.int p1), .val (.int p2), .val (.int p3), .val (.int (3 : Int32)), .val (.int ch0), .val (.int ch1), .val (.int ch2), .val (.ref sa), .val (.int (0 : Int32))] [(.int zt)]))
      rcases Hz with ⟨rfl, Hz⟩ | ⟨rfl, Hz⟩
      · exfalso
        exact Hz.1 d0
      · show Goes p e below _ (Tt88.setTop (mkF m 95 #[.val (.int p0), .val (.int p1), .val (.int p2), .val (.int p3), .val (.int (3 : Int32)), .val (.int ch0), .val (.int ch1), .val (.int ch2), .val (.ref sa), .val (.int (0 : Int32))] [(.int (0 : Int32))]))
        refine gIload Xt88 hx (hb hby at_95) rfl ?_
        refine gIcmpN Xt88 hx (hb hby at_97) (XT.ii_ne_f rfl) ?_
        show Goes p e below _ (Tt88.setTop (mkF m 100 #[.val (.int p0), .val (.int p1), .val (.int p2), .val (.int p3), .val (.int (3 : Int32)), .val (.int ch0), .val (.int ch1), .val (.int ch2), .val (.ref sa), .val (.int (0 : Int32))] []))
        refine gIconst Xt88 hx (hb hby at_100) (v := (1 : Int32)) rfl ?_
        refine gGoto Xt88 hx (hb hby at_101) (pc' := 105) (by decide) (by decide) ?_
        show Goes p e below _ (Tt88.setTop (mkF m 105 #[.val (.int p0), .val (.int p1), .val (.int p2), .val (.int p3), .val (.int (3 : Int32)), .val (.int ch0), .val (.int ch1), .val (.int ch2), .val (.ref sa), .val (.int (0 : Int32))] [(.int (1 : Int32))]))
        exact goRetNW Xt88 hx hS (t := .boolean) hret hlocks (by simp) (hb hby at_105) (z' := (1 : Int32)) rfl (by decide) (by decide) et88 (⟨rfl, N90⟩)
set_option maxRecDepth 65536 in
set_option maxHeartbeats 40000000 in
theorem comes_1 {Post : Tables → Env → Array Value → State → Outcome → State → Prop} (hpost : ∀ tb e args s v u, (limb_1_1.after args s (.returned v) u = true ∧ limb_1_2.after args s (.returned v) u = true ∧ True) → ReturnedEndW s (.returned v) u (Jvm.fieldLocs frame_1_writes args s ++ Jvm.arrayLocs frame_1_arrays args s ++ Jvm.staticLocs frame_1_statics s) 24 2176 → Post tb e args s (.returned v) u) :
    ArmFor flags0 classFile x code maxLocals ret World_1 tables_1 room_1 Calls_1 rest_1 Pre_1 Post := by
  intro l hfl _ _ p e ha hc hk s m args below hf hA hF happ hP
  obtain ⟨hcalls, hrest, hpre⟩ := hP
  obtain ⟨-, -, -, hnamed, -, -, -, hat⟩ := (Spec.applies_iff hf).mp happ
  obtain ⟨hg, hn⟩ := and_e (Cond.before_iff.mp (show (Jvm.Cond.and given_1 narrow_1).before args s = true from hpre))
  obtain ⟨hc0, r0⟩ := and_e hg
  obtain ⟨c0, r1⟩ := and_e r0
  obtain ⟨c1, r2⟩ := and_e r1
  obtain ⟨c2, r3⟩ := and_e r2
  have c3 := r3
  obtain ⟨w0, w1, w2, w3, rfl⟩ : ∃ w0 w1 w2 w3 : Value, args = #[w0, w1, w2, w3] := by
    have hs : args.size = 4 := by simpa [Cond.value, given_1] using hc0
    obtain ⟨L⟩ := args
    match L, hs with
    | [w0, w1, w2, w3], _ => exact ⟨w0, w1, w2, w3, rfl⟩
  have hw := fun d (hd : d ∈ tables_1) => atoms_spec (ws := Jvm.Cond.code x code maxLocals ret :: tables_1) hat d (List.mem_cons_of_mem _ hd)
  obtain ⟨hsets, hown0⟩ := atoms_of _ (rest_1_c_eq ▸ (show rest_1_c.before _ s = true from hrest))
  have hfit : Fit s := fun {y c} hc i hi => by
    obtain ⟨ha, rfl⟩ := Array.getElem?_eq_some_iff.mp hc
    have q := List.all_eq_true.mp ((Array.all_eq_true_iff_forall_mem.mp hF) _ (Array.getElem_mem ha)) i (List.mem_range.mpr hi)
    simpa [Array.getElem?_eq_getElem hi] using q
  obtain ⟨x0, y0⟩ := is_v c0
  obtain rfl : w0 = (.int x0) := Option.some.inj y0
  obtain ⟨x1, y1⟩ := is_v c1
  obtain rfl : w1 = (.int x1) := Option.some.inj y1
  obtain ⟨x2, y2⟩ := is_v c2
  obtain rfl : w2 = (.int x2) := Option.some.inj y2
  obtain ⟨x3, y3⟩ := is_v c3
  obtain rfl : w3 = (.int x3) := Option.some.inj y3
  have n5 := not_v (Cond.before_iff.mp (hsets _ (List.mem_of_getElem? (i := 2) rfl)))
  obtain ⟨cs, e10⟩ := is_v (Cond.before_iff.mp (hsets _ (List.mem_of_getElem? (i := 1) rfl)))
  have S_cs : Sta s s.heap "java/lang/String" "COMPACT_STRINGS" "Z" (.int cs) := Sta.start e10 (Or.inl (hsets _ (List.mem_of_getElem? (i := 0) rfl)))
  have hcs : ¬ (cs = (0 : Int32)) := gotF (Cond.eq_ints e10 (Term.int_eval (0))) n5
  have hcw : Jvm.Lit.compactW.before _ s = true := hsets _ (List.mem_of_getElem? (i := 2) rfl)
  obtain ⟨fm, ef, rf⟩ := isR_v (Cond.before_iff.mp (hsets _ (List.mem_of_getElem? (i := 8) rfl)))
  have S_fm : Sta s s.heap "jdk/internal/util/Preconditions" "SIOOBE_FORMATTER" "Ljava/util/function/BiFunction;" fm := Sta.start ef (Or.inl (hsets _ (List.mem_of_getElem? (i := 7) rfl)))
  have S_ua : Sta s s.heap "java/lang/StringUTF16" "$assertionsDisabled" "Z" (.int (1 : Int32)) := Sta.start (eqI_v (Cond.before_iff.mp (hsets _ (List.mem_of_getElem? (i := 12) rfl)))) (Or.inl (hsets _ (List.mem_of_getElem? (i := 11) rfl)))
  have S_uh : Sta s s.heap "java/lang/StringUTF16" "HI_BYTE_SHIFT" "I" (.int (0 : Int32)) := Sta.start (eqI_v (Cond.before_iff.mp (hsets _ (List.mem_of_getElem? (i := 15) rfl)))) (Or.inl (hsets _ (List.mem_of_getElem? (i := 14) rfl)))
  have S_ul : Sta s s.heap "java/lang/StringUTF16" "LO_BYTE_SHIFT" "I" (.int (8 : Int32)) := Sta.start (eqI_v (Cond.before_iff.mp (hsets _ (List.mem_of_getElem? (i := 18) rfl)))) (Or.inl (hsets _ (List.mem_of_getElem? (i := 17) rfl)))
  have hh0 : Jvm.Lit.constHeld s "com/example/rolegate/rolegate/HttpSyntax" 27 := hcalls.1 _ (List.mem_of_getElem? (i := 0) rfl)
  have hh1 : Jvm.Lit.constHeld s "java/lang/String" 7 := hcalls.1 _ (List.mem_of_getElem? (i := 1) rfl)
  obtain ⟨n, o, h1, h2, h3, _, L, rfl, ⟨rfl, N⟩, hq⟩ := rm0 l s _ hw fm cs x0 x1 x2 x3 s.heap ⟨Nat.le_refl _, fun _ _ q => q⟩ S_cs hcs S_ua S_uh S_ul S_fm rf hh0 hcw hh1 p e ha hc hk s m _ below hf ((Spec.applies_iff_loose hf).mp happ).1 ⟨rfl, State.Warmed39.refl s, rfl, IB.start⟩ trivial
  refine ⟨n, _, h1, h2, h3, hpost _ _ _ _ _ _ ⟨Cond.after_iff.mpr rfl, Cond.after_iff.mpr (eq_i res_at (Term.int_eval (1)) rfl), trivial⟩ ⟨hq.1, hq.2.1, hq.2.2.1, (hq.2.2.2.sift fun y hy => Or.inr (N y hy)).mono (by decide) (by decide)⟩⟩
theorem main_1_1 : Claimed_1_1 := comes_1 fun _ _ _ _ _ _ h hF => ⟨h.1, hF⟩
theorem main_1_2 : Claimed_1_2 := comes_1 fun _ _ _ _ _ _ h hF => ⟨h.2.1, hF⟩
end Jvm.Pilot.@@N@@
namespace Jvm.Pilot.@@N@@
open Jvm Jvm.ClassFile Sem Op Lib Jvm.Free Jvm.Stand Jvm.Pilot.@@N@@.Jvm.D
/-! MADE BY PROGRAM (witnessworld.py) out of the Statement's table words and the real class files: 21 classes; the members and pool entries that the words name. The judged class is class 1, her method 4. -/
namespace start1
open Jvm.ClassFile
def u (s : String) : CpInfo := .utf8 (stringToUtf16 s)
/-- a pool by its gaps: so many unusable entries, then the entry; so many at the end -/
def gap : Nat → List CpInfo → List CpInfo
  | 0, r => r
  | n + 1, r => .unusable :: gap n r
def poolList (es : List (Nat × CpInfo)) (last : Nat) : List CpInfo := es.foldr (fun e r => gap e.1 (e.2 :: r)) (gap last [])
def pool (es : List (Nat × CpInfo)) (last : Nat) : Array CpInfo := ⟨poolList es last⟩
def fileOf (pool : Array CpInfo) (this : Nat) (attrs : Array Attribute := #[]) (ms : Array MethodInfo := #[]) (fl : Nat := 33) (sup : Nat := 0) (ifs : Array Nat := #[]) (fds : Array FieldInfo := #[]) : ClassFile where
  minorVersion := 0
  majorVersion := 65
  constantPool := pool
  accessFlags := fl
  thisClass := this
  superClass := sup
  interfaces := ifs
  fields := fds
  methods := ms
  attributes := attrs
def plain (name : String) (sup : Option ClassId) : Class where
  name := name
  kind := .ordinary
  loader := none
  accessFlags := 33
  super := sup
  interfaces := #[]
  cf := none
  fields := #[]
  methods := #[]
  instanceTypes := #[]
  staticTypes := #[]
  resolved := #[]
  callSites := []
  init := .initialized
  statics := none
  mirror := none

def pool0 : Array CpInfo := pool [(5, u "<init>"), (0, u "()V"), (1, .class_ 10), (1, u "java/lang/Object")] 113

def k0c0 : Code := { maxStack := 0, maxLocals := 1, code := object_method_1_code, exceptionTable := #[], attributes := #[] }
def k0m0 : Method := { name := "<init>", desc := "()V", sig := { parameters := [], returnType := none }, accessFlags := 1, code := some k0c0 }
/-- java/lang/Object -/
def k0 : Class := { plain "java/lang/Object" none with
  accessFlags := 33
  interfaces := #[]
  cf := some (fileOf pool0 8 #[] #[{ accessFlags := 1, nameIndex := 5, descriptorIndex := 6, attributes := #[] }] 33 0 #[] #[])
  fields := #[]
  methods := #[k0m0]
  instanceTypes := #[]
  staticTypes := #[]
  resolved := Array.replicate 124 none
  statics := none }

def pool1 : Array CpInfo := pool [(2, .class_ 4), (1, u "java/lang/Object"), (0, u "<init>"), (0, u "()V"), (0, .integer 65536), (0, .integer 65535), (0, .class_ 10), (0, u "java/lang/String"), (0, .methodref 9 12), (0, .nameAndType 5 13), (0, u "([C)V"), (0, .methodref 15 16), (0, .class_ 17), (0, .nameAndType 18 19), (0, u "com/example/rolegate/rolegate/HttpSyntaxIsTokenPinLaw"), (0, u "draw"), (0, u "(I)C"), (0, .methodref 15 21), (0, .nameAndType 22 23), (0, u "build"), (0, u "(ICCC)Ljava/lang/String;"), (0, .methodref 15 25), (0, .nameAndType 26 27), (0, u "tchar"), (0, u "(C)Z"), (0, .methodref 29 30), (0, .class_ 31), (0, .nameAndType 32 33), (0, u "com/example/rolegate/rolegate/HttpSyntax"), (0, u "isToken"), (0, u "(Ljava/lang/String;)Z"), (3, u "law"), (0, u "(IIII)Z")] 2

def k1m0 : Method := { name := "<init>", desc := "()V", sig := { parameters := [], returnType := none }, accessFlags := 2, code := none }
def k1c1 : Code := { maxStack := 2, maxLocals := 1, code := method_2_code, exceptionTable := #[], attributes := #[] }
def k1m1 : Method := { name := "draw", desc := "(I)C", sig := { parameters := [.int], returnType := some .char }, accessFlags := 10, code := some k1c1 }
def k1c2 : Code := { maxStack := 2, maxLocals := 1, code := method_3_code, exceptionTable := #[], attributes := #[] }
def k1m2 : Method := { name := "tchar", desc := "(C)Z", sig := { parameters := [.char], returnType := some .boolean }, accessFlags := 10, code := some k1c2 }
def k1c3 : Code := { maxStack := 6, maxLocals := 4, code := method_4_code, exceptionTable := #[], attributes := #[] }
def k1m3 : Method := { name := "build", desc := "(ICCC)Ljava/lang/String;", sig := { parameters := [.int, .char, .char, .char], returnType := some (.object "java/lang/String") }, accessFlags := 10, code := some k1c3 }
def k1c4 : Code := { maxStack := 4, maxLocals := 10, code := code, exceptionTable := #[], attributes := #[] }
def k1m4 : Method := { name := "law", desc := "(IIII)Z", sig := { parameters := [.int, .int, .int, .int], returnType := some .boolean }, accessFlags := 9, code := some k1c4 }
/-- com/example/rolegate/rolegate/HttpSyntaxIsTokenPinLaw -/
def k1 : Class := { plain "com/example/rolegate/rolegate/HttpSyntaxIsTokenPinLaw" (some 0) with
  accessFlags := 49
  interfaces := #[]
  cf := some (fileOf pool1 15 #[] #[{ accessFlags := 2, nameIndex := 5, descriptorIndex := 6, attributes := #[] }, { accessFlags := 10, nameIndex := 18, descriptorIndex := 19, attributes := #[] }, { accessFlags := 10, nameIndex := 26, descriptorIndex := 27, attributes := #[] }, { accessFlags := 10, nameIndex := 22, descriptorIndex := 23, attributes := #[] }, { accessFlags := 9, nameIndex := 37, descriptorIndex := 38, attributes := #[] }] 49 2 #[] #[])
  fields := #[]
  methods := #[k1m0, k1m1, k1m2, k1m3, k1m4]
  instanceTypes := #[]
  staticTypes := #[]
  resolved := Array.replicate 41 none
  statics := none }

def pool2 : Array CpInfo := pool [(1, .class_ 2), (0, u "java/io/Serializable"), (0, .class_ 4), (0, u "java/lang/Object")] 2

/-- java/io/Serializable -/
def k2 : Class := { plain "java/io/Serializable" (some 0) with
  accessFlags := 1537
  interfaces := #[]
  cf := some (fileOf pool2 1 #[] #[] 1537 3 #[] #[])
  fields := #[]
  methods := #[]
  instanceTypes := #[]
  staticTypes := #[]
  resolved := Array.replicate 7 none
  statics := none }

def pool3 : Array CpInfo := pool [(1, .class_ 2), (0, u "java/lang/Comparable"), (0, .class_ 4), (0, u "java/lang/Object")] 7

/-- java/lang/Comparable -/
def k3 : Class := { plain "java/lang/Comparable" (some 0) with
  accessFlags := 1537
  interfaces := #[]
  cf := some (fileOf pool3 1 #[] #[] 1537 3 #[] #[])
  fields := #[]
  methods := #[]
  instanceTypes := #[]
  staticTypes := #[]
  resolved := Array.replicate 12 none
  statics := none }

def pool4 : Array CpInfo := pool [(2, .class_ 4), (1, u "java/lang/CharSequence"), (42, .class_ 48), (0, u "java/lang/CharSequence$1CodePointIterator"), (10, .class_ 60), (0, u "java/lang/CharSequence$1CharIterator"), (5, .class_ 67), (0, u "java/lang/Object")] 63

/-- java/lang/CharSequence -/
def k4 : Class := { plain "java/lang/CharSequence" (some 0) with
  accessFlags := 1537
  interfaces := #[]
  cf := some (fileOf pool4 2 #[.nestMembers #[47, 59]] #[] 1537 66 #[] #[])
  fields := #[]
  methods := #[]
  instanceTypes := #[]
  staticTypes := #[]
  resolved := Array.replicate 131 none
  statics := none }

def pool5 : Array CpInfo := pool [(1, .class_ 2), (0, u "java/lang/constant/Constable"), (0, .class_ 4), (0, u "java/lang/Object")] 6

/-- java/lang/constant/Constable -/
def k5 : Class := { plain "java/lang/constant/Constable" (some 0) with
  accessFlags := 1537
  interfaces := #[]
  cf := some (fileOf pool5 1 #[] #[] 1537 3 #[] #[])
  fields := #[]
  methods := #[]
  instanceTypes := #[]
  staticTypes := #[]
  resolved := Array.replicate 11 none
  statics := none }

def pool6 : Array CpInfo := pool [(1, .class_ 2), (0, u "java/lang/constant/ConstantDesc"), (0, .class_ 4), (0, u "java/lang/Object")] 32

/-- java/lang/constant/ConstantDesc -/
def k6 : Class := { plain "java/lang/constant/ConstantDesc" (some 0) with
  accessFlags := 1537
  interfaces := #[]
  cf := some (fileOf pool6 1 #[] #[] 1537 3 #[] #[])
  fields := #[]
  methods := #[]
  instanceTypes := #[]
  staticTypes := #[]
  resolved := Array.replicate 37 none
  statics := none }

def pool7 : Array CpInfo := pool [(1, .methodref 2 3), (0, .class_ 4), (0, .nameAndType 5 6), (0, u "java/lang/Object"), (0, u "<init>"), (0, u "()V"), (0, .string 8), (0, u ""), (0, .fieldref 10 11), (0, .class_ 12), (0, .nameAndType 13 14), (0, u "java/lang/String"), (0, u "value"), (0, u "[B"), (0, .fieldref 10 16), (0, .nameAndType 17 18), (0, u "coder"), (0, u "B"), (2, u "hash"), (0, u "I"), (2, u "hashIsZero"), (0, u "Z"), (0, .methodref 10 28), (0, .nameAndType 5 29), (0, u "([CIILjava/lang/Void;)V"), (8, .fieldref 10 39), (0, .nameAndType 40 26), (0, u "COMPACT_STRINGS"), (1, .class_ 44), (1, u "java/lang/StringUTF16"), (0, u "compress"), (1, .methodref 42 48), (0, .nameAndType 49 50), (0, u "coderFromArrayLen"), (0, u "([BI)B"), (56, .class_ 109), (1, u "java/lang/StringLatin1"), (32, u "()Z"), (34, .methodref 42 178), (0, .nameAndType 45 179), (0, u "([CII)[B"), (154, u "()I"), (0, .methodref 10 336), (0, .nameAndType 17 337), (0, u "()B"), (25, u "([BI)C"), (27, u "(II)V"), (35, u "(I)C"), (64, .methodref 10 493), (0, .nameAndType 494 142), (0, u "isLatin1"), (0, .methodref 107 496), (0, .nameAndType 497 363), (0, u "charAt"), (0, .methodref 42 496), (2, u "checkIndex"), (3, .methodref 10 506), (0, .nameAndType 507 334), (0, u "length"), (67, .class_ 576), (0, u "java/lang/CharSequence"), (22, u "CASE_INSENSITIVE_ORDER"), (0, u "Ljava/util/Comparator;"), (32, .methodref 10 634), (0, .nameAndType 635 636), (0, u "indexOf"), (0, u "(II)I"), (0, .methodref 107 638), (0, .nameAndType 635 639), (0, u "([BIII)I"), (52, u "isEmpty"), (72, u "(I)I"), (244, u "([C)V"), (42, .fieldref 1054 1055), (0, .class_ 1056), (0, .nameAndType 1057 1058), (0, u "jdk/internal/util/Preconditions"), (0, u "SIOOBE_FORMATTER"), (0, u "Ljava/util/function/BiFunction;"), (0, .methodref 1054 1060), (0, .nameAndType 501 1061), (0, u "(IILjava/util/function/BiFunction;)I"), (39, u "serialPersistentFields"), (0, u "[Ljava/io/ObjectStreamField;"), (0, .class_ 1104), (0, u "java/lang/String$CaseInsensitiveComparator"), (1, .class_ 1107), (0, u "java/io/Serializable"), (0, .class_ 1109), (0, u "java/lang/Comparable"), (0, .class_ 1111), (0, u "java/lang/constant/Constable"), (0, .class_ 1113), (0, u "java/lang/constant/ConstantDesc"), (2, u "serialVersionUID"), (0, u "J"), (3, u "REPL"), (0, u "C"), (2, u "LATIN1"), (1, u "UTF16")] 323

def k7m0 : Method := { name := "<init>", desc := "()V", sig := { parameters := [], returnType := none }, accessFlags := 1, code := none }
def k7c1 : Code := { maxStack := 5, maxLocals := 2, code := jdk_42_method_3_code, exceptionTable := #[], attributes := #[] }
def k7m1 : Method := { name := "<init>", desc := "([C)V", sig := { parameters := [(.array .char)], returnType := none }, accessFlags := 1, code := some k7c1 }
def k7c2 : Code := { maxStack := 2, maxLocals := 1, code := jdk_42_method_54_code, exceptionTable := #[], attributes := #[] }
def k7m2 : Method := { name := "length", desc := "()I", sig := { parameters := [], returnType := some .int }, accessFlags := 1, code := some k7c2 }
def k7c3 : Code := { maxStack := 1, maxLocals := 1, code := jdk_42_method_55_code, exceptionTable := #[], attributes := #[] }
def k7m3 : Method := { name := "isEmpty", desc := "()Z", sig := { parameters := [], returnType := some .boolean }, accessFlags := 1, code := some k7c3 }
def k7c4 : Code := { maxStack := 2, maxLocals := 2, code := jdk_42_method_56_code, exceptionTable := #[], attributes := #[] }
def k7m4 : Method := { name := "charAt", desc := "(I)C", sig := { parameters := [.int], returnType := some .char }, accessFlags := 1, code := some k7c4 }
def k7c5 : Code := { maxStack := 3, maxLocals := 2, code := jdk_42_method_79_code, exceptionTable := #[], attributes := #[] }
def k7m5 : Method := { name := "indexOf", desc := "(I)I", sig := { parameters := [.int], returnType := some .int }, accessFlags := 1, code := some k7c5 }
def k7c6 : Code := { maxStack := 4, maxLocals := 3, code := jdk_42_method_80_code, exceptionTable := #[], attributes := #[] }
def k7m6 : Method := { name := "indexOf", desc := "(II)I", sig := { parameters := [.int, .int], returnType := some .int }, accessFlags := 1, code := some k7c6 }
def k7c7 : Code := { maxStack := 4, maxLocals := 6, code := jdk_42_method_149_code, exceptionTable := #[], attributes := #[] }
def k7m7 : Method := { name := "<init>", desc := "([CIILjava/lang/Void;)V", sig := { parameters := [(.array .char), .int, .int, (.object "java/lang/Void")], returnType := none }, accessFlags := 2, code := some k7c7 }
def k7c8 : Code := { maxStack := 1, maxLocals := 1, code := jdk_42_method_152_code, exceptionTable := #[], attributes := #[] }
def k7m8 : Method := { name := "coder", desc := "()B", sig := { parameters := [], returnType := some .byte }, accessFlags := 0, code := some k7c8 }
def k7c9 : Code := { maxStack := 1, maxLocals := 1, code := jdk_42_method_154_code, exceptionTable := #[], attributes := #[] }
def k7m9 : Method := { name := "isLatin1", desc := "()Z", sig := { parameters := [], returnType := some .boolean }, accessFlags := 0, code := some k7c9 }
def k7c10 : Code := { maxStack := 3, maxLocals := 2, code := jdk_42_method_155_code, exceptionTable := #[], attributes := #[] }
def k7m10 : Method := { name := "checkIndex", desc := "(II)V", sig := { parameters := [.int, .int], returnType := none }, accessFlags := 8, code := some k7c10 }
/-- java/lang/String -/
def k7 : Class := { plain "java/lang/String" (some 0) with
  accessFlags := 49
  interfaces := #[2, 3, 4, 5, 6]
  cf := some (fileOf pool7 10 #[.nestMembers #[1103]] #[{ accessFlags := 1, nameIndex := 5, descriptorIndex := 6, attributes := #[] }, { accessFlags := 1, nameIndex := 5, descriptorIndex := 1010, attributes := #[] }, { accessFlags := 1, nameIndex := 507, descriptorIndex := 334, attributes := #[] }, { accessFlags := 1, nameIndex := 692, descriptorIndex := 142, attributes := #[] }, { accessFlags := 1, nameIndex := 497, descriptorIndex := 427, attributes := #[] }, { accessFlags := 1, nameIndex := 635, descriptorIndex := 765, attributes := #[] }, { accessFlags := 1, nameIndex := 635, descriptorIndex := 636, attributes := #[] }, { accessFlags := 2, nameIndex := 5, descriptorIndex := 29, attributes := #[] }, { accessFlags := 0, nameIndex := 17, descriptorIndex := 337, attributes := #[] }, { accessFlags := 0, nameIndex := 494, descriptorIndex := 142, attributes := #[] }, { accessFlags := 8, nameIndex := 501, descriptorIndex := 391, attributes := #[] }] 49 2 #[1106, 1108, 575, 1110, 1112] #[{ accessFlags := 18, nameIndex := 13, descriptorIndex := 14, attributes := #[] }, { accessFlags := 18, nameIndex := 17, descriptorIndex := 18, attributes := #[] }, { accessFlags := 2, nameIndex := 21, descriptorIndex := 22, attributes := #[] }, { accessFlags := 2, nameIndex := 25, descriptorIndex := 26, attributes := #[] }, { accessFlags := 26, nameIndex := 1116, descriptorIndex := 1117, attributes := #[] }, { accessFlags := 24, nameIndex := 40, descriptorIndex := 26, attributes := #[] }, { accessFlags := 26, nameIndex := 1101, descriptorIndex := 1102, attributes := #[] }, { accessFlags := 26, nameIndex := 1121, descriptorIndex := 1122, attributes := #[] }, { accessFlags := 25, nameIndex := 599, descriptorIndex := 600, attributes := #[] }, { accessFlags := 24, nameIndex := 1125, descriptorIndex := 18, attributes := #[] }, { accessFlags := 24, nameIndex := 1127, descriptorIndex := 18, attributes := #[] }])
  fields := #[{ name := "value", type := (.array .byte), accessFlags := 18, slot := 0, constantValue := 0 }, { name := "coder", type := .byte, accessFlags := 18, slot := 1, constantValue := 0 }, { name := "hash", type := .int, accessFlags := 2, slot := 2, constantValue := 0 }, { name := "hashIsZero", type := .boolean, accessFlags := 2, slot := 3, constantValue := 0 }, { name := "serialVersionUID", type := .long, accessFlags := 26, slot := 0, constantValue := 0 }, { name := "COMPACT_STRINGS", type := .boolean, accessFlags := 24, slot := 1, constantValue := 0 }, { name := "serialPersistentFields", type := (.array (.object "java/io/ObjectStreamField")), accessFlags := 26, slot := 2, constantValue := 0 }, { name := "REPL", type := .char, accessFlags := 26, slot := 3, constantValue := 0 }, { name := "CASE_INSENSITIVE_ORDER", type := (.object "java/util/Comparator"), accessFlags := 25, slot := 4, constantValue := 0 }, { name := "LATIN1", type := .byte, accessFlags := 24, slot := 5, constantValue := 0 }, { name := "UTF16", type := .byte, accessFlags := 24, slot := 6, constantValue := 0 }]
  methods := #[k7m0, k7m1, k7m2, k7m3, k7m4, k7m5, k7m6, k7m7, k7m8, k7m9, k7m10]
  instanceTypes := #[(.array .byte), .byte, .int, .boolean]
  staticTypes := #[.long, .boolean, (.array (.object "java/io/ObjectStreamField")), .char, (.object "java/util/Comparator"), .byte, .byte]
  resolved := Array.replicate 1451 none
  statics := some 0 }

def pool8 : Array CpInfo := pool [(2, .class_ 4), (1, u "java/lang/Object"), (0, u "<init>"), (0, u "()V"), (0, .methodref 8 9), (0, .class_ 10), (0, .nameAndType 11 12), (0, u "java/lang/String"), (0, u "isEmpty"), (0, u "()Z"), (0, .methodref 8 14), (0, .nameAndType 15 16), (0, u "length"), (0, u "()I"), (0, .methodref 8 18), (0, .nameAndType 19 20), (0, u "charAt"), (0, u "(I)C"), (0, .methodref 22 23), (0, .class_ 24), (0, .nameAndType 25 26), (0, u "com/example/rolegate/rolegate/HttpSyntax"), (0, u "isTokenCharacter"), (0, u "(C)Z"), (0, .string 28), (0, u "!#$%&'*+-.^_`|~"), (0, .methodref 8 30), (0, .nameAndType 31 32), (0, u "indexOf"), (0, u "(I)I"), (0, u "TOKEN_SYMBOLS"), (0, u "Ljava/lang/String;"), (3, u "isToken"), (0, u "(Ljava/lang/String;)Z")] 3

def k8m0 : Method := { name := "<init>", desc := "()V", sig := { parameters := [], returnType := none }, accessFlags := 2, code := none }
def k8c1 : Code := { maxStack := 2, maxLocals := 2, code := prog_2_method_2_code, exceptionTable := #[], attributes := #[] }
def k8m1 : Method := { name := "isToken", desc := "(Ljava/lang/String;)Z", sig := { parameters := [(.object "java/lang/String")], returnType := some .boolean }, accessFlags := 9, code := some k8c1 }
def k8c2 : Code := { maxStack := 2, maxLocals := 2, code := prog_2_method_3_code, exceptionTable := #[], attributes := #[] }
def k8m2 : Method := { name := "isTokenCharacter", desc := "(C)Z", sig := { parameters := [.char], returnType := some .boolean }, accessFlags := 9, code := some k8c2 }
/-- com/example/rolegate/rolegate/HttpSyntax -/
def k8 : Class := { plain "com/example/rolegate/rolegate/HttpSyntax" (some 0) with
  accessFlags := 49
  interfaces := #[]
  cf := some (fileOf pool8 22 #[] #[{ accessFlags := 2, nameIndex := 5, descriptorIndex := 6, attributes := #[] }, { accessFlags := 9, nameIndex := 38, descriptorIndex := 39, attributes := #[] }, { accessFlags := 9, nameIndex := 25, descriptorIndex := 26, attributes := #[] }] 49 2 #[] #[{ accessFlags := 26, nameIndex := 33, descriptorIndex := 34, attributes := #[] }])
  fields := #[{ name := "TOKEN_SYMBOLS", type := (.object "java/lang/String"), accessFlags := 26, slot := 0, constantValue := 0 }]
  methods := #[k8m0, k8m1, k8m2]
  instanceTypes := #[]
  staticTypes := #[(.object "java/lang/String")]
  resolved := Array.replicate 43 none
  statics := none }

def pool9 : Array CpInfo := pool [(3, .class_ 4), (0, u "java/lang/String"), (1, .class_ 8), (1, u "java/lang/Object"), (0, u "<init>"), (0, u "()V"), (0, .methodref 12 13), (0, .class_ 14), (0, .nameAndType 15 16), (0, u "java/lang/StringUTF16"), (0, u "newBytesLength"), (0, u "(I)I"), (3, .integer 1073741823), (23, .fieldref 12 45), (0, .nameAndType 46 47), (0, u "$assertionsDisabled"), (0, u "Z"), (0, .methodref 12 49), (0, .nameAndType 50 51), (0, u "length"), (0, u "([B)I"), (7, .fieldref 12 60), (0, .nameAndType 61 62), (0, u "HI_BYTE_SHIFT"), (0, u "I"), (0, .fieldref 12 64), (0, .nameAndType 65 62), (0, u "LO_BYTE_SHIFT"), (1, .methodref 12 68), (0, .nameAndType 69 70), (0, u "checkIndex"), (0, u "(I[B)V"), (0, .methodref 12 72), (0, .nameAndType 73 74), (0, u "getChar"), (0, u "([BI)C"), (32, .methodref 12 108), (0, .nameAndType 109 110), (0, u "newBytesFor"), (0, u "(I)[B"), (0, .methodref 12 112), (0, .nameAndType 113 114), (0, u "putChar"), (0, u "([BII)V"), (0, .methodref 12 116), (0, .nameAndType 117 118), (0, u "compress"), (0, u "([CI[BII)I"), (0, .methodref 12 120), (0, .nameAndType 121 122), (0, u "toBytes"), (0, u "([CII)[B"), (138, u "coderFromArrayLen"), (0, u "([BI)B"), (106, .class_ 371), (1, u "java/lang/StringUTF16$LinesSpliterator"), (20, u "charAt"), (21, .methodref 3 415), (0, .nameAndType 69 416), (0, u "(II)V"), (13, u "MAX_LENGTH"), (196, .class_ 628), (0, u "java/lang/StringUTF16$CodePointsSpliterator"), (0, .class_ 630), (0, u "java/lang/StringUTF16$CharsSpliterator")] 4

def k9m0 : Method := { name := "<init>", desc := "()V", sig := { parameters := [], returnType := none }, accessFlags := 0, code := none }
def k9c1 : Code := { maxStack := 1, maxLocals := 1, code := jdk_52_method_2_code, exceptionTable := #[], attributes := #[] }
def k9m1 : Method := { name := "newBytesFor", desc := "(I)[B", sig := { parameters := [.int], returnType := some (.array .byte) }, accessFlags := 9, code := some k9c1 }
def k9c2 : Code := { maxStack := 4, maxLocals := 1, code := jdk_52_method_3_code, exceptionTable := #[], attributes := #[] }
def k9m2 : Method := { name := "newBytesLength", desc := "(I)I", sig := { parameters := [.int], returnType := some .int }, accessFlags := 9, code := some k9c2 }
def k9c3 : Code := { maxStack := 4, maxLocals := 3, code := jdk_52_method_4_code, exceptionTable := #[], attributes := #[] }
def k9m3 : Method := { name := "putChar", desc := "([BII)V", sig := { parameters := [(.array .byte), .int, .int], returnType := none }, accessFlags := 8, code := some k9c3 }
def k9c4 : Code := { maxStack := 3, maxLocals := 2, code := jdk_52_method_5_code, exceptionTable := #[], attributes := #[] }
def k9m4 : Method := { name := "getChar", desc := "([BI)C", sig := { parameters := [(.array .byte), .int], returnType := some .char }, accessFlags := 8, code := some k9c4 }
def k9c5 : Code := { maxStack := 2, maxLocals := 1, code := jdk_52_method_6_code, exceptionTable := #[], attributes := #[] }
def k9m5 : Method := { name := "length", desc := "([B)I", sig := { parameters := [(.array .byte)], returnType := some .int }, accessFlags := 9, code := some k9c5 }
def k9c6 : Code := { maxStack := 4, maxLocals := 5, code := jdk_52_method_14_code, exceptionTable := #[], attributes := #[] }
def k9m6 : Method := { name := "toBytes", desc := "([CII)[B", sig := { parameters := [(.array .char), .int, .int], returnType := some (.array .byte) }, accessFlags := 9, code := some k9c6 }
def k9c7 : Code := { maxStack := 2, maxLocals := 2, code := jdk_52_method_15_code, exceptionTable := #[], attributes := #[] }
def k9m7 : Method := { name := "coderFromArrayLen", desc := "([BI)B", sig := { parameters := [(.array .byte), .int], returnType := some .byte }, accessFlags := 8, code := some k9c7 }
def k9c8 : Code := { maxStack := 5, maxLocals := 6, code := jdk_52_method_16_code, exceptionTable := #[], attributes := #[] }
def k9m8 : Method := { name := "compress", desc := "([CII)[B", sig := { parameters := [(.array .char), .int, .int], returnType := some (.array .byte) }, accessFlags := 9, code := some k9c8 }
def k9c9 : Code := { maxStack := 3, maxLocals := 7, code := jdk_52_method_21_code, exceptionTable := #[], attributes := #[] }
def k9m9 : Method := { name := "compress", desc := "([CI[BII)I", sig := { parameters := [(.array .char), .int, (.array .byte), .int, .int], returnType := some .int }, accessFlags := 9, code := some k9c9 }
def k9c10 : Code := { maxStack := 2, maxLocals := 2, code := jdk_52_method_83_code, exceptionTable := #[], attributes := #[] }
def k9m10 : Method := { name := "charAt", desc := "([BI)C", sig := { parameters := [(.array .byte), .int], returnType := some .char }, accessFlags := 9, code := some k9c10 }
def k9c11 : Code := { maxStack := 2, maxLocals := 2, code := jdk_52_method_91_code, exceptionTable := #[], attributes := #[] }
def k9m11 : Method := { name := "checkIndex", desc := "(I[B)V", sig := { parameters := [.int, (.array .byte)], returnType := none }, accessFlags := 9, code := some k9c11 }
/-- java/lang/StringUTF16 -/
def k9 : Class := { plain "java/lang/StringUTF16" (some 0) with
  accessFlags := 48
  interfaces := #[]
  cf := some (fileOf pool9 12 #[.nestMembers #[627, 629, 369]] #[{ accessFlags := 0, nameIndex := 9, descriptorIndex := 10, attributes := #[] }, { accessFlags := 9, nameIndex := 109, descriptorIndex := 110, attributes := #[] }, { accessFlags := 9, nameIndex := 15, descriptorIndex := 16, attributes := #[] }, { accessFlags := 8, nameIndex := 113, descriptorIndex := 114, attributes := #[] }, { accessFlags := 8, nameIndex := 73, descriptorIndex := 74, attributes := #[] }, { accessFlags := 9, nameIndex := 50, descriptorIndex := 51, attributes := #[] }, { accessFlags := 9, nameIndex := 121, descriptorIndex := 122, attributes := #[] }, { accessFlags := 8, nameIndex := 261, descriptorIndex := 262, attributes := #[] }, { accessFlags := 9, nameIndex := 117, descriptorIndex := 122, attributes := #[] }, { accessFlags := 9, nameIndex := 117, descriptorIndex := 118, attributes := #[] }, { accessFlags := 9, nameIndex := 392, descriptorIndex := 74, attributes := #[] }, { accessFlags := 9, nameIndex := 69, descriptorIndex := 70, attributes := #[] }] 48 6 #[] #[{ accessFlags := 26, nameIndex := 61, descriptorIndex := 62, attributes := #[] }, { accessFlags := 26, nameIndex := 65, descriptorIndex := 62, attributes := #[] }, { accessFlags := 24, nameIndex := 430, descriptorIndex := 62, attributes := #[] }, { accessFlags := 4120, nameIndex := 46, descriptorIndex := 47, attributes := #[] }])
  fields := #[{ name := "HI_BYTE_SHIFT", type := .int, accessFlags := 26, slot := 0, constantValue := 0 }, { name := "LO_BYTE_SHIFT", type := .int, accessFlags := 26, slot := 1, constantValue := 0 }, { name := "MAX_LENGTH", type := .int, accessFlags := 24, slot := 2, constantValue := 0 }, { name := "$assertionsDisabled", type := .boolean, accessFlags := 4120, slot := 3, constantValue := 0 }]
  methods := #[k9m0, k9m1, k9m2, k9m3, k9m4, k9m5, k9m6, k9m7, k9m8, k9m9, k9m10, k9m11]
  instanceTypes := #[]
  staticTypes := #[.int, .int, .int, .boolean]
  resolved := Array.replicate 635 none
  statics := some 1 }

def pool10 : Array CpInfo := pool [(1, .class_ 2), (0, u "java/lang/String"), (1, .class_ 6), (1, u "java/lang/Object"), (0, u "<init>"), (0, u "()V"), (0, .methodref 1 10), (0, .nameAndType 11 12), (0, u "checkIndex"), (0, u "(II)V"), (1, .class_ 16), (1, u "java/lang/StringLatin1"), (21, .methodref 39 40), (0, .class_ 41), (0, .nameAndType 42 43), (0, u "java/lang/Math"), (0, u "min"), (0, u "(II)I"), (9, u "([BI)C"), (34, .methodref 14 89), (0, .nameAndType 90 91), (0, u "canEncode"), (0, u "(I)Z"), (0, .methodref 39 93), (0, .nameAndType 94 43), (0, u "max"), (0, .methodref 14 96), (0, .nameAndType 97 98), (0, u "indexOfChar"), (0, u "([BIII)I"), (2, u "indexOf"), (19, u "$assertionsDisabled"), (0, u "Z"), (98, .class_ 223), (1, u "java/lang/StringLatin1$LinesSpliterator"), (28, u "charAt"), (137, .class_ 391), (0, u "java/lang/StringLatin1$CharsSpliterator")] 3

def k10m0 : Method := { name := "<init>", desc := "()V", sig := { parameters := [], returnType := none }, accessFlags := 0, code := none }
def k10c1 : Code := { maxStack := 2, maxLocals := 2, code := jdk_43_method_2_code, exceptionTable := #[], attributes := #[] }
def k10m1 : Method := { name := "charAt", desc := "([BI)C", sig := { parameters := [(.array .byte), .int], returnType := some .char }, accessFlags := 9, code := some k10c1 }
def k10c2 : Code := { maxStack := 2, maxLocals := 1, code := jdk_43_method_4_code, exceptionTable := #[], attributes := #[] }
def k10m2 : Method := { name := "canEncode", desc := "(I)Z", sig := { parameters := [.int], returnType := some .boolean }, accessFlags := 9, code := some k10c2 }
def k10c3 : Code := { maxStack := 4, maxLocals := 4, code := jdk_43_method_22_code, exceptionTable := #[], attributes := #[] }
def k10m3 : Method := { name := "indexOf", desc := "([BIII)I", sig := { parameters := [(.array .byte), .int, .int, .int], returnType := some .int }, accessFlags := 9, code := some k10c3 }
def k10c4 : Code := { maxStack := 2, maxLocals := 6, code := jdk_43_method_23_code, exceptionTable := #[], attributes := #[] }
def k10m4 : Method := { name := "indexOfChar", desc := "([BIII)I", sig := { parameters := [(.array .byte), .int, .int, .int], returnType := some .int }, accessFlags := 10, code := some k10c4 }
/-- java/lang/StringLatin1 -/
def k10 : Class := { plain "java/lang/StringLatin1" (some 0) with
  accessFlags := 48
  interfaces := #[]
  cf := some (fileOf pool10 14 #[.nestMembers #[390, 221]] #[{ accessFlags := 0, nameIndex := 7, descriptorIndex := 8, attributes := #[] }, { accessFlags := 9, nameIndex := 252, descriptorIndex := 53, attributes := #[] }, { accessFlags := 9, nameIndex := 90, descriptorIndex := 91, attributes := #[] }, { accessFlags := 9, nameIndex := 101, descriptorIndex := 98, attributes := #[] }, { accessFlags := 10, nameIndex := 97, descriptorIndex := 98, attributes := #[] }] 48 4 #[] #[{ accessFlags := 4120, nameIndex := 121, descriptorIndex := 122, attributes := #[] }])
  fields := #[{ name := "$assertionsDisabled", type := .boolean, accessFlags := 4120, slot := 0, constantValue := 0 }]
  methods := #[k10m0, k10m1, k10m2, k10m3, k10m4]
  instanceTypes := #[]
  staticTypes := #[.boolean]
  resolved := Array.replicate 395 none
  statics := none }

def pool11 : Array CpInfo := pool [(2, .class_ 4), (1, u "java/lang/Object"), (0, u "<init>"), (0, u "()V"), (17, .class_ 26), (1, u "jdk/internal/util/Preconditions"), (6, u "checkIndex"), (21, .class_ 56), (0, u "jdk/internal/util/Preconditions$4"), (57, .class_ 115), (0, u "jdk/internal/util/Preconditions$1"), (7, u "SIOOBE_FORMATTER"), (0, u "Ljava/util/function/BiFunction;"), (0, .class_ 126), (0, u "jdk/internal/util/Preconditions$2"), (3, u "AIOOBE_FORMATTER"), (0, .class_ 132), (0, u "jdk/internal/util/Preconditions$3"), (3, u "IOOBE_FORMATTER"), (41, u "(IILjava/util/function/BiFunction;)I")] 15

def k11m0 : Method := { name := "<init>", desc := "()V", sig := { parameters := [], returnType := none }, accessFlags := 1, code := none }
def k11c1 : Code := { maxStack := 3, maxLocals := 3, code := jdk_41_method_11_code, exceptionTable := #[], attributes := #[] }
def k11m1 : Method := { name := "checkIndex", desc := "(IILjava/util/function/BiFunction;)I", sig := { parameters := [.int, .int, (.object "java/util/function/BiFunction")], returnType := some .int }, accessFlags := 9, code := some k11c1 }
/-- jdk/internal/util/Preconditions -/
def k11 : Class := { plain "jdk/internal/util/Preconditions" (some 0) with
  accessFlags := 33
  interfaces := #[]
  cf := some (fileOf pool11 24 #[.nestMembers #[55, 131, 125, 114]] #[{ accessFlags := 1, nameIndex := 5, descriptorIndex := 6, attributes := #[] }, { accessFlags := 9, nameIndex := 33, descriptorIndex := 178, attributes := #[] }] 33 2 #[] #[{ accessFlags := 25, nameIndex := 123, descriptorIndex := 124, attributes := #[] }, { accessFlags := 25, nameIndex := 130, descriptorIndex := 124, attributes := #[] }, { accessFlags := 25, nameIndex := 136, descriptorIndex := 124, attributes := #[] }])
  fields := #[{ name := "SIOOBE_FORMATTER", type := (.object "java/util/function/BiFunction"), accessFlags := 25, slot := 0, constantValue := 0 }, { name := "AIOOBE_FORMATTER", type := (.object "java/util/function/BiFunction"), accessFlags := 25, slot := 1, constantValue := 0 }, { name := "IOOBE_FORMATTER", type := (.object "java/util/function/BiFunction"), accessFlags := 25, slot := 2, constantValue := 0 }]
  methods := #[k11m0, k11m1]
  instanceTypes := #[]
  staticTypes := #[(.object "java/util/function/BiFunction"), (.object "java/util/function/BiFunction"), (.object "java/util/function/BiFunction")]
  resolved := Array.replicate 194 none
  statics := some 2 }

def pool12 : Array CpInfo := pool [(1, .class_ 2), (0, u "java/lang/Math"), (1, .class_ 6), (1, u "java/lang/Object"), (0, u "<init>"), (0, u "()V"), (89, .class_ 100), (1, u "java/lang/Math$RandomNumberGeneratorHolder"), (71, u "negativeZeroFloatBits"), (0, u "J"), (2, u "negativeZeroDoubleBits"), (21, u "max"), (2, u "min"), (43, u "$assertionsDisabled"), (0, u "Z"), (88, u "(II)I"), (2, u "twoToTheDoubleScaleDown"), (0, u "D"), (4, u "twoToTheDoubleScaleUp"), (9, u "E"), (3, u "PI"), (2, u "TAU"), (2, u "DEGREES_TO_RADIANS"), (0, u "RADIANS_TO_DEGREES")] 94

def k12m0 : Method := { name := "<init>", desc := "()V", sig := { parameters := [], returnType := none }, accessFlags := 2, code := none }
def k12c1 : Code := { maxStack := 2, maxLocals := 2, code := jdk_29_method_65_code, exceptionTable := #[], attributes := #[] }
def k12m1 : Method := { name := "max", desc := "(II)I", sig := { parameters := [.int, .int], returnType := some .int }, accessFlags := 9, code := some k12c1 }
def k12c2 : Code := { maxStack := 2, maxLocals := 2, code := jdk_29_method_69_code, exceptionTable := #[], attributes := #[] }
def k12m2 : Method := { name := "min", desc := "(II)I", sig := { parameters := [.int, .int], returnType := some .int }, accessFlags := 9, code := some k12c2 }
/-- java/lang/Math -/
def k12 : Class := { plain "java/lang/Math" (some 0) with
  accessFlags := 49
  interfaces := #[]
  cf := some (fileOf pool12 1 #[.nestMembers #[98]] #[{ accessFlags := 2, nameIndex := 7, descriptorIndex := 8, attributes := #[] }, { accessFlags := 9, nameIndex := 198, descriptorIndex := 335, attributes := #[] }, { accessFlags := 9, nameIndex := 201, descriptorIndex := 335, attributes := #[] }] 49 4 #[] #[{ accessFlags := 25, nameIndex := 354, descriptorIndex := 339, attributes := #[] }, { accessFlags := 25, nameIndex := 358, descriptorIndex := 339, attributes := #[] }, { accessFlags := 25, nameIndex := 361, descriptorIndex := 339, attributes := #[] }, { accessFlags := 26, nameIndex := 364, descriptorIndex := 339, attributes := #[] }, { accessFlags := 26, nameIndex := 365, descriptorIndex := 339, attributes := #[] }, { accessFlags := 26, nameIndex := 172, descriptorIndex := 173, attributes := #[] }, { accessFlags := 26, nameIndex := 176, descriptorIndex := 173, attributes := #[] }, { accessFlags := 8, nameIndex := 344, descriptorIndex := 339, attributes := #[] }, { accessFlags := 8, nameIndex := 338, descriptorIndex := 339, attributes := #[] }, { accessFlags := 4120, nameIndex := 245, descriptorIndex := 246, attributes := #[] }])
  fields := #[{ name := "E", type := .double, accessFlags := 25, slot := 0, constantValue := 0 }, { name := "PI", type := .double, accessFlags := 25, slot := 1, constantValue := 0 }, { name := "TAU", type := .double, accessFlags := 25, slot := 2, constantValue := 0 }, { name := "DEGREES_TO_RADIANS", type := .double, accessFlags := 26, slot := 3, constantValue := 0 }, { name := "RADIANS_TO_DEGREES", type := .double, accessFlags := 26, slot := 4, constantValue := 0 }, { name := "negativeZeroFloatBits", type := .long, accessFlags := 26, slot := 5, constantValue := 0 }, { name := "negativeZeroDoubleBits", type := .long, accessFlags := 26, slot := 6, constantValue := 0 }, { name := "twoToTheDoubleScaleUp", type := .double, accessFlags := 8, slot := 7, constantValue := 0 }, { name := "twoToTheDoubleScaleDown", type := .double, accessFlags := 8, slot := 8, constantValue := 0 }, { name := "$assertionsDisabled", type := .boolean, accessFlags := 4120, slot := 9, constantValue := 0 }]
  methods := #[k12m0, k12m1, k12m2]
  instanceTypes := #[]
  staticTypes := #[.double, .double, .double, .double, .double, .long, .long, .double, .double, .boolean]
  resolved := Array.replicate 460 none
  statics := none }

def pool13 : Array CpInfo := pool [(9, u "<init>"), (6, .class_ 18), (1, u "java/lang/Object"), (0, u "()V"), (1, .class_ 23), (1, u "jdk/internal/util/ArraysSupport"), (0, u "LOG2_ARRAY_LONG_INDEX_SCALE"), (0, u "I"), (2, u "U"), (0, u "Ljdk/internal/misc/Unsafe;"), (8, u "BIG_ENDIAN"), (0, u "Z"), (8, u "LOG2_BYTE_BIT_SIZE"), (4, u "LOG2_ARRAY_INT_INDEX_SCALE"), (54, u "JLA"), (0, u "Ljdk/internal/access/JavaLangAccess;"), (11, u "LOG2_ARRAY_BOOLEAN_INDEX_SCALE"), (9, u "LOG2_ARRAY_BYTE_INDEX_SCALE"), (5, u "LOG2_ARRAY_CHAR_INDEX_SCALE"), (5, u "LOG2_ARRAY_SHORT_INDEX_SCALE"), (18, u "LOG2_ARRAY_FLOAT_INDEX_SCALE"), (24, u "LOG2_ARRAY_DOUBLE_INDEX_SCALE"), (89, u "T_BOOLEAN"), (2, u "T_CHAR"), (1, u "T_FLOAT"), (1, u "T_DOUBLE"), (1, u "T_BYTE"), (1, u "T_SHORT"), (1, u "T_INT"), (1, u "T_LONG"), (1, u "SOFT_MAX_ARRAY_LENGTH")] 83

def k13m0 : Method := { name := "<init>", desc := "()V", sig := { parameters := [], returnType := none }, accessFlags := 2, code := none }
/-- jdk/internal/util/ArraysSupport -/
def k13 : Class := { plain "jdk/internal/util/ArraysSupport" (some 0) with
  accessFlags := 33
  interfaces := #[]
  cf := some (fileOf pool13 21 #[] #[{ accessFlags := 2, nameIndex := 9, descriptorIndex := 19, attributes := #[] }] 33 16 #[] #[{ accessFlags := 24, nameIndex := 28, descriptorIndex := 29, attributes := #[] }, { accessFlags := 26, nameIndex := 38, descriptorIndex := 39, attributes := #[] }, { accessFlags := 25, nameIndex := 121, descriptorIndex := 25, attributes := #[] }, { accessFlags := 25, nameIndex := 131, descriptorIndex := 25, attributes := #[] }, { accessFlags := 25, nameIndex := 137, descriptorIndex := 25, attributes := #[] }, { accessFlags := 25, nameIndex := 143, descriptorIndex := 25, attributes := #[] }, { accessFlags := 25, nameIndex := 53, descriptorIndex := 25, attributes := #[] }, { accessFlags := 25, nameIndex := 24, descriptorIndex := 25, attributes := #[] }, { accessFlags := 25, nameIndex := 162, descriptorIndex := 25, attributes := #[] }, { accessFlags := 25, nameIndex := 187, descriptorIndex := 25, attributes := #[] }, { accessFlags := 26, nameIndex := 48, descriptorIndex := 25, attributes := #[] }, { accessFlags := 25, nameIndex := 277, descriptorIndex := 25, attributes := #[] }, { accessFlags := 25, nameIndex := 280, descriptorIndex := 25, attributes := #[] }, { accessFlags := 25, nameIndex := 282, descriptorIndex := 25, attributes := #[] }, { accessFlags := 25, nameIndex := 284, descriptorIndex := 25, attributes := #[] }, { accessFlags := 25, nameIndex := 286, descriptorIndex := 25, attributes := #[] }, { accessFlags := 25, nameIndex := 288, descriptorIndex := 25, attributes := #[] }, { accessFlags := 25, nameIndex := 290, descriptorIndex := 25, attributes := #[] }, { accessFlags := 25, nameIndex := 292, descriptorIndex := 25, attributes := #[] }, { accessFlags := 26, nameIndex := 108, descriptorIndex := 109, attributes := #[] }, { accessFlags := 25, nameIndex := 294, descriptorIndex := 25, attributes := #[] }])
  fields := #[{ name := "U", type := (.object "jdk/internal/misc/Unsafe"), accessFlags := 24, slot := 0, constantValue := 0 }, { name := "BIG_ENDIAN", type := .boolean, accessFlags := 26, slot := 1, constantValue := 0 }, { name := "LOG2_ARRAY_BOOLEAN_INDEX_SCALE", type := .int, accessFlags := 25, slot := 2, constantValue := 0 }, { name := "LOG2_ARRAY_BYTE_INDEX_SCALE", type := .int, accessFlags := 25, slot := 3, constantValue := 0 }, { name := "LOG2_ARRAY_CHAR_INDEX_SCALE", type := .int, accessFlags := 25, slot := 4, constantValue := 0 }, { name := "LOG2_ARRAY_SHORT_INDEX_SCALE", type := .int, accessFlags := 25, slot := 5, constantValue := 0 }, { name := "LOG2_ARRAY_INT_INDEX_SCALE", type := .int, accessFlags := 25, slot := 6, constantValue := 0 }, { name := "LOG2_ARRAY_LONG_INDEX_SCALE", type := .int, accessFlags := 25, slot := 7, constantValue := 0 }, { name := "LOG2_ARRAY_FLOAT_INDEX_SCALE", type := .int, accessFlags := 25, slot := 8, constantValue := 0 }, { name := "LOG2_ARRAY_DOUBLE_INDEX_SCALE", type := .int, accessFlags := 25, slot := 9, constantValue := 0 }, { name := "LOG2_BYTE_BIT_SIZE", type := .int, accessFlags := 26, slot := 10, constantValue := 0 }, { name := "T_BOOLEAN", type := .int, accessFlags := 25, slot := 11, constantValue := 0 }, { name := "T_CHAR", type := .int, accessFlags := 25, slot := 12, constantValue := 0 }, { name := "T_FLOAT", type := .int, accessFlags := 25, slot := 13, constantValue := 0 }, { name := "T_DOUBLE", type := .int, accessFlags := 25, slot := 14, constantValue := 0 }, { name := "T_BYTE", type := .int, accessFlags := 25, slot := 15, constantValue := 0 }, { name := "T_SHORT", type := .int, accessFlags := 25, slot := 16, constantValue := 0 }, { name := "T_INT", type := .int, accessFlags := 25, slot := 17, constantValue := 0 }, { name := "T_LONG", type := .int, accessFlags := 25, slot := 18, constantValue := 0 }, { name := "JLA", type := (.object "jdk/internal/access/JavaLangAccess"), accessFlags := 26, slot := 19, constantValue := 0 }, { name := "SOFT_MAX_ARRAY_LENGTH", type := .int, accessFlags := 25, slot := 20, constantValue := 0 }]
  methods := #[k13m0]
  instanceTypes := #[]
  staticTypes := #[(.object "jdk/internal/misc/Unsafe"), .boolean, .int, .int, .int, .int, .int, .int, .int, .int, .int, .int, .int, .int, .int, .int, .int, .int, .int, (.object "jdk/internal/access/JavaLangAccess"), .int]
  resolved := Array.replicate 378 none
  statics := none }

def pool14 : Array CpInfo := pool [(1, u "java/lang/Cloneable"), (0, .class_ 1), (0, u "java/lang/Object"), (0, .class_ 3)] 3

/-- java/lang/Cloneable -/
def k14 : Class := { plain "java/lang/Cloneable" (some 0) with
  accessFlags := 1537
  interfaces := #[]
  cf := some (fileOf pool14 2 #[] #[] 1537 4 #[] #[])
  fields := #[]
  methods := #[]
  instanceTypes := #[]
  staticTypes := #[]
  resolved := Array.replicate 8 none
  statics := none }

/-- the primitive byte -/
def k15 : Class := { plain "byte" none with kind := .primitive 'B', accessFlags := 0x411 }
/-- [B -/
def k16 : Class := { plain "[B" (some 0) with kind := .array 15 .byte, interfaces := #[14, 2], accessFlags := 1041 }

/-- the primitive char -/
def k17 : Class := { plain "char" none with kind := .primitive 'C', accessFlags := 0x411 }
/-- [C -/
def k18 : Class := { plain "[C" (some 0) with kind := .array 17 .char, interfaces := #[14, 2], accessFlags := 1041 }

/-- the primitive int -/
def k19 : Class := { plain "int" none with kind := .primitive 'I', accessFlags := 0x411 }
/-- [I -/
def k20 : Class := { plain "[I" (some 0) with kind := .array 19 .int, interfaces := #[14, 2], accessFlags := 1041 }

def heap : Heap := #[{ cls := 7, slots := #[.long 0, .int 1, .null, .int 0, .null, .int 0, .int 0], vm := .statics 7 },
  { cls := 9, slots := #[.int 0, .int 8, .int 0, .int 1], vm := .statics 9 },
  { cls := 11, slots := #[.null, .null, .null], vm := .statics 11 }]
def classes : Array Class := #[k0, k1, k2, k3, k4, k5, k6, k7, k8, k9, k10, k11, k12, k13, k14, k15, k16, k17, k18, k19, k20]
def interned : List (Array UInt16 × Addr) := []
def slotsUsed : Nat := 14
def theMethod : MethodId := ⟨1, 4⟩
def args0 : Array Value := #[.int 2, .int 65, .int 65601, .int 9]
def aboutOver (below : List Frame) : State where
  vm := { classes := classes, interned := interned.toArray }
  heap := heap
  slotsUsed := slotsUsed
  threads := #[{ frames := .invoking theMethod args0 :: below }]
def below0 : List Frame := [.native { method := ⟨0, 0⟩, args := #[] }]
def about1 : State := aboutOver below0
def p0 : Program := .bare "" "" ""
def e0 : Env := launch0.env 0 0 0
theorem w_frames : about1.frames = Frame.invoking theMethod args0 :: below0 := rfl
set_option maxRecDepth 65536 in
theorem w_args : argsFit about1.vm theMethod args0 = true := by decide +kernel
set_option maxRecDepth 65536 in
theorem w_heap : heapFits about1 = true := by decide +kernel
set_option maxRecDepth 65536 in
theorem w_runnable : about1.curStatus? = some .runnable := by decide +kernel
set_option maxRecDepth 65536 in
theorem w_alone : about1.alone = true := by decide +kernel
set_option maxRecDepth 65536 in
theorem w_named : about1.methodNamed? x = some theMethod := by decide +kernel
set_option maxRecDepth 65536 in
theorem w_hears : about1.hears theMethod below0 = true := by decide +kernel
set_option maxRecDepth 65536 in
theorem w_ripe : about1.ripe theMethod args0 below0 = true := by decide +kernel
theorem w_running : about1.status = .running := rfl
set_option maxRecDepth 65536 in
theorem w_room : about1.hasRoom e0.platform room_1 = true :=
  launch0.hasRoom_least _ room_1 (by decide +kernel) (by decide +kernel) (by decide +kernel) (by decide +kernel) (by decide +kernel) (by decide +kernel)
theorem allAtoms_all (ts : List Jvm.Cond) (a : Array Jvm.Value) (st : Jvm.State) : (allAtoms ts).before a st = ts.all (fun c => c.before a st) := by
  induction ts with
  | nil => rfl
  | cons c t ih =>
    show (Jvm.Cond.and c (allAtoms t)).before a st = _
    rw [Jvm.Cond.before_and, ih, List.all_cons]
def words1 : List Jvm.Cond := Jvm.Cond.code x code maxLocals ret :: tables_1
/-- a 'code' word, met by the world's own term for the bytes: nothing is compared byte by byte -/
theorem code_word {y : MethodName} {bytes : ByteArray} {mx : Nat} {rt : Option FieldType} {a : Array Value} {s : State} {m : MethodId} {meth : Method} {c : Code} (h1 : s.methodNamed? y = some m) (h2 : s.vm.method? m = some meth) (h3 : meth.code = some c) (h4 : c.code = bytes)
    (h5 : (c.maxLocals == mx && c.exceptionTable.isEmpty && decide (c.maxStack ≤ mostOperands) && decide (meth.sig.returnType = rt) && !meth.locks && decide (parseMethodDescriptor y.desc = some meth.sig)) = true) : (Jvm.Cond.code y bytes mx rt).before a s = true := by
  simp only [Bool.and_eq_true, beq_iff_eq, Bool.not_eq_true', decide_eq_true_eq] at h5
  obtain ⟨⟨⟨⟨⟨g1, g2⟩, g3⟩, g4⟩, g5⟩, g6⟩ := h5
  simp [Cond.before, Cond.holds, Cond.value, h1, h2, h3, h4, g1, g2, g3, g4, g5, g6]
def isCode : Jvm.Cond → Bool
  | .code _ _ _ _ => true
  | _ => false
theorem all_split {L : List Jvm.Cond} {P : Jvm.Cond → Bool} (h1 : L.all (fun c => isCode c || P c) = true) (h2 : ∀ c ∈ L.filter isCode, P c = true) : L.all P = true := by
  refine List.all_eq_true.mpr fun c hc => ?_
  have h := List.all_eq_true.mp h1 c hc
  rcases Bool.eq_false_or_eq_true (isCode c) with hi | hi
  · exact h2 c (List.mem_filter.mpr ⟨hc, hi⟩)
  · simpa [hi] using h
set_option maxRecDepth 65536 in
theorem w_c0 : (Jvm.Cond.code x code maxLocals ret).before args0 about1 = true := code_word (m := ⟨1, 4⟩) (meth := k1m4) (c := k1c4) (by decide +kernel) rfl rfl rfl (by decide +kernel)
set_option maxRecDepth 65536 in
theorem w_c1 : (Jvm.Cond.code ({ cls := "com/example/rolegate/rolegate/HttpSyntaxIsTokenPinLaw", name := "draw", desc := "(I)C" } : Jvm.MethodName) method_2_code (1 : Nat) (Option.some Jvm.ClassFile.FieldType.char)).before args0 about1 = true := code_word (m := ⟨1, 1⟩) (meth := k1m1) (c := k1c1) (by decide +kernel) rfl rfl rfl (by decide +kernel)
set_option maxRecDepth 65536 in
theorem w_c2 : (Jvm.Cond.code ({ cls := "com/example/rolegate/rolegate/HttpSyntaxIsTokenPinLaw", name := "build", desc := "(ICCC)Ljava/lang/String;" } : Jvm.MethodName) method_4_code (4 : Nat) (Option.some (Jvm.ClassFile.FieldType.object "java/lang/String"))).before args0 about1 = true := code_word (m := ⟨1, 3⟩) (meth := k1m3) (c := k1c3) (by decide +kernel) rfl rfl rfl (by decide +kernel)
set_option maxRecDepth 65536 in
theorem w_c3 : (Jvm.Cond.code ({ cls := "java/lang/String", name := "<init>", desc := "([C)V" } : Jvm.MethodName) jdk_42_method_3_code (2 : Nat) (Option.none : Option Jvm.ClassFile.FieldType)).before args0 about1 = true := code_word (m := ⟨7, 1⟩) (meth := k7m1) (c := k7c1) (by decide +kernel) rfl rfl rfl (by decide +kernel)
set_option maxRecDepth 65536 in
theorem w_c4 : (Jvm.Cond.code ({ cls := "java/lang/String", name := "<init>", desc := "([CIILjava/lang/Void;)V" } : Jvm.MethodName) jdk_42_method_149_code (6 : Nat) (Option.none : Option Jvm.ClassFile.FieldType)).before args0 about1 = true := code_word (m := ⟨7, 7⟩) (meth := k7m7) (c := k7c7) (by decide +kernel) rfl rfl rfl (by decide +kernel)
set_option maxRecDepth 65536 in
theorem w_c5 : (Jvm.Cond.code ({ cls := "java/lang/Object", name := "<init>", desc := "()V" } : Jvm.MethodName) object_method_1_code (1 : Nat) (Option.none : Option Jvm.ClassFile.FieldType)).before args0 about1 = true := code_word (m := ⟨0, 0⟩) (meth := k0m0) (c := k0c0) (by decide +kernel) rfl rfl rfl (by decide +kernel)
set_option maxRecDepth 65536 in
theorem w_c6 : (Jvm.Cond.code ({ cls := "com/example/rolegate/rolegate/HttpSyntax", name := "isToken", desc := "(Ljava/lang/String;)Z" } : Jvm.MethodName) prog_2_method_2_code (2 : Nat) (Option.some Jvm.ClassFile.FieldType.boolean)).before args0 about1 = true := code_word (m := ⟨8, 1⟩) (meth := k8m1) (c := k8c1) (by decide +kernel) rfl rfl rfl (by decide +kernel)
set_option maxRecDepth 65536 in
theorem w_c7 : (Jvm.Cond.code ({ cls := "java/lang/String", name := "isEmpty", desc := "()Z" } : Jvm.MethodName) jdk_42_method_55_code (1 : Nat) (Option.some Jvm.ClassFile.FieldType.boolean)).before args0 about1 = true := code_word (m := ⟨7, 3⟩) (meth := k7m3) (c := k7c3) (by decide +kernel) rfl rfl rfl (by decide +kernel)
set_option maxRecDepth 65536 in
theorem w_c8 : (Jvm.Cond.code ({ cls := "java/lang/StringUTF16", name := "compress", desc := "([CII)[B" } : Jvm.MethodName) jdk_52_method_16_code (6 : Nat) (Option.some (Jvm.ClassFile.FieldType.array Jvm.ClassFile.FieldType.byte))).before args0 about1 = true := code_word (m := ⟨9, 8⟩) (meth := k9m8) (c := k9c8) (by decide +kernel) rfl rfl rfl (by decide +kernel)
set_option maxRecDepth 65536 in
theorem w_c9 : (Jvm.Cond.code ({ cls := "java/lang/StringUTF16", name := "compress", desc := "([CI[BII)I" } : Jvm.MethodName) jdk_52_method_21_code (7 : Nat) (Option.some Jvm.ClassFile.FieldType.int)).before args0 about1 = true := code_word (m := ⟨9, 9⟩) (meth := k9m9) (c := k9c9) (by decide +kernel) rfl rfl rfl (by decide +kernel)
set_option maxRecDepth 65536 in
theorem w_c10 : (Jvm.Cond.code ({ cls := "java/lang/StringUTF16", name := "coderFromArrayLen", desc := "([BI)B" } : Jvm.MethodName) jdk_52_method_15_code (2 : Nat) (Option.some Jvm.ClassFile.FieldType.byte)).before args0 about1 = true := code_word (m := ⟨9, 7⟩) (meth := k9m7) (c := k9c7) (by decide +kernel) rfl rfl rfl (by decide +kernel)
set_option maxRecDepth 65536 in
theorem w_c11 : (Jvm.Cond.code ({ cls := "com/example/rolegate/rolegate/HttpSyntaxIsTokenPinLaw", name := "tchar", desc := "(C)Z" } : Jvm.MethodName) method_3_code (1 : Nat) (Option.some Jvm.ClassFile.FieldType.boolean)).before args0 about1 = true := code_word (m := ⟨1, 2⟩) (meth := k1m2) (c := k1c2) (by decide +kernel) rfl rfl rfl (by decide +kernel)
set_option maxRecDepth 65536 in
theorem w_c12 : (Jvm.Cond.code ({ cls := "java/lang/String", name := "length", desc := "()I" } : Jvm.MethodName) jdk_42_method_54_code (1 : Nat) (Option.some Jvm.ClassFile.FieldType.int)).before args0 about1 = true := code_word (m := ⟨7, 2⟩) (meth := k7m2) (c := k7c2) (by decide +kernel) rfl rfl rfl (by decide +kernel)
set_option maxRecDepth 65536 in
theorem w_c13 : (Jvm.Cond.code ({ cls := "java/lang/String", name := "coder", desc := "()B" } : Jvm.MethodName) jdk_42_method_152_code (1 : Nat) (Option.some Jvm.ClassFile.FieldType.byte)).before args0 about1 = true := code_word (m := ⟨7, 8⟩) (meth := k7m8) (c := k7c8) (by decide +kernel) rfl rfl rfl (by decide +kernel)
set_option maxRecDepth 65536 in
theorem w_c14 : (Jvm.Cond.code ({ cls := "java/lang/String", name := "charAt", desc := "(I)C" } : Jvm.MethodName) jdk_42_method_56_code (2 : Nat) (Option.some Jvm.ClassFile.FieldType.char)).before args0 about1 = true := code_word (m := ⟨7, 4⟩) (meth := k7m4) (c := k7c4) (by decide +kernel) rfl rfl rfl (by decide +kernel)
set_option maxRecDepth 65536 in
theorem w_c15 : (Jvm.Cond.code ({ cls := "java/lang/String", name := "isLatin1", desc := "()Z" } : Jvm.MethodName) jdk_42_method_154_code (1 : Nat) (Option.some Jvm.ClassFile.FieldType.boolean)).before args0 about1 = true := code_word (m := ⟨7, 9⟩) (meth := k7m9) (c := k7c9) (by decide +kernel) rfl rfl rfl (by decide +kernel)
set_option maxRecDepth 65536 in
theorem w_c16 : (Jvm.Cond.code ({ cls := "java/lang/StringLatin1", name := "charAt", desc := "([BI)C" } : Jvm.MethodName) jdk_43_method_2_code (2 : Nat) (Option.some Jvm.ClassFile.FieldType.char)).before args0 about1 = true := code_word (m := ⟨10, 1⟩) (meth := k10m1) (c := k10c1) (by decide +kernel) rfl rfl rfl (by decide +kernel)
set_option maxRecDepth 65536 in
theorem w_c17 : (Jvm.Cond.code ({ cls := "java/lang/String", name := "checkIndex", desc := "(II)V" } : Jvm.MethodName) jdk_42_method_155_code (2 : Nat) (Option.none : Option Jvm.ClassFile.FieldType)).before args0 about1 = true := code_word (m := ⟨7, 10⟩) (meth := k7m10) (c := k7c10) (by decide +kernel) rfl rfl rfl (by decide +kernel)
set_option maxRecDepth 65536 in
theorem w_c18 : (Jvm.Cond.code ({ cls := "jdk/internal/util/Preconditions", name := "checkIndex", desc := "(IILjava/util/function/BiFunction;)I" } : Jvm.MethodName) jdk_41_method_11_code (3 : Nat) (Option.some Jvm.ClassFile.FieldType.int)).before args0 about1 = true := code_word (m := ⟨11, 1⟩) (meth := k11m1) (c := k11c1) (by decide +kernel) rfl rfl rfl (by decide +kernel)
set_option maxRecDepth 65536 in
theorem w_c19 : (Jvm.Cond.code ({ cls := "com/example/rolegate/rolegate/HttpSyntax", name := "isTokenCharacter", desc := "(C)Z" } : Jvm.MethodName) prog_2_method_3_code (2 : Nat) (Option.some Jvm.ClassFile.FieldType.boolean)).before args0 about1 = true := code_word (m := ⟨8, 2⟩) (meth := k8m2) (c := k8c2) (by decide +kernel) rfl rfl rfl (by decide +kernel)
set_option maxRecDepth 65536 in
theorem w_c20 : (Jvm.Cond.code ({ cls := "java/lang/String", name := "indexOf", desc := "(I)I" } : Jvm.MethodName) jdk_42_method_79_code (2 : Nat) (Option.some Jvm.ClassFile.FieldType.int)).before args0 about1 = true := code_word (m := ⟨7, 5⟩) (meth := k7m5) (c := k7c5) (by decide +kernel) rfl rfl rfl (by decide +kernel)
set_option maxRecDepth 65536 in
theorem w_c21 : (Jvm.Cond.code ({ cls := "java/lang/String", name := "indexOf", desc := "(II)I" } : Jvm.MethodName) jdk_42_method_80_code (3 : Nat) (Option.some Jvm.ClassFile.FieldType.int)).before args0 about1 = true := code_word (m := ⟨7, 6⟩) (meth := k7m6) (c := k7c6) (by decide +kernel) rfl rfl rfl (by decide +kernel)
set_option maxRecDepth 65536 in
theorem w_c22 : (Jvm.Cond.code ({ cls := "java/lang/StringLatin1", name := "indexOf", desc := "([BIII)I" } : Jvm.MethodName) jdk_43_method_22_code (4 : Nat) (Option.some Jvm.ClassFile.FieldType.int)).before args0 about1 = true := code_word (m := ⟨10, 3⟩) (meth := k10m3) (c := k10c3) (by decide +kernel) rfl rfl rfl (by decide +kernel)
set_option maxRecDepth 65536 in
theorem w_c23 : (Jvm.Cond.code ({ cls := "java/lang/StringLatin1", name := "canEncode", desc := "(I)Z" } : Jvm.MethodName) jdk_43_method_4_code (1 : Nat) (Option.some Jvm.ClassFile.FieldType.boolean)).before args0 about1 = true := code_word (m := ⟨10, 2⟩) (meth := k10m2) (c := k10c2) (by decide +kernel) rfl rfl rfl (by decide +kernel)
set_option maxRecDepth 65536 in
theorem w_c24 : (Jvm.Cond.code ({ cls := "java/lang/Math", name := "max", desc := "(II)I" } : Jvm.MethodName) jdk_29_method_65_code (2 : Nat) (Option.some Jvm.ClassFile.FieldType.int)).before args0 about1 = true := code_word (m := ⟨12, 1⟩) (meth := k12m1) (c := k12c1) (by decide +kernel) rfl rfl rfl (by decide +kernel)
set_option maxRecDepth 65536 in
theorem w_c25 : (Jvm.Cond.code ({ cls := "java/lang/Math", name := "min", desc := "(II)I" } : Jvm.MethodName) jdk_29_method_69_code (2 : Nat) (Option.some Jvm.ClassFile.FieldType.int)).before args0 about1 = true := code_word (m := ⟨12, 2⟩) (meth := k12m2) (c := k12c2) (by decide +kernel) rfl rfl rfl (by decide +kernel)
set_option maxRecDepth 65536 in
theorem w_c26 : (Jvm.Cond.code ({ cls := "java/lang/StringLatin1", name := "indexOfChar", desc := "([BIII)I" } : Jvm.MethodName) jdk_43_method_23_code (6 : Nat) (Option.some Jvm.ClassFile.FieldType.int)).before args0 about1 = true := code_word (m := ⟨10, 4⟩) (meth := k10m4) (c := k10c4) (by decide +kernel) rfl rfl rfl (by decide +kernel)
set_option maxRecDepth 65536 in
theorem w_c27 : (Jvm.Cond.code ({ cls := "java/lang/StringUTF16", name := "toBytes", desc := "([CII)[B" } : Jvm.MethodName) jdk_52_method_14_code (5 : Nat) (Option.some (Jvm.ClassFile.FieldType.array Jvm.ClassFile.FieldType.byte))).before args0 about1 = true := code_word (m := ⟨9, 6⟩) (meth := k9m6) (c := k9c6) (by decide +kernel) rfl rfl rfl (by decide +kernel)
set_option maxRecDepth 65536 in
theorem w_c28 : (Jvm.Cond.code ({ cls := "java/lang/StringUTF16", name := "newBytesFor", desc := "(I)[B" } : Jvm.MethodName) jdk_52_method_2_code (1 : Nat) (Option.some (Jvm.ClassFile.FieldType.array Jvm.ClassFile.FieldType.byte))).before args0 about1 = true := code_word (m := ⟨9, 1⟩) (meth := k9m1) (c := k9c1) (by decide +kernel) rfl rfl rfl (by decide +kernel)
set_option maxRecDepth 65536 in
theorem w_c29 : (Jvm.Cond.code ({ cls := "java/lang/StringUTF16", name := "newBytesLength", desc := "(I)I" } : Jvm.MethodName) jdk_52_method_3_code (1 : Nat) (Option.some Jvm.ClassFile.FieldType.int)).before args0 about1 = true := code_word (m := ⟨9, 2⟩) (meth := k9m2) (c := k9c2) (by decide +kernel) rfl rfl rfl (by decide +kernel)
set_option maxRecDepth 65536 in
theorem w_c30 : (Jvm.Cond.code ({ cls := "java/lang/StringUTF16", name := "putChar", desc := "([BII)V" } : Jvm.MethodName) jdk_52_method_4_code (3 : Nat) (Option.none : Option Jvm.ClassFile.FieldType)).before args0 about1 = true := code_word (m := ⟨9, 3⟩) (meth := k9m3) (c := k9c3) (by decide +kernel) rfl rfl rfl (by decide +kernel)
set_option maxRecDepth 65536 in
theorem w_c31 : (Jvm.Cond.code ({ cls := "java/lang/StringUTF16", name := "getChar", desc := "([BI)C" } : Jvm.MethodName) jdk_52_method_5_code (2 : Nat) (Option.some Jvm.ClassFile.FieldType.char)).before args0 about1 = true := code_word (m := ⟨9, 4⟩) (meth := k9m4) (c := k9c4) (by decide +kernel) rfl rfl rfl (by decide +kernel)
set_option maxRecDepth 65536 in
theorem w_c32 : (Jvm.Cond.code ({ cls := "java/lang/StringUTF16", name := "charAt", desc := "([BI)C" } : Jvm.MethodName) jdk_52_method_83_code (2 : Nat) (Option.some Jvm.ClassFile.FieldType.char)).before args0 about1 = true := code_word (m := ⟨9, 10⟩) (meth := k9m10) (c := k9c10) (by decide +kernel) rfl rfl rfl (by decide +kernel)
set_option maxRecDepth 65536 in
theorem w_c33 : (Jvm.Cond.code ({ cls := "java/lang/StringUTF16", name := "checkIndex", desc := "(I[B)V" } : Jvm.MethodName) jdk_52_method_91_code (2 : Nat) (Option.none : Option Jvm.ClassFile.FieldType)).before args0 about1 = true := code_word (m := ⟨9, 11⟩) (meth := k9m11) (c := k9c11) (by decide +kernel) rfl rfl rfl (by decide +kernel)
set_option maxRecDepth 65536 in
theorem w_c34 : (Jvm.Cond.code ({ cls := "java/lang/StringUTF16", name := "length", desc := "([B)I" } : Jvm.MethodName) jdk_52_method_6_code (1 : Nat) (Option.some Jvm.ClassFile.FieldType.int)).before args0 about1 = true := code_word (m := ⟨9, 5⟩) (meth := k9m5) (c := k9c5) (by decide +kernel) rfl rfl rfl (by decide +kernel)
def codes1 : List Jvm.Cond := [Jvm.Cond.code x code maxLocals ret, Jvm.Cond.code ({ cls := "com/example/rolegate/rolegate/HttpSyntaxIsTokenPinLaw", name := "draw", desc := "(I)C" } : Jvm.MethodName) method_2_code (1 : Nat) (Option.some Jvm.ClassFile.FieldType.char), Jvm.Cond.code ({ cls := "com/example/rolegate/rolegate/HttpSyntaxIsTokenPinLaw", name := "build", desc := "(ICCC)Ljava/lang/String;" } : Jvm.MethodName) method_4_code (4 : Nat) (Option.some (Jvm.ClassFile.FieldType.object "java/lang/String")), Jvm.Cond.code ({ cls := "java/lang/String", name := "<init>", desc := "([C)V" } : Jvm.MethodName) jdk_42_method_3_code (2 : Nat) (Option.none : Option Jvm.ClassFile.FieldType), Jvm.Cond.code ({ cls := "java/lang/String", name := "<init>", desc := "([CIILjava/lang/Void;)V" } : Jvm.MethodName) jdk_42_method_149_code (6 : Nat) (Option.none : Option Jvm.ClassFile.FieldType), Jvm.Cond.code ({ cls := "java/lang/Object", name := "<init>", desc := "()V" } : Jvm.MethodName) object_method_1_code (1 : Nat) (Option.none : Option Jvm.ClassFile.FieldType), Jvm.Cond.code ({ cls := "com/example/rolegate/rolegate/HttpSyntax", name := "isToken", desc := "(Ljava/lang/String;)Z" } : Jvm.MethodName) prog_2_method_2_code (2 : Nat) (Option.some Jvm.ClassFile.FieldType.boolean), Jvm.Cond.code ({ cls := "java/lang/String", name := "isEmpty", desc := "()Z" } : Jvm.MethodName) jdk_42_method_55_code (1 : Nat) (Option.some Jvm.ClassFile.FieldType.boolean), Jvm.Cond.code ({ cls := "java/lang/StringUTF16", name := "compress", desc := "([CII)[B" } : Jvm.MethodName) jdk_52_method_16_code (6 : Nat) (Option.some (Jvm.ClassFile.FieldType.array Jvm.ClassFile.FieldType.byte)), Jvm.Cond.code ({ cls := "java/lang/StringUTF16", name := "compress", desc := "([CI[BII)I" } : Jvm.MethodName) jdk_52_method_21_code (7 : Nat) (Option.some Jvm.ClassFile.FieldType.int), Jvm.Cond.code ({ cls := "java/lang/StringUTF16", name := "coderFromArrayLen", desc := "([BI)B" } : Jvm.MethodName) jdk_52_method_15_code (2 : Nat) (Option.some Jvm.ClassFile.FieldType.byte), Jvm.Cond.code ({ cls := "com/example/rolegate/rolegate/HttpSyntaxIsTokenPinLaw", name := "tchar", desc := "(C)Z" } : Jvm.MethodName) method_3_code (1 : Nat) (Option.some Jvm.ClassFile.FieldType.boolean), Jvm.Cond.code ({ cls := "java/lang/String", name := "length", desc := "()I" } : Jvm.MethodName) jdk_42_method_54_code (1 : Nat) (Option.some Jvm.ClassFile.FieldType.int), Jvm.Cond.code ({ cls := "java/lang/String", name := "coder", desc := "()B" } : Jvm.MethodName) jdk_42_method_152_code (1 : Nat) (Option.some Jvm.ClassFile.FieldType.byte), Jvm.Cond.code ({ cls := "java/lang/String", name := "charAt", desc := "(I)C" } : Jvm.MethodName) jdk_42_method_56_code (2 : Nat) (Option.some Jvm.ClassFile.FieldType.char), Jvm.Cond.code ({ cls := "java/lang/String", name := "isLatin1", desc := "()Z" } : Jvm.MethodName) jdk_42_method_154_code (1 : Nat) (Option.some Jvm.ClassFile.FieldType.boolean), Jvm.Cond.code ({ cls := "java/lang/StringLatin1", name := "charAt", desc := "([BI)C" } : Jvm.MethodName) jdk_43_method_2_code (2 : Nat) (Option.some Jvm.ClassFile.FieldType.char), Jvm.Cond.code ({ cls := "java/lang/String", name := "checkIndex", desc := "(II)V" } : Jvm.MethodName) jdk_42_method_155_code (2 : Nat) (Option.none : Option Jvm.ClassFile.FieldType), Jvm.Cond.code ({ cls := "jdk/internal/util/Preconditions", name := "checkIndex", desc := "(IILjava/util/function/BiFunction;)I" } : Jvm.MethodName) jdk_41_method_11_code (3 : Nat) (Option.some Jvm.ClassFile.FieldType.int), Jvm.Cond.code ({ cls := "com/example/rolegate/rolegate/HttpSyntax", name := "isTokenCharacter", desc := "(C)Z" } : Jvm.MethodName) prog_2_method_3_code (2 : Nat) (Option.some Jvm.ClassFile.FieldType.boolean), Jvm.Cond.code ({ cls := "java/lang/String", name := "indexOf", desc := "(I)I" } : Jvm.MethodName) jdk_42_method_79_code (2 : Nat) (Option.some Jvm.ClassFile.FieldType.int), Jvm.Cond.code ({ cls := "java/lang/String", name := "indexOf", desc := "(II)I" } : Jvm.MethodName) jdk_42_method_80_code (3 : Nat) (Option.some Jvm.ClassFile.FieldType.int), Jvm.Cond.code ({ cls := "java/lang/StringLatin1", name := "indexOf", desc := "([BIII)I" } : Jvm.MethodName) jdk_43_method_22_code (4 : Nat) (Option.some Jvm.ClassFile.FieldType.int), Jvm.Cond.code ({ cls := "java/lang/StringLatin1", name := "canEncode", desc := "(I)Z" } : Jvm.MethodName) jdk_43_method_4_code (1 : Nat) (Option.some Jvm.ClassFile.FieldType.boolean), Jvm.Cond.code ({ cls := "java/lang/Math", name := "max", desc := "(II)I" } : Jvm.MethodName) jdk_29_method_65_code (2 : Nat) (Option.some Jvm.ClassFile.FieldType.int), Jvm.Cond.code ({ cls := "java/lang/Math", name := "min", desc := "(II)I" } : Jvm.MethodName) jdk_29_method_69_code (2 : Nat) (Option.some Jvm.ClassFile.FieldType.int), Jvm.Cond.code ({ cls := "java/lang/StringLatin1", name := "indexOfChar", desc := "([BIII)I" } : Jvm.MethodName) jdk_43_method_23_code (6 : Nat) (Option.some Jvm.ClassFile.FieldType.int), Jvm.Cond.code ({ cls := "java/lang/StringUTF16", name := "toBytes", desc := "([CII)[B" } : Jvm.MethodName) jdk_52_method_14_code (5 : Nat) (Option.some (Jvm.ClassFile.FieldType.array Jvm.ClassFile.FieldType.byte)), Jvm.Cond.code ({ cls := "java/lang/StringUTF16", name := "newBytesFor", desc := "(I)[B" } : Jvm.MethodName) jdk_52_method_2_code (1 : Nat) (Option.some (Jvm.ClassFile.FieldType.array Jvm.ClassFile.FieldType.byte)), Jvm.Cond.code ({ cls := "java/lang/StringUTF16", name := "newBytesLength", desc := "(I)I" } : Jvm.MethodName) jdk_52_method_3_code (1 : Nat) (Option.some Jvm.ClassFile.FieldType.int), Jvm.Cond.code ({ cls := "java/lang/StringUTF16", name := "putChar", desc := "([BII)V" } : Jvm.MethodName) jdk_52_method_4_code (3 : Nat) (Option.none : Option Jvm.ClassFile.FieldType), Jvm.Cond.code ({ cls := "java/lang/StringUTF16", name := "getChar", desc := "([BI)C" } : Jvm.MethodName) jdk_52_method_5_code (2 : Nat) (Option.some Jvm.ClassFile.FieldType.char), Jvm.Cond.code ({ cls := "java/lang/StringUTF16", name := "charAt", desc := "([BI)C" } : Jvm.MethodName) jdk_52_method_83_code (2 : Nat) (Option.some Jvm.ClassFile.FieldType.char), Jvm.Cond.code ({ cls := "java/lang/StringUTF16", name := "checkIndex", desc := "(I[B)V" } : Jvm.MethodName) jdk_52_method_91_code (2 : Nat) (Option.none : Option Jvm.ClassFile.FieldType), Jvm.Cond.code ({ cls := "java/lang/StringUTF16", name := "length", desc := "([B)I" } : Jvm.MethodName) jdk_52_method_6_code (1 : Nat) (Option.some Jvm.ClassFile.FieldType.int)]
set_option maxRecDepth 65536 in
theorem codes_eq : words1.filter isCode = codes1 := rfl
theorem w_codes : ∀ c ∈ words1.filter isCode, c.before args0 about1 = true := by
  rw [codes_eq]
  intro c hc
  simp only [codes1, List.mem_cons, List.not_mem_nil, or_false] at hc
  rcases hc with rfl | rfl | rfl | rfl | rfl | rfl | rfl | rfl | rfl | rfl | rfl | rfl | rfl | rfl | rfl | rfl | rfl | rfl | rfl | rfl | rfl | rfl | rfl | rfl | rfl | rfl | rfl | rfl | rfl | rfl | rfl | rfl | rfl | rfl | rfl
  · exact w_c0
  · exact w_c1
  · exact w_c2
  · exact w_c3
  · exact w_c4
  · exact w_c5
  · exact w_c6
  · exact w_c7
  · exact w_c8
  · exact w_c9
  · exact w_c10
  · exact w_c11
  · exact w_c12
  · exact w_c13
  · exact w_c14
  · exact w_c15
  · exact w_c16
  · exact w_c17
  · exact w_c18
  · exact w_c19
  · exact w_c20
  · exact w_c21
  · exact w_c22
  · exact w_c23
  · exact w_c24
  · exact w_c25
  · exact w_c26
  · exact w_c27
  · exact w_c28
  · exact w_c29
  · exact w_c30
  · exact w_c31
  · exact w_c32
  · exact w_c33
  · exact w_c34
set_option maxRecDepth 65536 in
theorem w_t1 : (words1.take 24).all (fun c => isCode c || c.before args0 about1) = true := by decide +kernel
set_option maxRecDepth 65536 in
theorem w_t2 : ((words1.drop 24).take 24).all (fun c => isCode c || c.before args0 about1) = true := by decide +kernel
set_option maxRecDepth 65536 in
theorem w_t3 : (((words1.drop 24).drop 24).take 24).all (fun c => isCode c || c.before args0 about1) = true := by decide +kernel
set_option maxRecDepth 65536 in
theorem w_t4 : ((((words1.drop 24).drop 24).drop 24).take 24).all (fun c => isCode c || c.before args0 about1) = true := by decide +kernel
set_option maxRecDepth 65536 in
theorem w_t5 : (((((words1.drop 24).drop 24).drop 24).drop 24).take 24).all (fun c => isCode c || c.before args0 about1) = true := by decide +kernel
set_option maxRecDepth 65536 in
theorem w_t6 : ((((((words1.drop 24).drop 24).drop 24).drop 24).drop 24).take 24).all (fun c => isCode c || c.before args0 about1) = true := by decide +kernel
set_option maxRecDepth 65536 in
theorem w_t7 : ((((((words1.drop 24).drop 24).drop 24).drop 24).drop 24).drop 24).all (fun c => isCode c || c.before args0 about1) = true := by decide +kernel
theorem w_tables : (allAtoms (Jvm.Cond.code x code maxLocals ret :: tables_1)).before args0 about1 = true := by
  rw [allAtoms_all]
  show words1.all (fun c => c.before args0 about1) = true
  refine all_split ?_ w_codes
  rw [← List.take_append_drop 24 words1, List.all_append, w_t1, ← List.take_append_drop 24 (words1.drop 24), List.all_append, w_t2, ← List.take_append_drop 24 ((words1.drop 24).drop 24), List.all_append, w_t3, ← List.take_append_drop 24 (((words1.drop 24).drop 24).drop 24), List.all_append, w_t4, ← List.take_append_drop 24 ((((words1.drop 24).drop 24).drop 24).drop 24), List.all_append, w_t5, ← List.take_append_drop 24 (((((words1.drop 24).drop 24).drop 24).drop 24).drop 24), List.all_append, w_t6, w_t7]
  rfl
set_option maxRecDepth 65536 in
theorem w_rest : rest_1_c.before args0 about1 = true := by decide +kernel
set_option maxRecDepth 65536 in
theorem w_case : (Jvm.Cond.and given_1 narrow_1).before args0 about1 = true := by decide +kernel
set_option maxRecDepth 65536 in
theorem w_consts : constsHeld consts_1 about1 := Jvm.Lit.constsHeldB_iff.mp (by decide +kernel)
theorem w_applies : (headSpec (Jvm.Cond.code x code maxLocals ret :: tables_1) room_1).applies x e0.platform about1 = true :=
  (Spec.applies_iff w_frames).mpr ⟨w_running, w_runnable, w_alone, w_named, w_hears, w_ripe, w_room, w_tables⟩
theorem atStart : AtStart classFile x code maxLocals ret World_1 tables_1 room_1 Calls_1 rest_1 Pre_1 launch0 p0 e0 about1 theMethod args0 below0 :=
  ⟨lists_1, trivial, launch0.admits_env _ _ _, launch0.least_env, fairChoices_fair.cas, fairChoices_fair.clock, w_frames, w_args, w_heap, w_applies, ⟨w_consts, trivial⟩, w_rest, w_case⟩
end start1
theorem witness_1 : WitnessClaimed_1 := ⟨start1.p0, start1.e0, start1.about1, start1.theMethod, start1.args0, start1.below0, start1.atStart⟩
end Jvm.Pilot.@@N@@
