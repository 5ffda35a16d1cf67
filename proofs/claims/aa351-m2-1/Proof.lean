import JvmDerived
import JvmDerived.Pilot.@@N@@Statement
import JvmDerived.Pilot.@@N@@Code
set_option linter.unusedVariables false
set_option linter.unusedSimpArgs false
namespace Jvm.OwnWalk
open Sem ClassFile Op Lib Jvm.Stand Jvm.Free Jvm.LawKit Jvm.RoadKit
section Own
variable {p : Program} {l : Launch} {e : Env} {R : Room} {s : State} {m : MethodId} {args : Array Value} {below : List Frame} {meth : Method} {c : Code} {T : State} {locs : List Loc} {cells slots : Nat} {Z : State} {a0 : Array Value} {h h' : Heap} {Q : Option Value → Heap → List Loc → Prop} {kc ks : Nat} {G : Outcome → State → Prop} {A B : State}
/-- from A the invocation comes to its end, and Q holds of what it returns, of the heap and of the places written -/
def Goes (p : Program) (e : Env) (below : List Frame) (G : Outcome → State → Prop) (A : State) : Prop :=
  ∃ s₂ o, Steps p.tables e below A s₂ ∧ s₂.status = .running ∧ Ended s₂ below o ∧ G o s₂
def EndN (s : State) (Q : Option Value → Heap → List Loc → Prop) (kc ks : Nat) (o : Outcome) (t : State) : Prop := ∃ v L, o = .returned v ∧ Q v t.heap L ∧ FrameEnd s o t L kc ks
theorem go (k : ∀ t, Steps p.tables e below B t → Steps p.tables e below A t) (g : Goes p e below G B) : Goes p e below G A := by
  obtain ⟨s₂, o, st, r⟩ := g
  exact ⟨s₂, o, k _ st, r⟩
theorem goE {g g' : JFrame} (q : g = g') (k : Goes p e below G (T.setTop g')) : Goes p e below G (T.setTop g) := q ▸ k
theorem goEnd (X : Stand p l e R s m args below meth c T locs cells slots) {v : Option Value} (hv : meth.sig.returnType = none → v = none) (hlocks : meth.locks = false) (hc : cells ≤ kc) (hs : slots ≤ ks) (eT : T.heap = h) (hq : Q v h locs)
    (k : ∀ fs, (∀ (f : JFrame) (acts : List Action), f.method = m → f.locked = none → f.entered = [] → (doReturn e (T.setTop f) acts v).1 = T.setFrames fs) → Steps p.tables e below A (T.setFrames fs)) : Goes p e below (EndN s Q kc ks) A := by
  obtain ⟨fs, hr, hrun, hended, hW, hsame⟩ := X.leave hv hlocks
  exact ⟨_, _, k fs hr, hrun, hended, _, _, rfl, (by show Q v T.heap locs; rw [eT]; exact hq), ⟨_, rfl⟩, hW, hsame.mono hc hs⟩
theorem goRetV (X : Stand p l e R s m args below meth c T locs cells slots) (hx : p.tables.exec = Jvm.exec) {pc : Nat} {Ls : Array Slot} {w : Value} {t : FieldType} {i : Instr} {rest : List Value} (hret : meth.sig.returnType = some t) (hlocks : meth.locks = false) (hd : decode c.code pc = .ok (i, 1)) (hn : narrow t w = w)
    (hi : (i = .ireturn ∧ (t = .int ∨ t = .boolean ∨ t = .byte ∨ t = .char ∨ t = .short) ∧ ∃ z, w = .int z) ∨ (i = .lreturn ∧ t = .long ∧ ∃ z, w = .long z) ∨ (i = .dreturn ∧ t = .double ∧ ∃ z, w = .double z) ∨ (i = .freturn ∧ t = .float ∧ ∃ z, w = .float z) ∨ (i = .areturn ∧ t.isReference = true ∧ w.isRef = true))
    (hc : cells ≤ kc) (hs : slots ≤ ks) (eT : T.heap = h) (hq : Q (some w) h locs) : Goes p e below (EndN s Q kc ks) (T.setTop (mkF m pc Ls (w :: rest))) :=
  goEnd X (v := some w) (fun q => by rw [hret] at q; cases q) hlocks hc hs eT hq fun fs hr => retOut X hx hret hn hi hd hr
theorem goRetI (X : Stand p l e R s m args below meth c T locs cells slots) (hx : p.tables.exec = Jvm.exec) {pc : Nat} {Ls : Array Slot} {z : Int32} {rest : List Value} (hret : meth.sig.returnType = some .int) (hlocks : meth.locks = false) (hd : decode c.code pc = .ok (.ireturn, 1))
    (hc : cells ≤ kc) (hs : slots ≤ ks) (eT : T.heap = h) (hq : Q (some (.int z)) h locs) : Goes p e below (EndN s Q kc ks) (T.setTop (mkF m pc Ls (.int z :: rest))) :=
  goRetV X hx hret hlocks hd rfl (Or.inl ⟨rfl, Or.inl rfl, _, rfl⟩) hc hs eT hq
theorem goRetJ (X : Stand p l e R s m args below meth c T locs cells slots) (hx : p.tables.exec = Jvm.exec) {pc : Nat} {Ls : Array Slot} {z : Int64} {rest : List Value} (hret : meth.sig.returnType = some .long) (hlocks : meth.locks = false) (hd : decode c.code pc = .ok (.lreturn, 1))
    (hc : cells ≤ kc) (hs : slots ≤ ks) (eT : T.heap = h) (hq : Q (some (.long z)) h locs) : Goes p e below (EndN s Q kc ks) (T.setTop (mkF m pc Ls (.long z :: rest))) :=
  goRetV X hx hret hlocks hd rfl (Or.inr (Or.inl ⟨rfl, rfl, _, rfl⟩)) hc hs eT hq
theorem goRetD (X : Stand p l e R s m args below meth c T locs cells slots) (hx : p.tables.exec = Jvm.exec) {pc : Nat} {Ls : Array Slot} {z : UInt64} {rest : List Value} (hret : meth.sig.returnType = some .double) (hlocks : meth.locks = false) (hd : decode c.code pc = .ok (.dreturn, 1))
    (hc : cells ≤ kc) (hs : slots ≤ ks) (eT : T.heap = h) (hq : Q (some (.double z)) h locs) : Goes p e below (EndN s Q kc ks) (T.setTop (mkF m pc Ls (.double z :: rest))) :=
  goRetV X hx hret hlocks hd rfl (Or.inr (Or.inr (Or.inl ⟨rfl, rfl, _, rfl⟩))) hc hs eT hq
theorem goRetA (X : Stand p l e R s m args below meth c T locs cells slots) (hx : p.tables.exec = Jvm.exec) {pc : Nat} {Ls : Array Slot} {w : Value} {t : FieldType} {rest : List Value} (hret : meth.sig.returnType = some t) (hlocks : meth.locks = false) (ht : t.isReference = true) (hw : w.isRef = true) (hd : decode c.code pc = .ok (.areturn, 1))
    (hc : cells ≤ kc) (hs : slots ≤ ks) (eT : T.heap = h) (hq : Q (some w) h locs) : Goes p e below (EndN s Q kc ks) (T.setTop (mkF m pc Ls (w :: rest))) :=
  goRetV X hx hret hlocks hd (by cases t <;> first | (cases ht; done) | rfl) (Or.inr (Or.inr (Or.inr (Or.inr ⟨rfl, ht, hw⟩)))) hc hs eT hq
theorem goRetN (X : Stand p l e R s m args below meth c T locs cells slots) (hx : p.tables.exec = Jvm.exec) {pc : Nat} {Ls : Array Slot} {z z' : Int32} {t : FieldType} {rest : List Value} (hret : meth.sig.returnType = some t) (hlocks : meth.locks = false) (ht : t = .boolean ∨ t = .byte ∨ t = .char ∨ t = .short) (hd : decode c.code pc = .ok (.ireturn, 1)) (hz : nar t z = z')
    (hc : cells ≤ kc) (hs : slots ≤ ks) (eT : T.heap = h) (hq : Q (some (.int z')) h locs) : Goes p e below (EndN s Q kc ks) (T.setTop (mkF m pc Ls (.int z :: rest))) := by
  subst hz
  exact goEnd X (v := some (.int (nar t z))) (fun q => by rw [hret] at q; cases q) hlocks hc hs eT hq fun fs hr => retN X hx hret ht hd hr
theorem goRet0 (X : Stand p l e R s m args below meth c T locs cells slots) (hx : p.tables.exec = Jvm.exec) {pc : Nat} {Ls : Array Slot} (hret : meth.sig.returnType = none) (hlocks : meth.locks = false) (hd : decode c.code pc = .ok (.return_, 1))
    (hc : cells ≤ kc) (hs : slots ≤ ks) (eT : T.heap = h) (hq : Q none h locs) : Goes p e below (EndN s Q kc ks) (T.setTop (mkF m pc Ls [])) :=
  goEnd X (v := none) (fun _ => rfl) hlocks hc hs eT hq fun fs hr => X.returnOut hx hret hd hr
/-- a body's contract: called with these arguments at this heap it returns, and Q holds -/
def Ctr (l : Launch) (Z : State) (y : MethodName) (bytes : ByteArray) (maxL : Nat) (ret : Option FieldType) (ws : List Cond) (rm : Room) (as : Array Value) (h0 : Heap) (Q : Option Value → Heap → List Loc → Prop) : Prop :=
  MetFree l y (head1 (Cond.code y bytes maxL ret :: ws) rm) (fun a U => a = as ∧ Z.Warmed39 U.vm ∧ U.heap = h0) (fun _ _ _ _ _ => True) (fun _ U o U' => ∃ v L, o = .returned v ∧ Q v U'.heap L ∧ FrameEnd U o U' L rm.cells rm.slots)
theorem ctr {y : MethodName} {bytes : ByteArray} {maxL : Nat} {ret : Option FieldType} {ws : List Cond} {rm : Room} {as : Array Value} {h0 : Heap} (hpn : plainFor y = true)
    (body : ∀ (p : Program) (e : Env) (s : State) (m : MethodId) (below : List Frame) (meth : Method) (c : Code) (s₁ : State), p.tables.exec = Jvm.exec → c.code = bytes → c.maxLocals = maxL → s.vm.findClass y.cls = some m.cls → meth.name = y.name → meth.sig.returnType = ret → meth.locks = false → Z.Warmed39 s.vm →
      Stand p l e rm s m as below meth c s₁ [] 0 0 → s₁.heap = h0 → Goes p e below (EndN s Q rm.cells rm.slots) (s₁.setTop (entryFrame m as maxL))) : Ctr l Z y bytes maxL ret ws rm as h0 Q := by
  refine MetFree.of_bodySF hpn hisR ?_
  intro p e s m args below meth c s₁ Bd hml0 hP hK
  obtain ⟨rfl, hZ, hh⟩ := hP
  exact body p e s m below meth c s₁ Bd.exec Bd.bytes hml0 (findClass_of_methodNamed Bd.named) (name_of_methodNamed Bd.named Bd.method).1 Bd.returns Bd.notSynchronized hZ (Stand.of_body Bd) (by rw [← hh, Bd.state]; rfl)
theorem goCallS (X : Stand p l e R s m args below meth c T locs cells slots) (hx : p.tables.exec = Jvm.exec) (hZ : Z.Warmed39 s.vm) {own : String} {index : Nat} {y : MethodName} {bytes : ByteArray} {maxL : Nat} {ret : Option FieldType} (hown : s.vm.findClass own = some m.cls)
    (w1 : (Cond.methodLink own index y).before a0 Z = true) (w2 : (Cond.static y).before a0 Z = true) (w3 : (Cond.initialized y.cls).before a0 Z = true) (w4 : (Cond.code y bytes maxL ret).before a0 Z = true) (hy : y.cls ≠ "java/lang/invoke/MethodHandle" ∧ y.cls ≠ "java/lang/invoke/VarHandle")
    {rm : Room} {as : Array Value} {Q' : Option Value → Heap → List Loc → Prop} (hM : Ctr l Z y bytes maxL ret [] rm as h Q') (W : Nat) (hf : rm.frames + 1 ≤ R.frames) (hl : W + (maxL + 11) + rm.locals ≤ R.locals) (eT : T.heap = h)
    {pc : Nat} {Ls : Array Slot} {st : List Value} (hsize : Ls.size = c.maxLocals) (argsL rest : List Value) {ps : List FieldType} {rt : Option FieldType} (hpd : parseMethodDescriptor y.desc = some ⟨ps, rt⟩) (hlen : argsL.length = ps.length) (hst : st = argsL.reverse ++ rest) (has : argsL.toArray = as) (hW : (rest.map fun v => v.category).sum ≤ W)
    (hd : decode c.code pc = .ok (.invokestatic index, 3)) (hc : cells + rm.cells ≤ R.cells) (hs : slots + rm.slots ≤ R.slots)
    (k : ∀ T' v L, Stand p l e R s m args below meth c T' (locs ++ L) (cells + rm.cells) (slots + rm.slots) → Q' v T'.heap L → Goes p e below G (T'.setTop (mkF m (pc + 3) Ls (v.toList ++ rest)))) : Goes p e below G (T.setTop (mkF m pc Ls st)) := by
  subst hst
  obtain ⟨v, _, ⟨T', L', k', n'⟩, -, X', ⟨L, hQ, l1, y1, z1⟩, st⟩ := Jvm.LawKit.callS X hx (y := y) hown (mvT hZ w1) (mvT hZ w2) (mvT hZ w3) (mvT hZ w4) hy (backOf (W := W) hM hZ w4 w3 hf hl) (g := mkF m pc Ls (argsL.reverse ++ rest)) rfl hsize (argsL := argsL) (rest := rest) (lenOf hpd hlen) rfl (by show 2 * 0 + _ ≤ _; omega) hd (fun _ _ => ⟨has, eT, hc, hs⟩)
  dsimp only [Pt.U, Pt.locs, Pt.cells, Pt.slots] at X' l1 y1 z1 st hQ
  subst l1 y1 z1
  exact go st (k T' v L X' hQ)
theorem goCallI (X : Stand p l e R s m args below meth c T locs cells slots) (hx : p.tables.exec = Jvm.exec) (hZ : Z.Warmed39 s.vm) {own : String} {index : Nat} {y : MethodName} {bytes : ByteArray} {maxL : Nat} (hy1 : y.name = "<init>") (hown : s.vm.findClass own = some m.cls)
    (w1 : (Cond.methodLink own index y).before a0 Z = true) (w2 : (Cond.instanceMethod y).before a0 Z = true) (w3 : (Cond.initialized y.cls).before a0 Z = true) (w4 : (Cond.code y bytes maxL none).before a0 Z = true) (hy : y.cls ≠ "java/lang/invoke/MethodHandle" ∧ y.cls ≠ "java/lang/invoke/VarHandle")
    {rm : Room} {as : Array Value} {Q' : Option Value → Heap → List Loc → Prop} (hM : Ctr l Z y bytes maxL none [] rm as h Q') (W : Nat) (hf : rm.frames + 1 ≤ R.frames) (hl : W + (maxL + 11) + rm.locals ≤ R.locals) (eT : T.heap = h)
    {pc : Nat} {Ls : Array Slot} {st : List Value} (hsize : Ls.size = c.maxLocals) (a : Addr) (argsL rest : List Value) {ps : List FieldType} {rt : Option FieldType} (hpd : parseMethodDescriptor y.desc = some ⟨ps, rt⟩) (hlen : argsL.length = ps.length) (hst : st = argsL.reverse ++ .ref a :: rest) (has : (.ref a :: argsL).toArray = as) (hW : (rest.map fun v => v.category).sum ≤ W)
    (hd : decode c.code pc = .ok (.invokespecial index, 3)) (hc : cells + rm.cells ≤ R.cells) (hs : slots + rm.slots ≤ R.slots)
    (k : ∀ T' v L, Stand p l e R s m args below meth c T' (locs ++ L) (cells + rm.cells) (slots + rm.slots) → Q' v T'.heap L → Goes p e below G (T'.setTop (mkF m (pc + 3) Ls (v.toList ++ rest)))) : Goes p e below G (T.setTop (mkF m pc Ls st)) := by
  subst hst
  obtain ⟨v, _, ⟨T', L', k', n'⟩, -, X', ⟨L, hQ, l1, y1, z1⟩, st⟩ := X.specialBack hx (y := y) hy1 hown (mvT hZ w1) (mvT hZ w2) (mvT hZ w4) hy (backOf (W := W) hM hZ w4 w3 hf hl) (g := mkF m pc Ls (argsL.reverse ++ .ref a :: rest)) rfl hsize (Steps.refl _) (a := a) (argsL := argsL) (rest := rest) (lenOf hpd hlen) rfl (by show 2 * 0 + _ ≤ _; omega) hd (fun _ _ => ⟨has, eT, hc, hs⟩)
  dsimp only [Pt.U, Pt.locs, Pt.cells, Pt.slots] at X' l1 y1 z1 st hQ
  subst l1 y1 z1
  exact go (fun _ => st.trans) (k T' v L X' hQ)
theorem goCallV (X : Stand p l e R s m args below meth c T locs cells slots) (hx : p.tables.exec = Jvm.exec) (hZ : Z.Warmed39 s.vm) {own C : String} {index : Nat} {y : MethodName} {bytes : ByteArray} {maxL : Nat} {ret : Option FieldType} (hown : s.vm.findClass own = some m.cls)
    (w1 : (Cond.methodLink own index y).before a0 Z = true) (w2 : (Cond.declares y).before a0 Z = true) (w5 : (Cond.selects C y y).before a0 Z = true) (w6 : (Cond.instanceMethod y).before a0 Z = true) (w3 : (Cond.initialized y.cls).before a0 Z = true) (w4 : (Cond.code y bytes maxL ret).before a0 Z = true) (hy : y.cls ≠ "java/lang/invoke/MethodHandle" ∧ y.cls ≠ "java/lang/invoke/VarHandle")
    {rm : Room} {as : Array Value} {Q' : Option Value → Heap → List Loc → Prop} (hM : Ctr l Z y bytes maxL ret [] rm as h Q') (W : Nat) (hf : rm.frames + 1 ≤ R.frames) (hl : W + (maxL + 11) + rm.locals ≤ R.locals) (eT : T.heap = h) {a : Addr} (E : Exa Z h a C)
    {pc : Nat} {Ls : Array Slot} {st : List Value} (hsize : Ls.size = c.maxLocals) (argsL rest : List Value) {ps : List FieldType} {rt : Option FieldType} (hpd : parseMethodDescriptor y.desc = some ⟨ps, rt⟩) (hlen : argsL.length = ps.length) (hst : st = argsL.reverse ++ .ref a :: rest) (has : (.ref a :: argsL).toArray = as) (hW : (rest.map fun v => v.category).sum ≤ W)
    (hd : decode c.code pc = .ok (.invokevirtual index, 3)) (hc : cells + rm.cells ≤ R.cells) (hs : slots + rm.slots ≤ R.slots)
    (k : ∀ T' v L, Stand p l e R s m args below meth c T' (locs ++ L) (cells + rm.cells) (slots + rm.slots) → Q' v T'.heap L → Goes p e below G (T'.setTop (mkF m (pc + 3) Ls (v.toList ++ rest)))) : Goes p e below G (T.setTop (mkF m pc Ls st)) := by
  subst hst
  obtain ⟨cq, kq, qa, qb, qc⟩ := isOf hZ eT E
  obtain ⟨v, _, ⟨T', L', k', n'⟩, -, X', ⟨L, hQ, l1, y1, z1⟩, st⟩ := X.virtualBack hx (y := y) (z := y) hown (mvT hZ w1) (mvT hZ w2) (notFace_of_selects (args := #[]) (mvT hZ w5)) (mvT hZ w5) (mvT hZ w6) hy (backOf (W := W) hM hZ w4 w3 hf hl) qa qc (g := mkF m pc Ls (argsL.reverse ++ .ref a :: rest)) rfl hsize (Steps.refl _) (argsL := argsL) (rest := rest) (lenOf hpd hlen) rfl (by show 2 * 0 + _ ≤ _; omega) hd (fun _ _ => ⟨has, eT, hc, hs⟩)
  dsimp only [Pt.U, Pt.locs, Pt.cells, Pt.slots] at X' l1 y1 z1 st hQ
  subst l1 y1 z1
  exact go (fun _ => st.trans) (k T' v L X' hQ)
theorem goCallP (X : Stand p l e R s m args below meth c T locs cells slots) (hx : p.tables.exec = Jvm.exec) (hZ : Z.Warmed39 s.vm) {own C : String} {index : Nat} {y : MethodName} {bytes : ByteArray} {maxL : Nat} {ret : Option FieldType} (hown : s.vm.findClass own = some m.cls)
    (w1 : (Cond.methodLink own index y).before a0 Z = true) (w2 : (Cond.privateMethod y).before a0 Z = true) (w5 : (Cond.selects y.cls y y).before a0 Z = true) (w6 : (Cond.instanceMethod y).before a0 Z = true) (w3 : (Cond.initialized y.cls).before a0 Z = true) (w4 : (Cond.code y bytes maxL ret).before a0 Z = true) (hy : y.cls ≠ "java/lang/invoke/MethodHandle" ∧ y.cls ≠ "java/lang/invoke/VarHandle")
    {rm : Room} {as : Array Value} {Q' : Option Value → Heap → List Loc → Prop} (hM : Ctr l Z y bytes maxL ret [] rm as h Q') (W : Nat) (hf : rm.frames + 1 ≤ R.frames) (hl : W + (maxL + 11) + rm.locals ≤ R.locals) (eT : T.heap = h) {a : Addr} (E : Exa Z h a C)
    {pc : Nat} {Ls : Array Slot} {st : List Value} (hsize : Ls.size = c.maxLocals) (argsL rest : List Value) {ps : List FieldType} {rt : Option FieldType} (hpd : parseMethodDescriptor y.desc = some ⟨ps, rt⟩) (hlen : argsL.length = ps.length) (hst : st = argsL.reverse ++ .ref a :: rest) (has : (.ref a :: argsL).toArray = as) (hW : (rest.map fun v => v.category).sum ≤ W)
    (hd : decode c.code pc = .ok (.invokevirtual index, 3)) (hc : cells + rm.cells ≤ R.cells) (hs : slots + rm.slots ≤ R.slots)
    (k : ∀ T' v L, Stand p l e R s m args below meth c T' (locs ++ L) (cells + rm.cells) (slots + rm.slots) → Q' v T'.heap L → Goes p e below G (T'.setTop (mkF m (pc + 3) Ls (v.toList ++ rest)))) : Goes p e below G (T.setTop (mkF m pc Ls st)) := by
  subst hst
  obtain ⟨cq, qa, qb⟩ := Exa.cell E
  rw [← eT] at qa
  obtain ⟨v, _, ⟨T', L', k', n'⟩, -, X', ⟨L, hQ, l1, y1, z1⟩, st⟩ := X.privateBack hx (y := y) hown (mvT hZ w1) (mvT hZ w6) (mvT hZ w5) (Cond.privateMethod_at (args := #[]) (mvP hZ w2)) (mvT hZ w4) hy (backOf (W := W) hM hZ w4 w3 hf hl) (g := mkF m pc Ls (argsL.reverse ++ .ref a :: rest)) rfl hsize (Steps.refl _) (a := a) qa qb (argsL := argsL) (rest := rest) (lenOf hpd hlen) rfl (by show 2 * 0 + _ ≤ _; omega) hd (fun _ _ => ⟨has, eT, hc, hs⟩)
  dsimp only [Pt.U, Pt.locs, Pt.cells, Pt.slots] at X' l1 y1 z1 st hQ
  subst l1 y1 z1
  exact go (fun _ => st.trans) (k T' v L X' hQ)
theorem extT {h0 : Heap} (O : Ext h0 h) (E : Ext h h') : Ext h0 h' := ⟨Nat.le_trans O.1 E.1, fun x c q => E.2 x c (O.2 x c q)⟩
theorem extK {h0 : Heap} {ws : List Addr} (O : Ext h0 h) (K : Keep h h' ws) (q : ∀ x ∈ ws, h0.size ≤ x) : Ext h0 h' := ⟨Nat.le_trans O.1 K.1, fun x c r => K.2.1 x c (O.2 x c r) fun z => absurd (Array.getElem?_eq_some_iff.mp r).1 (Nat.not_lt.mpr (q x z))⟩
theorem extW {h0 : Heap} {a : Addr} {sl : Nat} {v : Value} (O : Ext h0 h) (W : Wr h h' a sl v) (q : h0.size ≤ a) : Ext h0 h' := extK O (Keep.of_wr W) (allS q all0)
theorem eqI_v {t : Term} {k : Int32} {first s : State} {o : Option Outcome} {idx : List Nat} {args : Array Value} (h : (Cond.eq t (.int k)).value args first o s idx = some true) : t.eval args first o idx s = some (.int k) := by
  simp only [Cond.value, Term.eval] at h
  cases ht : t.eval args first o idx s with
  | none => simp [ht] at h
  | some x => cases x <;> simp [ht] at h ⊢; exact h
/-- an array with these values -/
def Ary (Z : State) (h : Heap) (a : Addr) (ty : FieldType) (vs : List Value) : Prop := ∃ cl : Cell, Arr Z h a cl ty ∧ cl.slots.toList = vs ∧ vs.length < 2 ^ 31
variable {a b : Addr} {ty : FieldType} {vs : List Value}
theorem Ary.lt (F : Ary Z h a ty vs) : a < h.size := by obtain ⟨c, A, -⟩ := F; exact A.lt
theorem Ary.ext (F : Ary Z h a ty vs) (E : Ext h h') : Ary Z h' a ty vs := by obtain ⟨c, A, r⟩ := F; exact ⟨c, A.ext E, r⟩
theorem Ary.other (F : Ary Z h b ty vs) {sl : Nat} {v : Value} (W : Wr h h' a sl v) (q : b ≠ a) : Ary Z h' b ty vs := by obtain ⟨c, A, r⟩ := F; exact ⟨c, A.other W q, r⟩
theorem Ary.keep (F : Ary Z h a ty vs) {ws : List Addr} (K : Keep h h' ws) (q : a ∉ ws) : Ary Z h' a ty vs := by obtain ⟨c, A, r⟩ := F; exact ⟨c, ⟨K.2.1 a c A.1 q, A.2⟩, r⟩
theorem Ary.set (F : Ary Z h a ty vs) {j : Int32} {v : Value} (W : Wr h h' a j.toNatClampNeg v) {ws : List Value} (e : vs.set j.toNatClampNeg v = ws) : Ary Z h' a ty ws := by
  obtain ⟨c, A, r, q⟩ := F
  refine ⟨_, A.same W, ?_, ?_⟩
  · rw [← e, ← r]; simp [Cell.setSlot]
  · rw [← e, List.length_set]; exact q
theorem Ary.new {cA : ClassId} {n : Int32} (A : Arr Z h a (newA cA ty n) ty) (e : List.replicate n.toNatClampNeg (defaultValue ty) = vs) (q : vs.length < 2 ^ 31) : Ary Z h a ty vs := ⟨_, A, by rw [← e]; simp [newA], q⟩
theorem Ary.inb {cl : Cell} (r : cl.slots.toList = vs) {j : Int32} {v : Value} (hj : ¬ j < 0) (hv : vs[j.toNatClampNeg]? = some v) : ¬ (j < 0 ∨ cl.slots.size ≤ j.toNatClampNeg) := fun q => by
  rcases q with q | q
  · exact hj q
  · subst r
    have := (List.getElem?_eq_some_iff.mp hv).1
    rw [Array.length_toList] at this
    omega
theorem Ary.at {cl : Cell} (r : cl.slots.toList = vs) {j : Int32} {v : Value} (hv : vs[j.toNatClampNeg]? = some v) : cl.slots[j.toNatClampNeg]? = some v := by subst r; simpa using hv
theorem goIaload (X : Stand p l e R s m args below meth c T locs cells slots) (hx : p.tables.exec = Jvm.exec) (hZ : Z.Warmed39 s.vm) (eT : T.heap = h) {vs : List Value} (F : Ary Z h a .int vs) {j x : Int32} {pc : Nat} {Ls : Array Slot} {rest : List Value} (hd : decode c.code pc = .ok (.iaload, 1)) (hj : ¬ j < 0) (hv : vs[j.toNatClampNeg]? = some (.int x))
    (k : Goes p e below G (T.setTop (mkF m (pc + 1) Ls (.int x :: rest)))) : Goes p e below G (T.setTop (mkF m pc Ls (.int j :: .ref a :: rest))) := by
  obtain ⟨cl, A, r, q⟩ := F
  exact go (X.iaload hx (j := j) (v := .int x) (by rw [eT]; exact A.1) (State.isArrayOf_alike hZ.alike A.2.1) A.2.2 (Ary.inb r hj hv) (Ary.at r hv) (g := mkF m pc Ls (.int j :: .ref a :: rest)) rfl rfl hd) k
theorem goBaload (X : Stand p l e R s m args below meth c T locs cells slots) (hx : p.tables.exec = Jvm.exec) (hZ : Z.Warmed39 s.vm) (eT : T.heap = h) {vs : List Value} (F : Ary Z h a .byte vs) {j x : Int32} {pc : Nat} {Ls : Array Slot} {rest : List Value} (hd : decode c.code pc = .ok (.baload, 1)) (hj : ¬ j < 0) (hv : vs[j.toNatClampNeg]? = some (.int x))
    (k : Goes p e below G (T.setTop (mkF m (pc + 1) Ls (.int x :: rest)))) : Goes p e below G (T.setTop (mkF m pc Ls (.int j :: .ref a :: rest))) := by
  obtain ⟨cl, A, r, q⟩ := F
  exact go (X.baloadBytes hx (j := j) (v := .int x) (by rw [eT]; exact A.1) (State.isArrayOf_alike hZ.alike A.2.1) A.2.2 (Ary.inb r hj hv) (Ary.at r hv) (g := mkF m pc Ls (.int j :: .ref a :: rest)) rfl rfl hd) k
theorem goZaload (X : Stand p l e R s m args below meth c T locs cells slots) (hx : p.tables.exec = Jvm.exec) (hZ : Z.Warmed39 s.vm) (eT : T.heap = h) {vs : List Value} (F : Ary Z h a .boolean vs) {j x : Int32} {pc : Nat} {Ls : Array Slot} {rest : List Value} (hd : decode c.code pc = .ok (.baload, 1)) (hj : ¬ j < 0) (hv : vs[j.toNatClampNeg]? = some (.int x))
    (k : Goes p e below G (T.setTop (mkF m (pc + 1) Ls (.int x :: rest)))) : Goes p e below G (T.setTop (mkF m pc Ls (.int j :: .ref a :: rest))) := by
  obtain ⟨cl, A, r, q⟩ := F
  exact go (X.baloadBooleans hx (j := j) (v := .int x) (by rw [eT]; exact A.1) (State.isArrayOf_alike hZ.alike A.2.1) A.2.2 (Ary.inb r hj hv) (Ary.at r hv) (g := mkF m pc Ls (.int j :: .ref a :: rest)) rfl rfl hd) k
theorem goCaload (X : Stand p l e R s m args below meth c T locs cells slots) (hx : p.tables.exec = Jvm.exec) (hZ : Z.Warmed39 s.vm) (eT : T.heap = h) {vs : List Value} (F : Ary Z h a .char vs) {j x : Int32} {pc : Nat} {Ls : Array Slot} {rest : List Value} (hd : decode c.code pc = .ok (.caload, 1)) (hj : ¬ j < 0) (hv : vs[j.toNatClampNeg]? = some (.int x))
    (k : Goes p e below G (T.setTop (mkF m (pc + 1) Ls (.int x :: rest)))) : Goes p e below G (T.setTop (mkF m pc Ls (.int j :: .ref a :: rest))) := by
  obtain ⟨cl, A, r, q⟩ := F
  exact go (X.caload hx (j := j) (v := .int x) (by rw [eT]; exact A.1) (State.isArrayOf_alike hZ.alike A.2.1) A.2.2 (Ary.inb r hj hv) (Ary.at r hv) (g := mkF m pc Ls (.int j :: .ref a :: rest)) rfl rfl hd) k
theorem goLaload (X : Stand p l e R s m args below meth c T locs cells slots) (hx : p.tables.exec = Jvm.exec) (hZ : Z.Warmed39 s.vm) (eT : T.heap = h) {vs : List Value} (F : Ary Z h a .long vs) {j : Int32} {x : Int64} {pc : Nat} {Ls : Array Slot} {rest : List Value} (hd : decode c.code pc = .ok (.laload, 1)) (hj : ¬ j < 0) (hv : vs[j.toNatClampNeg]? = some (.long x))
    (k : Goes p e below G (T.setTop (mkF m (pc + 1) Ls (.long x :: rest)))) : Goes p e below G (T.setTop (mkF m pc Ls (.int j :: .ref a :: rest))) := by
  obtain ⟨cl, A, r, q⟩ := F
  exact go (X.laload hx (j := j) (v := .long x) (by rw [eT]; exact A.1) (State.isArrayOf_alike hZ.alike A.2.1) A.2.2 (Ary.inb r hj hv) (Ary.at r hv) (g := mkF m pc Ls (.int j :: .ref a :: rest)) rfl rfl hd) k
theorem goAlen (X : Stand p l e R s m args below meth c T locs cells slots) (hx : p.tables.exec = Jvm.exec) (hZ : Z.Warmed39 s.vm) (eT : T.heap = h) {vs : List Value} (F : Ary Z h a ty vs) {n : Int32} {pc : Nat} {Ls : Array Slot} {rest : List Value} (hd : decode c.code pc = .ok (.arraylength, 1)) (hn : vs.length.toInt32 = n)
    (k : Goes p e below G (T.setTop (mkF m (pc + 1) Ls (.int n :: rest)))) : Goes p e below G (T.setTop (mkF m pc Ls (.ref a :: rest))) := by
  obtain ⟨cl, A, r, q⟩ := F
  have e1 : cl.slots.size.toInt32 = n := by rw [← hn, ← r, Array.length_toList]
  refine go (X.arraylength hx (cell := cl) (by rw [eT]; exact A.1) (State.isArrayOf_alike hZ.alike A.2.1) (g := mkF m pc Ls (.ref a :: rest)) rfl (rest := rest) rfl hd) ?_
  rw [e1]
  exact k
theorem goIastore (X : Stand p l e R s m args below meth c T locs cells slots) (hx : p.tables.exec = Jvm.exec) (hZ : Z.Warmed39 s.vm) (eT : T.heap = h) {vs : List Value} (F : Ary Z h a .int vs) {j x : Int32} {v : Value} {pc : Nat} {Ls : Array Slot} {rest : List Value} (hd : decode c.code pc = .ok (.iastore, 1)) (hj : ¬ j < 0) (hv : vs[j.toNatClampNeg]? = some v)
    (k : ∀ T' h', Stand p l e R s m args below meth c T' (locs ++ [⟨a, j.toNatClampNeg⟩]) cells slots → T'.heap = h' → Wr h h' a j.toNatClampNeg (.int x) → Goes p e below G (T'.setTop (mkF m (pc + 1) Ls rest))) : Goes p e below G (T.setTop (mkF m pc Ls (.int x :: .int j :: .ref a :: rest))) := by
  obtain ⟨cl, A, r, q⟩ := F
  obtain ⟨T', h', X', e', W', st⟩ := stI X hx hZ eT A (j := j) (x := x) (Ary.inb r hj hv) (g := mkF m pc Ls (.int x :: .int j :: .ref a :: rest)) rfl rfl hd
  exact go st (k T' h' X' e' W')
theorem goLastore (X : Stand p l e R s m args below meth c T locs cells slots) (hx : p.tables.exec = Jvm.exec) (hZ : Z.Warmed39 s.vm) (eT : T.heap = h) {vs : List Value} (F : Ary Z h a .long vs) {j : Int32} {x : Int64} {v : Value} {pc : Nat} {Ls : Array Slot} {rest : List Value} (hd : decode c.code pc = .ok (.lastore, 1)) (hj : ¬ j < 0) (hv : vs[j.toNatClampNeg]? = some v)
    (k : ∀ T' h', Stand p l e R s m args below meth c T' (locs ++ [⟨a, j.toNatClampNeg⟩]) cells slots → T'.heap = h' → Wr h h' a j.toNatClampNeg (.long x) → Goes p e below G (T'.setTop (mkF m (pc + 1) Ls rest))) : Goes p e below G (T.setTop (mkF m pc Ls (.long x :: .int j :: .ref a :: rest))) := by
  obtain ⟨cl, A, r, q⟩ := F
  obtain ⟨T', h', X', e', W', st⟩ := stJ X hx hZ eT A (j := j) (x := x) (Ary.inb r hj hv) (g := mkF m pc Ls (.long x :: .int j :: .ref a :: rest)) rfl rfl hd
  exact go st (k T' h' X' e' W')
theorem goBastore (X : Stand p l e R s m args below meth c T locs cells slots) (hx : p.tables.exec = Jvm.exec) (hZ : Z.Warmed39 s.vm) (eT : T.heap = h) {vs : List Value} (F : Ary Z h a .byte vs) {j x : Int32} {v : Value} {pc : Nat} {Ls : Array Slot} {rest : List Value} (hd : decode c.code pc = .ok (.bastore, 1)) (hj : ¬ j < 0) (hv : vs[j.toNatClampNeg]? = some v)
    (k : ∀ T' h', Stand p l e R s m args below meth c T' (locs ++ [⟨a, j.toNatClampNeg⟩]) cells slots → T'.heap = h' → Wr h h' a j.toNatClampNeg (.int (nar .byte x)) → Goes p e below G (T'.setTop (mkF m (pc + 1) Ls rest))) : Goes p e below G (T.setTop (mkF m pc Ls (.int x :: .int j :: .ref a :: rest))) := by
  obtain ⟨cl, A, r, q⟩ := F
  obtain ⟨T', h', X', e', W', st⟩ := stB X hx hZ eT A (j := j) (x := x) (Ary.inb r hj hv) (g := mkF m pc Ls (.int x :: .int j :: .ref a :: rest)) rfl rfl hd
  exact go st (k T' h' X' e' W')
theorem goZastore (X : Stand p l e R s m args below meth c T locs cells slots) (hx : p.tables.exec = Jvm.exec) (hZ : Z.Warmed39 s.vm) (eT : T.heap = h) {vs : List Value} (F : Ary Z h a .boolean vs) {j x : Int32} {v : Value} {pc : Nat} {Ls : Array Slot} {rest : List Value} (hd : decode c.code pc = .ok (.bastore, 1)) (hj : ¬ j < 0) (hv : vs[j.toNatClampNeg]? = some v)
    (k : ∀ T' h', Stand p l e R s m args below meth c T' (locs ++ [⟨a, j.toNatClampNeg⟩]) cells slots → T'.heap = h' → Wr h h' a j.toNatClampNeg (.int (nar .boolean x)) → Goes p e below G (T'.setTop (mkF m (pc + 1) Ls rest))) : Goes p e below G (T.setTop (mkF m pc Ls (.int x :: .int j :: .ref a :: rest))) := by
  obtain ⟨cl, A, r, q⟩ := F
  obtain ⟨T', h', X', e', W', st⟩ := stZ X hx hZ eT A (j := j) (x := x) (Ary.inb r hj hv) (g := mkF m pc Ls (.int x :: .int j :: .ref a :: rest)) rfl rfl hd
  exact go st (k T' h' X' e' W')
theorem goCastore (X : Stand p l e R s m args below meth c T locs cells slots) (hx : p.tables.exec = Jvm.exec) (hZ : Z.Warmed39 s.vm) (eT : T.heap = h) {vs : List Value} (F : Ary Z h a .char vs) {j x : Int32} {v : Value} {pc : Nat} {Ls : Array Slot} {rest : List Value} (hd : decode c.code pc = .ok (.castore, 1)) (hj : ¬ j < 0) (hv : vs[j.toNatClampNeg]? = some v)
    (k : ∀ T' h', Stand p l e R s m args below meth c T' (locs ++ [⟨a, j.toNatClampNeg⟩]) cells slots → T'.heap = h' → Wr h h' a j.toNatClampNeg (.int (nar .char x)) → Goes p e below G (T'.setTop (mkF m (pc + 1) Ls rest))) : Goes p e below G (T.setTop (mkF m pc Ls (.int x :: .int j :: .ref a :: rest))) := by
  obtain ⟨cl, A, r, q⟩ := F
  obtain ⟨T', h', X', e', W', st⟩ := stC X hx hZ eT A (j := j) (x := x) (Ary.inb r hj hv) (g := mkF m pc Ls (.int x :: .int j :: .ref a :: rest)) rfl rfl hd
  exact go st (k T' h' X' e' W')
theorem narb (x : Int32) : nar .byte x.toInt8.toInt32 = x.toInt8.toInt32 := by simp [nar]
theorem narc (x : Int32) : nar .char x.toUInt32.toUInt16.toUInt32.toInt32 = x.toUInt32.toUInt16.toUInt32.toInt32 := by simp only [nar, UInt32.toUInt32_toInt32, UInt16.toUInt16_toUInt32]
theorem gIload (X : Stand p l e R s m args below meth c T locs cells slots) (hx : p.tables.exec = Jvm.exec) {pc : Nat} {Ls : Array Slot} {st : List Value} {k : Nat} {v : Int32} (hd : decode c.code pc = .ok (.iload k, 2)) (hl : Ls[k]? = some (.val (.int v))) (K : Goes p e below G (T.setTop (mkF m (pc + 2) Ls (.int v :: st)))) : Goes p e below G (T.setTop (mkF m pc Ls (st))) :=
  go (fun _ q => XS.iload (g := mkF m pc Ls (st)) X.here hx rfl hd hl q) K
theorem gIloadN (X : Stand p l e R s m args below meth c T locs cells slots) (hx : p.tables.exec = Jvm.exec) {pc : Nat} {Ls : Array Slot} {st : List Value} {k : Fin 4} {v : Int32} (hd : decode c.code pc = .ok (.iload_n k, 1)) (hl : Ls[k.val]? = some (.val (.int v))) (K : Goes p e below G (T.setTop (mkF m (pc + 1) Ls (.int v :: st)))) : Goes p e below G (T.setTop (mkF m pc Ls (st))) :=
  go (fun _ q => XS.iloadN (g := mkF m pc Ls (st)) X.here hx rfl hd hl q) K
theorem gIstore (X : Stand p l e R s m args below meth c T locs cells slots) (hx : p.tables.exec = Jvm.exec) {pc : Nat} {Ls : Array Slot} {st : List Value} {k : Nat} {v : Int32} {l' : Array Slot} (hd : decode c.code pc = .ok (.istore k, 2)) (hl : storeLocals Ls k (.int v) = some l') (K : Goes p e below G (T.setTop (mkF m (pc + 2) l' (st)))) : Goes p e below G (T.setTop (mkF m pc Ls (.int v :: st))) :=
  go (fun _ q => XS.istore (g := mkF m pc Ls (.int v :: st)) X.here hx rfl hd rfl hl q) K
theorem gIstoreN (X : Stand p l e R s m args below meth c T locs cells slots) (hx : p.tables.exec = Jvm.exec) {pc : Nat} {Ls : Array Slot} {st : List Value} {k : Fin 4} {v : Int32} {l' : Array Slot} (hd : decode c.code pc = .ok (.istore_n k, 1)) (hl : storeLocals Ls k.val (.int v) = some l') (K : Goes p e below G (T.setTop (mkF m (pc + 1) l' (st)))) : Goes p e below G (T.setTop (mkF m pc Ls (.int v :: st))) :=
  go (fun _ q => XS.istoreN (g := mkF m pc Ls (.int v :: st)) X.here hx rfl hd rfl hl q) K
theorem gLload (X : Stand p l e R s m args below meth c T locs cells slots) (hx : p.tables.exec = Jvm.exec) {pc : Nat} {Ls : Array Slot} {st : List Value} {k : Nat} {v : Int64} (hd : decode c.code pc = .ok (.lload k, 2)) (hl : Ls[k]? = some (.val (.long v))) (K : Goes p e below G (T.setTop (mkF m (pc + 2) Ls (.long v :: st)))) : Goes p e below G (T.setTop (mkF m pc Ls (st))) :=
  go (fun _ q => XT.lload (g := mkF m pc Ls (st)) X.here hx rfl hd hl q) K
theorem gLloadN (X : Stand p l e R s m args below meth c T locs cells slots) (hx : p.tables.exec = Jvm.exec) {pc : Nat} {Ls : Array Slot} {st : List Value} {k : Fin 4} {v : Int64} (hd : decode c.code pc = .ok (.lload_n k, 1)) (hl : Ls[k.val]? = some (.val (.long v))) (K : Goes p e below G (T.setTop (mkF m (pc + 1) Ls (.long v :: st)))) : Goes p e below G (T.setTop (mkF m pc Ls (st))) :=
  go (fun _ q => XT.lloadN (g := mkF m pc Ls (st)) X.here hx rfl hd hl q) K
theorem gLstore (X : Stand p l e R s m args below meth c T locs cells slots) (hx : p.tables.exec = Jvm.exec) {pc : Nat} {Ls : Array Slot} {st : List Value} {k : Nat} {v : Int64} {l' : Array Slot} (hd : decode c.code pc = .ok (.lstore k, 2)) (hl : storeLocals Ls k (.long v) = some l') (K : Goes p e below G (T.setTop (mkF m (pc + 2) l' (st)))) : Goes p e below G (T.setTop (mkF m pc Ls (.long v :: st))) :=
  go (fun _ q => XT.lstore (g := mkF m pc Ls (.long v :: st)) X.here hx rfl hd rfl hl q) K
theorem gLstoreN (X : Stand p l e R s m args below meth c T locs cells slots) (hx : p.tables.exec = Jvm.exec) {pc : Nat} {Ls : Array Slot} {st : List Value} {k : Fin 4} {v : Int64} {l' : Array Slot} (hd : decode c.code pc = .ok (.lstore_n k, 1)) (hl : storeLocals Ls k.val (.long v) = some l') (K : Goes p e below G (T.setTop (mkF m (pc + 1) l' (st)))) : Goes p e below G (T.setTop (mkF m pc Ls (.long v :: st))) :=
  go (fun _ q => XT.lstoreN (g := mkF m pc Ls (.long v :: st)) X.here hx rfl hd rfl hl q) K
theorem gDload (X : Stand p l e R s m args below meth c T locs cells slots) (hx : p.tables.exec = Jvm.exec) {pc : Nat} {Ls : Array Slot} {st : List Value} {k : Nat} {v : UInt64} (hd : decode c.code pc = .ok (.dload k, 2)) (hl : Ls[k]? = some (.val (.double v))) (K : Goes p e below G (T.setTop (mkF m (pc + 2) Ls (.double v :: st)))) : Goes p e below G (T.setTop (mkF m pc Ls (st))) :=
  go (fun _ q => XS.dload (g := mkF m pc Ls (st)) X.here hx rfl hd hl q) K
theorem gDloadN (X : Stand p l e R s m args below meth c T locs cells slots) (hx : p.tables.exec = Jvm.exec) {pc : Nat} {Ls : Array Slot} {st : List Value} {k : Fin 4} {v : UInt64} (hd : decode c.code pc = .ok (.dload_n k, 1)) (hl : Ls[k.val]? = some (.val (.double v))) (K : Goes p e below G (T.setTop (mkF m (pc + 1) Ls (.double v :: st)))) : Goes p e below G (T.setTop (mkF m pc Ls (st))) :=
  go (fun _ q => XS.dloadN (g := mkF m pc Ls (st)) X.here hx rfl hd hl q) K
theorem gDstore (X : Stand p l e R s m args below meth c T locs cells slots) (hx : p.tables.exec = Jvm.exec) {pc : Nat} {Ls : Array Slot} {st : List Value} {k : Nat} {v : UInt64} {l' : Array Slot} (hd : decode c.code pc = .ok (.dstore k, 2)) (hl : storeLocals Ls k (.double v) = some l') (K : Goes p e below G (T.setTop (mkF m (pc + 2) l' (st)))) : Goes p e below G (T.setTop (mkF m pc Ls (.double v :: st))) :=
  go (fun _ q => XS.dstore (g := mkF m pc Ls (.double v :: st)) X.here hx rfl hd rfl hl q) K
theorem gDstoreN (X : Stand p l e R s m args below meth c T locs cells slots) (hx : p.tables.exec = Jvm.exec) {pc : Nat} {Ls : Array Slot} {st : List Value} {k : Fin 4} {v : UInt64} {l' : Array Slot} (hd : decode c.code pc = .ok (.dstore_n k, 1)) (hl : storeLocals Ls k.val (.double v) = some l') (K : Goes p e below G (T.setTop (mkF m (pc + 1) l' (st)))) : Goes p e below G (T.setTop (mkF m pc Ls (.double v :: st))) :=
  go (fun _ q => XS.dstoreN (g := mkF m pc Ls (.double v :: st)) X.here hx rfl hd rfl hl q) K
theorem gAload (X : Stand p l e R s m args below meth c T locs cells slots) (hx : p.tables.exec = Jvm.exec) {pc : Nat} {Ls : Array Slot} {st : List Value} {k : Nat} {v : Value} (hd : decode c.code pc = .ok (.aload k, 2)) (hl : Ls[k]? = some (.val v)) (hv : v.isRef = true) (K : Goes p e below G (T.setTop (mkF m (pc + 2) Ls (v :: st)))) : Goes p e below G (T.setTop (mkF m pc Ls (st))) :=
  go (fun _ q => XS.aload (g := mkF m pc Ls (st)) X.here hx rfl hd hl hv q) K
theorem gAloadN (X : Stand p l e R s m args below meth c T locs cells slots) (hx : p.tables.exec = Jvm.exec) {pc : Nat} {Ls : Array Slot} {st : List Value} {k : Fin 4} {v : Value} (hd : decode c.code pc = .ok (.aload_n k, 1)) (hl : Ls[k.val]? = some (.val v)) (hv : v.isRef = true) (K : Goes p e below G (T.setTop (mkF m (pc + 1) Ls (v :: st)))) : Goes p e below G (T.setTop (mkF m pc Ls (st))) :=
  go (fun _ q => XS.aloadN (g := mkF m pc Ls (st)) X.here hx rfl hd hl hv q) K
theorem gAstore (X : Stand p l e R s m args below meth c T locs cells slots) (hx : p.tables.exec = Jvm.exec) {pc : Nat} {Ls : Array Slot} {st : List Value} {k : Nat} {v : Value} {l' : Array Slot} (hd : decode c.code pc = .ok (.astore k, 2)) (hv : v.isRef = true) (hl : storeLocals Ls k v = some l') (K : Goes p e below G (T.setTop (mkF m (pc + 2) l' (st)))) : Goes p e below G (T.setTop (mkF m pc Ls (v :: st))) :=
  go (fun _ q => XS.astore (g := mkF m pc Ls (v :: st)) X.here hx rfl hd rfl hv hl q) K
theorem gAstoreN (X : Stand p l e R s m args below meth c T locs cells slots) (hx : p.tables.exec = Jvm.exec) {pc : Nat} {Ls : Array Slot} {st : List Value} {k : Fin 4} {v : Value} {l' : Array Slot} (hd : decode c.code pc = .ok (.astore_n k, 1)) (hv : v.isRef = true) (hl : storeLocals Ls k.val v = some l') (K : Goes p e below G (T.setTop (mkF m (pc + 1) l' (st)))) : Goes p e below G (T.setTop (mkF m pc Ls (v :: st))) :=
  go (fun _ q => XS.astoreN (g := mkF m pc Ls (v :: st)) X.here hx rfl hd rfl hv hl q) K
theorem gIstoreS (X : Stand p l e R s m args below meth c T locs cells slots) (hx : p.tables.exec = Jvm.exec) {pc : Nat} {Ls : Array Slot} {st : List Value} {k : Nat} {v : Int32} {o : Slot} (hd : decode c.code pc = .ok (.istore k, 2)) (hold : Ls[k]? = some o) (ho : o = .unset ∨ ∃ w, o = .val w ∧ w.category = 1) (K : Goes p e below G (T.setTop (mkF m (pc + 2) (Ls.setIfInBounds k (.val (.int v))) (st)))) : Goes p e below G (T.setTop (mkF m pc Ls (.int v :: st))) :=
  go (fun _ q => XS.istoreS (g := mkF m pc Ls (.int v :: st)) X.here hx rfl hd rfl hold ho q) K
theorem gIconst (X : Stand p l e R s m args below meth c T locs cells slots) (hx : p.tables.exec = Jvm.exec) {pc : Nat} {Ls : Array Slot} {st : List Value} {i : Int} {v : Int32} (hd : decode c.code pc = .ok (.iconst i, 1)) (hv : Int32.ofInt i = v) (K : Goes p e below G (T.setTop (mkF m (pc + 1) Ls (.int v :: st)))) : Goes p e below G (T.setTop (mkF m pc Ls st)) := by
  subst hv
  exact go (fun _ q => XS.iconst (g := mkF m pc Ls st) X.here hx rfl hd q) K
theorem gBipush (X : Stand p l e R s m args below meth c T locs cells slots) (hx : p.tables.exec = Jvm.exec) {pc : Nat} {Ls : Array Slot} {st : List Value} {i : Int} {v : Int32} (hd : decode c.code pc = .ok (.bipush i, 2)) (hv : (Int8.ofInt i).toInt32 = v) (K : Goes p e below G (T.setTop (mkF m (pc + 2) Ls (.int v :: st)))) : Goes p e below G (T.setTop (mkF m pc Ls st)) := by
  subst hv
  exact go (fun _ q => XS.bipush (g := mkF m pc Ls st) X.here hx rfl hd q) K
theorem gSipush (X : Stand p l e R s m args below meth c T locs cells slots) (hx : p.tables.exec = Jvm.exec) {pc : Nat} {Ls : Array Slot} {st : List Value} {i : Int} {v : Int32} (hd : decode c.code pc = .ok (.sipush i, 3)) (hv : (Int16.ofInt i).toInt32 = v) (K : Goes p e below G (T.setTop (mkF m (pc + 3) Ls (.int v :: st)))) : Goes p e below G (T.setTop (mkF m pc Ls st)) := by
  subst hv
  exact go (fun _ q => XS.sipush (g := mkF m pc Ls st) X.here hx rfl hd q) K
theorem gLconst (X : Stand p l e R s m args below meth c T locs cells slots) (hx : p.tables.exec = Jvm.exec) {pc : Nat} {Ls : Array Slot} {st : List Value} {i : Fin 2} {v : Int64} (hd : decode c.code pc = .ok (.lconst i, 1)) (hv : Int64.ofNat i = v) (K : Goes p e below G (T.setTop (mkF m (pc + 1) Ls (.long v :: st)))) : Goes p e below G (T.setTop (mkF m pc Ls st)) := by
  subst hv
  exact go (fun _ q => XT.lconst (g := mkF m pc Ls st) X.here hx rfl hd q) K
theorem gAnull (X : Stand p l e R s m args below meth c T locs cells slots) (hx : p.tables.exec = Jvm.exec) {pc : Nat} {Ls : Array Slot} {st : List Value}  (hd : decode c.code pc = .ok (.aconst_null, 1))  (K : Goes p e below G (T.setTop (mkF m (pc + 1) Ls (.null :: st)))) : Goes p e below G (T.setTop (mkF m pc Ls (st))) :=
  go (fun _ q => XS.aconstNull (g := mkF m pc Ls (st)) X.here hx rfl hd  q) K
theorem gDconst0 (X : Stand p l e R s m args below meth c T locs cells slots) (hx : p.tables.exec = Jvm.exec) {pc : Nat} {Ls : Array Slot} {st : List Value}  (hd : decode c.code pc = .ok (.dconst 0, 1))  (K : Goes p e below G (T.setTop (mkF m (pc + 1) Ls (.double FP.dconst0 :: st)))) : Goes p e below G (T.setTop (mkF m pc Ls (st))) :=
  go (fun _ q => XS.dconst0 (g := mkF m pc Ls (st)) X.here hx rfl hd rfl q) K
theorem gDconst1 (X : Stand p l e R s m args below meth c T locs cells slots) (hx : p.tables.exec = Jvm.exec) {pc : Nat} {Ls : Array Slot} {st : List Value}  (hd : decode c.code pc = .ok (.dconst 1, 1))  (K : Goes p e below G (T.setTop (mkF m (pc + 1) Ls (.double FP.dconst1 :: st)))) : Goes p e below G (T.setTop (mkF m pc Ls (st))) :=
  go (fun _ q => XS.dconst1 (g := mkF m pc Ls (st)) X.here hx rfl hd rfl q) K
theorem gIadd (X : Stand p l e R s m args below meth c T locs cells slots) (hx : p.tables.exec = Jvm.exec) {pc : Nat} {Ls : Array Slot} {st : List Value} {x y : Int32} (hd : decode c.code pc = .ok (.iadd, 1))  (K : Goes p e below G (T.setTop (mkF m (pc + 1) Ls (.int (x + y) :: st)))) : Goes p e below G (T.setTop (mkF m pc Ls (.int y :: .int x :: st))) :=
  go (fun _ q => XS.iadd (g := mkF m pc Ls (.int y :: .int x :: st)) X.here hx rfl hd rfl q) K
theorem gIsub (X : Stand p l e R s m args below meth c T locs cells slots) (hx : p.tables.exec = Jvm.exec) {pc : Nat} {Ls : Array Slot} {st : List Value} {x y : Int32} (hd : decode c.code pc = .ok (.isub, 1))  (K : Goes p e below G (T.setTop (mkF m (pc + 1) Ls (.int (x - y) :: st)))) : Goes p e below G (T.setTop (mkF m pc Ls (.int y :: .int x :: st))) :=
  go (fun _ q => XS.isub (g := mkF m pc Ls (.int y :: .int x :: st)) X.here hx rfl hd rfl q) K
theorem gImul (X : Stand p l e R s m args below meth c T locs cells slots) (hx : p.tables.exec = Jvm.exec) {pc : Nat} {Ls : Array Slot} {st : List Value} {x y : Int32} (hd : decode c.code pc = .ok (.imul, 1))  (K : Goes p e below G (T.setTop (mkF m (pc + 1) Ls (.int (x * y) :: st)))) : Goes p e below G (T.setTop (mkF m pc Ls (.int y :: .int x :: st))) :=
  go (fun _ q => XS.imul (g := mkF m pc Ls (.int y :: .int x :: st)) X.here hx rfl hd rfl q) K
theorem gIand (X : Stand p l e R s m args below meth c T locs cells slots) (hx : p.tables.exec = Jvm.exec) {pc : Nat} {Ls : Array Slot} {st : List Value} {x y : Int32} (hd : decode c.code pc = .ok (.iand, 1))  (K : Goes p e below G (T.setTop (mkF m (pc + 1) Ls (.int (x &&& y) :: st)))) : Goes p e below G (T.setTop (mkF m pc Ls (.int y :: .int x :: st))) :=
  go (fun _ q => XS.iand (g := mkF m pc Ls (.int y :: .int x :: st)) X.here hx rfl hd rfl q) K
theorem gIor (X : Stand p l e R s m args below meth c T locs cells slots) (hx : p.tables.exec = Jvm.exec) {pc : Nat} {Ls : Array Slot} {st : List Value} {x y : Int32} (hd : decode c.code pc = .ok (.ior, 1))  (K : Goes p e below G (T.setTop (mkF m (pc + 1) Ls (.int (x ||| y) :: st)))) : Goes p e below G (T.setTop (mkF m pc Ls (.int y :: .int x :: st))) :=
  go (fun _ q => XT.ior (g := mkF m pc Ls (.int y :: .int x :: st)) X.here hx rfl hd rfl q) K
theorem gIxor (X : Stand p l e R s m args below meth c T locs cells slots) (hx : p.tables.exec = Jvm.exec) {pc : Nat} {Ls : Array Slot} {st : List Value} {x y : Int32} (hd : decode c.code pc = .ok (.ixor, 1))  (K : Goes p e below G (T.setTop (mkF m (pc + 1) Ls (.int (x ^^^ y) :: st)))) : Goes p e below G (T.setTop (mkF m pc Ls (.int y :: .int x :: st))) :=
  go (fun _ q => XT.ixor (g := mkF m pc Ls (.int y :: .int x :: st)) X.here hx rfl hd rfl q) K
theorem gIshl (X : Stand p l e R s m args below meth c T locs cells slots) (hx : p.tables.exec = Jvm.exec) {pc : Nat} {Ls : Array Slot} {st : List Value} {x y : Int32} (hd : decode c.code pc = .ok (.ishl, 1))  (K : Goes p e below G (T.setTop (mkF m (pc + 1) Ls (.int (x <<< (y &&& 31)) :: st)))) : Goes p e below G (T.setTop (mkF m pc Ls (.int y :: .int x :: st))) :=
  go (fun _ q => XT.ishl (g := mkF m pc Ls (.int y :: .int x :: st)) X.here hx rfl hd rfl q) K
theorem gIshr (X : Stand p l e R s m args below meth c T locs cells slots) (hx : p.tables.exec = Jvm.exec) {pc : Nat} {Ls : Array Slot} {st : List Value} {x y : Int32} (hd : decode c.code pc = .ok (.ishr, 1))  (K : Goes p e below G (T.setTop (mkF m (pc + 1) Ls (.int (x >>> (y &&& 31)) :: st)))) : Goes p e below G (T.setTop (mkF m pc Ls (.int y :: .int x :: st))) :=
  go (fun _ q => XT.ishr (g := mkF m pc Ls (.int y :: .int x :: st)) X.here hx rfl hd rfl q) K
theorem gIushr (X : Stand p l e R s m args below meth c T locs cells slots) (hx : p.tables.exec = Jvm.exec) {pc : Nat} {Ls : Array Slot} {st : List Value} {x y : Int32} (hd : decode c.code pc = .ok (.iushr, 1))  (K : Goes p e below G (T.setTop (mkF m (pc + 1) Ls (.int (XT.ushr x y) :: st)))) : Goes p e below G (T.setTop (mkF m pc Ls (.int y :: .int x :: st))) :=
  go (fun _ q => XT.iushr (g := mkF m pc Ls (.int y :: .int x :: st)) X.here hx rfl hd rfl q) K
theorem gLadd (X : Stand p l e R s m args below meth c T locs cells slots) (hx : p.tables.exec = Jvm.exec) {pc : Nat} {Ls : Array Slot} {st : List Value} {x y : Int64} (hd : decode c.code pc = .ok (.ladd, 1))  (K : Goes p e below G (T.setTop (mkF m (pc + 1) Ls (.long (x + y) :: st)))) : Goes p e below G (T.setTop (mkF m pc Ls (.long y :: .long x :: st))) :=
  go (fun _ q => XT.ladd (g := mkF m pc Ls (.long y :: .long x :: st)) X.here hx rfl hd rfl q) K
theorem gLsub (X : Stand p l e R s m args below meth c T locs cells slots) (hx : p.tables.exec = Jvm.exec) {pc : Nat} {Ls : Array Slot} {st : List Value} {x y : Int64} (hd : decode c.code pc = .ok (.lsub, 1))  (K : Goes p e below G (T.setTop (mkF m (pc + 1) Ls (.long (x - y) :: st)))) : Goes p e below G (T.setTop (mkF m pc Ls (.long y :: .long x :: st))) :=
  go (fun _ q => XT.lsub (g := mkF m pc Ls (.long y :: .long x :: st)) X.here hx rfl hd rfl q) K
theorem gLmul (X : Stand p l e R s m args below meth c T locs cells slots) (hx : p.tables.exec = Jvm.exec) {pc : Nat} {Ls : Array Slot} {st : List Value} {x y : Int64} (hd : decode c.code pc = .ok (.lmul, 1))  (K : Goes p e below G (T.setTop (mkF m (pc + 1) Ls (.long (x * y) :: st)))) : Goes p e below G (T.setTop (mkF m pc Ls (.long y :: .long x :: st))) :=
  go (fun _ q => XT.lmul (g := mkF m pc Ls (.long y :: .long x :: st)) X.here hx rfl hd rfl q) K
theorem gLand (X : Stand p l e R s m args below meth c T locs cells slots) (hx : p.tables.exec = Jvm.exec) {pc : Nat} {Ls : Array Slot} {st : List Value} {x y : Int64} (hd : decode c.code pc = .ok (.land, 1))  (K : Goes p e below G (T.setTop (mkF m (pc + 1) Ls (.long (x &&& y) :: st)))) : Goes p e below G (T.setTop (mkF m pc Ls (.long y :: .long x :: st))) :=
  go (fun _ q => XT.land (g := mkF m pc Ls (.long y :: .long x :: st)) X.here hx rfl hd rfl q) K
theorem gLor (X : Stand p l e R s m args below meth c T locs cells slots) (hx : p.tables.exec = Jvm.exec) {pc : Nat} {Ls : Array Slot} {st : List Value} {x y : Int64} (hd : decode c.code pc = .ok (.lor, 1))  (K : Goes p e below G (T.setTop (mkF m (pc + 1) Ls (.long (x ||| y) :: st)))) : Goes p e below G (T.setTop (mkF m pc Ls (.long y :: .long x :: st))) :=
  go (fun _ q => XT.lor (g := mkF m pc Ls (.long y :: .long x :: st)) X.here hx rfl hd rfl q) K
theorem gLxor (X : Stand p l e R s m args below meth c T locs cells slots) (hx : p.tables.exec = Jvm.exec) {pc : Nat} {Ls : Array Slot} {st : List Value} {x y : Int64} (hd : decode c.code pc = .ok (.lxor, 1))  (K : Goes p e below G (T.setTop (mkF m (pc + 1) Ls (.long (x ^^^ y) :: st)))) : Goes p e below G (T.setTop (mkF m pc Ls (.long y :: .long x :: st))) :=
  go (fun _ q => XT.lxor (g := mkF m pc Ls (.long y :: .long x :: st)) X.here hx rfl hd rfl q) K
theorem gLshl (X : Stand p l e R s m args below meth c T locs cells slots) (hx : p.tables.exec = Jvm.exec) {pc : Nat} {Ls : Array Slot} {st : List Value} {x : Int64} {y : Int32} (hd : decode c.code pc = .ok (.lshl, 1))  (K : Goes p e below G (T.setTop (mkF m (pc + 1) Ls (.long (x <<< (y.toInt64 &&& 63)) :: st)))) : Goes p e below G (T.setTop (mkF m pc Ls (.int y :: .long x :: st))) :=
  go (fun _ q => XT.lshl (g := mkF m pc Ls (.int y :: .long x :: st)) X.here hx rfl hd rfl q) K
theorem gLshr (X : Stand p l e R s m args below meth c T locs cells slots) (hx : p.tables.exec = Jvm.exec) {pc : Nat} {Ls : Array Slot} {st : List Value} {x : Int64} {y : Int32} (hd : decode c.code pc = .ok (.lshr, 1))  (K : Goes p e below G (T.setTop (mkF m (pc + 1) Ls (.long (x >>> (y.toInt64 &&& 63)) :: st)))) : Goes p e below G (T.setTop (mkF m pc Ls (.int y :: .long x :: st))) :=
  go (fun _ q => XT.lshr (g := mkF m pc Ls (.int y :: .long x :: st)) X.here hx rfl hd rfl q) K
theorem gLushr (X : Stand p l e R s m args below meth c T locs cells slots) (hx : p.tables.exec = Jvm.exec) {pc : Nat} {Ls : Array Slot} {st : List Value} {x : Int64} {y : Int32} (hd : decode c.code pc = .ok (.lushr, 1))  (K : Goes p e below G (T.setTop (mkF m (pc + 1) Ls (.long (XT.ushrL x y) :: st)))) : Goes p e below G (T.setTop (mkF m pc Ls (.int y :: .long x :: st))) :=
  go (fun _ q => XT.lushr (g := mkF m pc Ls (.int y :: .long x :: st)) X.here hx rfl hd rfl q) K
theorem gIneg (X : Stand p l e R s m args below meth c T locs cells slots) (hx : p.tables.exec = Jvm.exec) {pc : Nat} {Ls : Array Slot} {st : List Value} {x : Int32} (hd : decode c.code pc = .ok (.ineg, 1))  (K : Goes p e below G (T.setTop (mkF m (pc + 1) Ls (.int (-x) :: st)))) : Goes p e below G (T.setTop (mkF m pc Ls (.int x :: st))) :=
  go (fun _ q => XS.ineg (g := mkF m pc Ls (.int x :: st)) X.here hx rfl hd rfl q) K
theorem gI2l (X : Stand p l e R s m args below meth c T locs cells slots) (hx : p.tables.exec = Jvm.exec) {pc : Nat} {Ls : Array Slot} {st : List Value} {x : Int32} (hd : decode c.code pc = .ok (.i2l, 1))  (K : Goes p e below G (T.setTop (mkF m (pc + 1) Ls (.long (x.toInt64) :: st)))) : Goes p e below G (T.setTop (mkF m pc Ls (.int x :: st))) :=
  go (fun _ q => XT.i2l (g := mkF m pc Ls (.int x :: st)) X.here hx rfl hd rfl q) K
theorem gL2i (X : Stand p l e R s m args below meth c T locs cells slots) (hx : p.tables.exec = Jvm.exec) {pc : Nat} {Ls : Array Slot} {st : List Value} {x : Int64} (hd : decode c.code pc = .ok (.l2i, 1))  (K : Goes p e below G (T.setTop (mkF m (pc + 1) Ls (.int (x.toInt32) :: st)))) : Goes p e below G (T.setTop (mkF m pc Ls (.long x :: st))) :=
  go (fun _ q => XT.l2i (g := mkF m pc Ls (.long x :: st)) X.here hx rfl hd rfl q) K
theorem gI2b (X : Stand p l e R s m args below meth c T locs cells slots) (hx : p.tables.exec = Jvm.exec) {pc : Nat} {Ls : Array Slot} {st : List Value} {x : Int32} (hd : decode c.code pc = .ok (.i2b, 1))  (K : Goes p e below G (T.setTop (mkF m (pc + 1) Ls (.int (x.toInt8.toInt32) :: st)))) : Goes p e below G (T.setTop (mkF m pc Ls (.int x :: st))) :=
  go (fun _ q => XT.i2b (g := mkF m pc Ls (.int x :: st)) X.here hx rfl hd rfl q) K
theorem gI2c (X : Stand p l e R s m args below meth c T locs cells slots) (hx : p.tables.exec = Jvm.exec) {pc : Nat} {Ls : Array Slot} {st : List Value} {x : Int32} (hd : decode c.code pc = .ok (.i2c, 1))  (K : Goes p e below G (T.setTop (mkF m (pc + 1) Ls (.int (x.toUInt32.toUInt16.toUInt32.toInt32) :: st)))) : Goes p e below G (T.setTop (mkF m pc Ls (.int x :: st))) :=
  go (fun _ q => XT.i2c (g := mkF m pc Ls (.int x :: st)) X.here hx rfl hd rfl q) K
theorem gI2d (X : Stand p l e R s m args below meth c T locs cells slots) (hx : p.tables.exec = Jvm.exec) {pc : Nat} {Ls : Array Slot} {st : List Value} {x : Int32} (hd : decode c.code pc = .ok (.i2d, 1))  (K : Goes p e below G (T.setTop (mkF m (pc + 1) Ls (.double (FP.i2d x) :: st)))) : Goes p e below G (T.setTop (mkF m pc Ls (.int x :: st))) :=
  go (fun _ q => XS.i2dS (g := mkF m pc Ls (.int x :: st)) X.here hx rfl hd rfl rfl q) K
theorem gL2d (X : Stand p l e R s m args below meth c T locs cells slots) (hx : p.tables.exec = Jvm.exec) {pc : Nat} {Ls : Array Slot} {st : List Value} {x : Int64} (hd : decode c.code pc = .ok (.l2d, 1))  (K : Goes p e below G (T.setTop (mkF m (pc + 1) Ls (.double (FP.l2d x) :: st)))) : Goes p e below G (T.setTop (mkF m pc Ls (.long x :: st))) :=
  go (fun _ q => XS.l2dS (g := mkF m pc Ls (.long x :: st)) X.here hx rfl hd rfl rfl q) K
theorem gDadd (X : Stand p l e R s m args below meth c T locs cells slots) (hx : p.tables.exec = Jvm.exec) {pc : Nat} {Ls : Array Slot} {st : List Value} {x y : UInt64} (hd : decode c.code pc = .ok (.dadd, 1)) (hn : Jvm.Free.Fl.NoNaN64 (FP.dadd x y)) (K : Goes p e below G (T.setTop (mkF m (pc + 1) Ls (.double (FP.dadd x y) :: st)))) : Goes p e below G (T.setTop (mkF m pc Ls (.double y :: .double x :: st))) :=
  go (fun _ q => XS.daddS (g := mkF m pc Ls (.double y :: .double x :: st)) X.here hx rfl hd rfl hn rfl q) K
theorem gDsub (X : Stand p l e R s m args below meth c T locs cells slots) (hx : p.tables.exec = Jvm.exec) {pc : Nat} {Ls : Array Slot} {st : List Value} {x y : UInt64} (hd : decode c.code pc = .ok (.dsub, 1)) (hn : Jvm.Free.Fl.NoNaN64 (FP.dsub x y)) (K : Goes p e below G (T.setTop (mkF m (pc + 1) Ls (.double (FP.dsub x y) :: st)))) : Goes p e below G (T.setTop (mkF m pc Ls (.double y :: .double x :: st))) :=
  go (fun _ q => XS.dsubS (g := mkF m pc Ls (.double y :: .double x :: st)) X.here hx rfl hd rfl hn rfl q) K
theorem gDmul (X : Stand p l e R s m args below meth c T locs cells slots) (hx : p.tables.exec = Jvm.exec) {pc : Nat} {Ls : Array Slot} {st : List Value} {x y : UInt64} (hd : decode c.code pc = .ok (.dmul, 1)) (hn : Jvm.Free.Fl.NoNaN64 (FP.dmul x y)) (K : Goes p e below G (T.setTop (mkF m (pc + 1) Ls (.double (FP.dmul x y) :: st)))) : Goes p e below G (T.setTop (mkF m pc Ls (.double y :: .double x :: st))) :=
  go (fun _ q => XS.dmulS (g := mkF m pc Ls (.double y :: .double x :: st)) X.here hx rfl hd rfl hn rfl q) K
theorem gDdiv (X : Stand p l e R s m args below meth c T locs cells slots) (hx : p.tables.exec = Jvm.exec) {pc : Nat} {Ls : Array Slot} {st : List Value} {x y : UInt64} (hd : decode c.code pc = .ok (.ddiv, 1)) (hn : Jvm.Free.Fl.NoNaN64 (FP.ddiv x y)) (K : Goes p e below G (T.setTop (mkF m (pc + 1) Ls (.double (FP.ddiv x y) :: st)))) : Goes p e below G (T.setTop (mkF m pc Ls (.double y :: .double x :: st))) :=
  go (fun _ q => XS.ddivS (g := mkF m pc Ls (.double y :: .double x :: st)) X.here hx rfl hd rfl hn rfl q) K
theorem gDcmp (X : Stand p l e R s m args below meth c T locs cells slots) (hx : p.tables.exec = Jvm.exec) {pc : Nat} {Ls : Array Slot} {st : List Value} {o : CmpOp} {x y : UInt64} (hd : decode c.code pc = .ok (.dcmp o, 1))  (K : Goes p e below G (T.setTop (mkF m (pc + 1) Ls (.int (cmpValue (FP.dcmp x y) o) :: st)))) : Goes p e below G (T.setTop (mkF m pc Ls (.double y :: .double x :: st))) :=
  go (fun _ q => XS.dcmpS (g := mkF m pc Ls (.double y :: .double x :: st)) X.here hx rfl hd rfl rfl q) K
theorem gLcmp (X : Stand p l e R s m args below meth c T locs cells slots) (hx : p.tables.exec = Jvm.exec) {pc : Nat} {Ls : Array Slot} {st : List Value} {x y : Int64} (hd : decode c.code pc = .ok (.lcmp, 1))  (K : Goes p e below G (T.setTop (mkF m (pc + 1) Ls (.int (XT.cmpL x y) :: st)))) : Goes p e below G (T.setTop (mkF m pc Ls (.long y :: .long x :: st))) :=
  go (fun _ q => XT.lcmp (g := mkF m pc Ls (.long y :: .long x :: st)) X.here hx rfl hd rfl q) K
theorem gDup (X : Stand p l e R s m args below meth c T locs cells slots) (hx : p.tables.exec = Jvm.exec) {pc : Nat} {Ls : Array Slot} {st : List Value} {x : Value} (hd : decode c.code pc = .ok (.dup, 1)) (hc : x.category = 1) (K : Goes p e below G (T.setTop (mkF m (pc + 1) Ls (x :: x :: st)))) : Goes p e below G (T.setTop (mkF m pc Ls (x :: st))) :=
  go (fun _ q => XS.dup (g := mkF m pc Ls (x :: st)) X.here hx rfl hd rfl hc q) K
theorem gPop (X : Stand p l e R s m args below meth c T locs cells slots) (hx : p.tables.exec = Jvm.exec) {pc : Nat} {Ls : Array Slot} {st : List Value} {x : Value} (hd : decode c.code pc = .ok (.pop, 1)) (hc : x.category = 1) (K : Goes p e below G (T.setTop (mkF m (pc + 1) Ls (st)))) : Goes p e below G (T.setTop (mkF m pc Ls (x :: st))) :=
  go (fun _ q => XT.pop (g := mkF m pc Ls (x :: st)) X.here hx rfl hd rfl hc q) K
theorem gDupX1 (X : Stand p l e R s m args below meth c T locs cells slots) (hx : p.tables.exec = Jvm.exec) {pc : Nat} {Ls : Array Slot} {st : List Value} {x y : Value} (hd : decode c.code pc = .ok (.dup_x1, 1)) (hc : x.category = 1) (hc' : y.category = 1) (K : Goes p e below G (T.setTop (mkF m (pc + 1) Ls (x :: y :: x :: st)))) : Goes p e below G (T.setTop (mkF m pc Ls (x :: y :: st))) :=
  go (fun _ q => XT.dupX1 (g := mkF m pc Ls (x :: y :: st)) X.here hx rfl hd rfl hc hc' q) K
theorem gDup2 (X : Stand p l e R s m args below meth c T locs cells slots) (hx : p.tables.exec = Jvm.exec) {pc : Nat} {Ls : Array Slot} {st : List Value} {x y : Value} (hd : decode c.code pc = .ok (.dup2, 1)) (hc : x.category = 1) (hc' : y.category = 1) (K : Goes p e below G (T.setTop (mkF m (pc + 1) Ls (x :: y :: x :: y :: st)))) : Goes p e below G (T.setTop (mkF m pc Ls (x :: y :: st))) :=
  go (fun _ q => XT.dup2 (g := mkF m pc Ls (x :: y :: st)) X.here hx rfl hd rfl hc hc' q) K
theorem gIinc (X : Stand p l e R s m args below meth c T locs cells slots) (hx : p.tables.exec = Jvm.exec) {pc : Nat} {Ls : Array Slot} {st : List Value} {k : Nat} {i : Int} {x v : Int32} {l' : Array Slot} (hd : decode c.code pc = .ok (.iinc k i, 3)) (hv : x + Int32.ofInt i = v) (hl : Ls[k]? = some (.val (.int x))) (hl' : storeLocals Ls k (.int v) = some l') (K : Goes p e below G (T.setTop (mkF m (pc + 3) l' st))) : Goes p e below G (T.setTop (mkF m pc Ls st)) := by
  subst hv
  exact go (fun _ q => XS.iinc (g := mkF m pc Ls st) X.here hx rfl hd hl hl' q) K
theorem gIrem (X : Stand p l e R s m args below meth c T locs cells slots) (hx : p.tables.exec = Jvm.exec) {pc : Nat} {Ls : Array Slot} {st : List Value} {x y : Int32} (hd : decode c.code pc = .ok (.irem, 1)) (hy : y ≠ 0) (K : Goes p e below G (T.setTop (mkF m (pc + 1) Ls (.int (x % y) :: st)))) : Goes p e below G (T.setTop (mkF m pc Ls (.int y :: .int x :: st))) :=
  go (fun _ q => iremM X hx (g := mkF m pc Ls (.int y :: .int x :: st)) rfl hd rfl hy q) K
theorem gIdiv (X : Stand p l e R s m args below meth c T locs cells slots) (hx : p.tables.exec = Jvm.exec) {pc : Nat} {Ls : Array Slot} {st : List Value} {x y : Int32} (hd : decode c.code pc = .ok (.idiv, 1)) (hy : y ≠ 0) (K : Goes p e below G (T.setTop (mkF m (pc + 1) Ls (.int (x / y) :: st)))) : Goes p e below G (T.setTop (mkF m pc Ls (.int y :: .int x :: st))) :=
  go (fun _ q => XS.idiv (g := mkF m pc Ls (.int y :: .int x :: st)) X.here hx rfl hd rfl hy q) K
theorem gGoto (X : Stand p l e R s m args below meth c T locs cells slots) (hx : p.tables.exec = Jvm.exec) {pc : Nat} {Ls : Array Slot} {st : List Value} {o : Int} {pc' : Nat} (hd : decode c.code pc = .ok (.goto o, 3)) (ho : 0 ≤ (pc : Int) + o) (hp : ((pc : Int) + o).toNat = pc') (K : Goes p e below G (T.setTop (mkF m pc' Ls (st)))) : Goes p e below G (T.setTop (mkF m pc Ls (st))) :=
  go (fun _ q => XS.goto (g := mkF m pc Ls (st)) X.here hx rfl rfl hd ho hp q) K
theorem gIfY (X : Stand p l e R s m args below meth c T locs cells slots) (hx : p.tables.exec = Jvm.exec) {pc : Nat} {Ls : Array Slot} {st : List Value} {cd : ClassFile.Cond} {x : Int32} {o : Int} {pc' : Nat} (hd : decode c.code pc = .ok (.ifCond cd o, 3)) (hc : ifCond.holds cd x = true) (ho : 0 ≤ (pc : Int) + o) (hp : ((pc : Int) + o).toNat = pc') (K : Goes p e below G (T.setTop (mkF m pc' Ls (st)))) : Goes p e below G (T.setTop (mkF m pc Ls (.int x :: st))) :=
  go (fun _ q => XS.ifYes (g := mkF m pc Ls (.int x :: st)) X.here hx rfl rfl hd rfl hc ho hp q) K
theorem gIfN (X : Stand p l e R s m args below meth c T locs cells slots) (hx : p.tables.exec = Jvm.exec) {pc : Nat} {Ls : Array Slot} {st : List Value} {cd : ClassFile.Cond} {x : Int32} {o : Int} (hd : decode c.code pc = .ok (.ifCond cd o, 3)) (hc : ifCond.holds cd x = false) (K : Goes p e below G (T.setTop (mkF m (pc + 3) Ls (st)))) : Goes p e below G (T.setTop (mkF m pc Ls (.int x :: st))) :=
  go (fun _ q => XS.ifNo (g := mkF m pc Ls (.int x :: st)) X.here hx rfl hd rfl hc q) K
theorem gIcmpY (X : Stand p l e R s m args below meth c T locs cells slots) (hx : p.tables.exec = Jvm.exec) {pc : Nat} {Ls : Array Slot} {st : List Value} {cd : ClassFile.Cond} {x y : Int32} {o : Int} {pc' : Nat} (hd : decode c.code pc = .ok (.if_icmp cd o, 3)) (hc : if_icmp.holds cd x y = true) (ho : 0 ≤ (pc : Int) + o) (hp : ((pc : Int) + o).toNat = pc') (K : Goes p e below G (T.setTop (mkF m pc' Ls (st)))) : Goes p e below G (T.setTop (mkF m pc Ls (.int y :: .int x :: st))) :=
  go (fun _ q => XS.icmpYes (g := mkF m pc Ls (.int y :: .int x :: st)) X.here hx rfl rfl hd rfl hc ho hp q) K
theorem gIcmpN (X : Stand p l e R s m args below meth c T locs cells slots) (hx : p.tables.exec = Jvm.exec) {pc : Nat} {Ls : Array Slot} {st : List Value} {cd : ClassFile.Cond} {x y : Int32} {o : Int} (hd : decode c.code pc = .ok (.if_icmp cd o, 3)) (hc : if_icmp.holds cd x y = false) (K : Goes p e below G (T.setTop (mkF m (pc + 3) Ls (st)))) : Goes p e below G (T.setTop (mkF m pc Ls (.int y :: .int x :: st))) :=
  go (fun _ q => XS.icmpNo (g := mkF m pc Ls (.int y :: .int x :: st)) X.here hx rfl hd rfl hc q) K
theorem gAcmpY (X : Stand p l e R s m args below meth c T locs cells slots) (hx : p.tables.exec = Jvm.exec) {pc : Nat} {Ls : Array Slot} {st : List Value} {cd : ClassFile.ACond} {x y : Value} {o : Int} {pc' : Nat} (hd : decode c.code pc = .ok (.if_acmp cd o, 3)) (hx' : x.isRef = true) (hy' : y.isRef = true) (hc : XT.acmp cd x y = true) (ho : 0 ≤ (pc : Int) + o) (hp : ((pc : Int) + o).toNat = pc') (K : Goes p e below G (T.setTop (mkF m pc' Ls (st)))) : Goes p e below G (T.setTop (mkF m pc Ls (y :: x :: st))) :=
  go (fun _ q => XT.acmpYes (g := mkF m pc Ls (y :: x :: st)) X.here hx rfl rfl hd rfl hx' hy' hc ho hp q) K
theorem gAcmpN (X : Stand p l e R s m args below meth c T locs cells slots) (hx : p.tables.exec = Jvm.exec) {pc : Nat} {Ls : Array Slot} {st : List Value} {cd : ClassFile.ACond} {x y : Value} {o : Int} (hd : decode c.code pc = .ok (.if_acmp cd o, 3)) (hx' : x.isRef = true) (hy' : y.isRef = true) (hc : XT.acmp cd x y = false) (K : Goes p e below G (T.setTop (mkF m (pc + 3) Ls (st)))) : Goes p e below G (T.setTop (mkF m pc Ls (y :: x :: st))) :=
  go (fun _ q => XT.acmpNo (g := mkF m pc Ls (y :: x :: st)) X.here hx rfl hd rfl hx' hy' hc q) K
theorem gNullY (X : Stand p l e R s m args below meth c T locs cells slots) (hx : p.tables.exec = Jvm.exec) {pc : Nat} {Ls : Array Slot} {st : List Value} {o : Int} {pc' : Nat} (hd : decode c.code pc = .ok (.ifnull o, 3)) (ho : 0 ≤ (pc : Int) + o) (hp : ((pc : Int) + o).toNat = pc') (K : Goes p e below G (T.setTop (mkF m pc' Ls (st)))) : Goes p e below G (T.setTop (mkF m pc Ls (.null :: st))) :=
  go (fun _ q => XS.ifnullYes (g := mkF m pc Ls (.null :: st)) X.here hx rfl rfl hd rfl ho hp q) K
theorem gNullN (X : Stand p l e R s m args below meth c T locs cells slots) (hx : p.tables.exec = Jvm.exec) {pc : Nat} {Ls : Array Slot} {st : List Value} {b : Addr} {o : Int} (hd : decode c.code pc = .ok (.ifnull o, 3))  (K : Goes p e below G (T.setTop (mkF m (pc + 3) Ls (st)))) : Goes p e below G (T.setTop (mkF m pc Ls (.ref b :: st))) :=
  go (fun _ q => XS.ifnullNo (g := mkF m pc Ls (.ref b :: st)) X.here hx rfl hd rfl q) K
theorem gNonnullY (X : Stand p l e R s m args below meth c T locs cells slots) (hx : p.tables.exec = Jvm.exec) {pc : Nat} {Ls : Array Slot} {st : List Value} {b : Addr} {o : Int} {pc' : Nat} (hd : decode c.code pc = .ok (.ifnonnull o, 3)) (ho : 0 ≤ (pc : Int) + o) (hp : ((pc : Int) + o).toNat = pc') (K : Goes p e below G (T.setTop (mkF m pc' Ls (st)))) : Goes p e below G (T.setTop (mkF m pc Ls (.ref b :: st))) :=
  go (fun _ q => XT.ifnonnullYes (g := mkF m pc Ls (.ref b :: st)) X.here hx rfl rfl hd rfl ho hp q) K
theorem gNonnullN (X : Stand p l e R s m args below meth c T locs cells slots) (hx : p.tables.exec = Jvm.exec) {pc : Nat} {Ls : Array Slot} {st : List Value} {o : Int} (hd : decode c.code pc = .ok (.ifnonnull o, 3))  (K : Goes p e below G (T.setTop (mkF m (pc + 3) Ls (st)))) : Goes p e below G (T.setTop (mkF m pc Ls (.null :: st))) :=
  go (fun _ q => XT.ifnonnullNo (g := mkF m pc Ls (.null :: st)) X.here hx rfl hd rfl q) K
theorem gLdcI (X : Stand p l e R s m args below meth c T locs cells slots) (hx : p.tables.exec = Jvm.exec) {pc : Nat} {Ls : Array Slot} {st : List Value} (hZ : Z.Warmed39 s.vm) {own : String} (hown : s.vm.findClass own = some m.cls) {i : Nat} {v : Int32} (w : (Cond.constant own i v).before a0 Z = true) (hd : decode c.code pc = .ok (.ldc i, 2)) (K : Goes p e below G (T.setTop (mkF m (pc + 2) Ls (.int v :: st)))) : Goes p e below G (T.setTop (mkF m pc Ls st)) :=
  go (fun _ q => X.ldcI hx hown (mvT hZ w) (g := mkF m pc Ls st) rfl hd q) K
theorem gLdcWI (X : Stand p l e R s m args below meth c T locs cells slots) (hx : p.tables.exec = Jvm.exec) {pc : Nat} {Ls : Array Slot} {st : List Value} (hZ : Z.Warmed39 s.vm) {own : String} (hown : s.vm.findClass own = some m.cls) {i : Nat} {v : Int32} (w : (Cond.constant own i v).before a0 Z = true) (hd : decode c.code pc = .ok (.ldc_w i, 3)) (K : Goes p e below G (T.setTop (mkF m (pc + 3) Ls (.int v :: st)))) : Goes p e below G (T.setTop (mkF m pc Ls st)) :=
  go (fun _ q => X.ldcWI hx hown (mvT hZ w) (g := mkF m pc Ls st) rfl hd q) K
theorem gLdc2J (X : Stand p l e R s m args below meth c T locs cells slots) (hx : p.tables.exec = Jvm.exec) {pc : Nat} {Ls : Array Slot} {st : List Value} (hZ : Z.Warmed39 s.vm) {own : String} (hown : s.vm.findClass own = some m.cls) {i : Nat} {v : Int64} (w : (Cond.constantLong own i v).before a0 Z = true) (hd : decode c.code pc = .ok (.ldc2_w i, 3)) (K : Goes p e below G (T.setTop (mkF m (pc + 3) Ls (.long v :: st)))) : Goes p e below G (T.setTop (mkF m pc Ls st)) :=
  go (fun _ q => X.ldc2J hx hown (mvT hZ w) (g := mkF m pc Ls st) rfl hd q) K
theorem gLdc2D (X : Stand p l e R s m args below meth c T locs cells slots) (hx : p.tables.exec = Jvm.exec) {pc : Nat} {Ls : Array Slot} {st : List Value} (hZ : Z.Warmed39 s.vm) {own : String} (hown : s.vm.findClass own = some m.cls) {i : Nat} {v : UInt64} (w : (Cond.constantDouble own i v).before a0 Z = true) (hd : decode c.code pc = .ok (.ldc2_w i, 3)) (K : Goes p e below G (T.setTop (mkF m (pc + 3) Ls (.double v :: st)))) : Goes p e below G (T.setTop (mkF m pc Ls st)) :=
  go (fun _ q => X.ldc2DoubleC hx hown (mvT hZ w) (g := mkF m pc Ls st) rfl hd _ q) K
end Own
end Jvm.OwnWalk
namespace Jvm.Pilot.@@N@@
open Jvm Jvm.ClassFile Sem Op Lib Jvm.Free Jvm.Stand Jvm.LawKit Jvm.RoadKit Jvm.OwnWalk Bundle Jvm.Pilot.@@N@@.Jvm.D
theorem own_nat {n : Nat} (h : n < 2 ^ 31) : n.toInt32.toNatClampNeg = n := by simp only [Int32.toNatClampNeg, len_toInt h]; rfl
theorem own_nn {n : Nat} (h : n < 2 ^ 31) : ¬ n.toInt32 < 0 := by
  rw [Int32.lt_iff_toInt_lt, len_toInt h]
  show ¬ ((n : Int) < 0)
  omega
theorem own_inj {i j : Nat} (hi : i < 2 ^ 31) (hj : j < 2 ^ 31) : i.toInt32 = j.toInt32 ↔ i = j := by rw [← Int32.toInt_inj, len_toInt hi, len_toInt hj]; omega
def own_vs (P : List Nat) : List Value := P.map fun n => Value.int n.toInt32
theorem own_vs_at {P : List Nat} {i p : Nat} (h : P[i]? = some p) (hi : i < 2 ^ 31) : (own_vs P)[i.toInt32.toNatClampNeg]? = some (.int p.toInt32) := by rw [own_nat hi]; simp [own_vs, h]
theorem own_vs_set {P : List Nat} {i p : Nat} (hi : i < 2 ^ 31) : (own_vs P).set i.toInt32.toNatClampNeg (.int p.toInt32) = own_vs (P.set i p) := by rw [own_nat hi]; simp [own_vs, List.map_set]
def own_Inv (n : Nat) (P : List Nat) (r d : Nat → Nat) : Prop := P.length = n ∧ ∀ i, i < n → r i < n ∧ r (r i) = r i ∧ ∃ p, P[i]? = some p ∧ p < n ∧ r p = r i ∧ (p = i → r i = i) ∧ (p ≠ i → d p < d i)
theorem own_halve {n : Nat} {P : List Nat} {r d : Nat → Nat} (H : own_Inv n P r d) {i p g : Nat} (hi : i < n) (hp : P[i]? = some p) (hne : p ≠ i) (hg : P[p]? = some g) : own_Inv n (P.set i g) r d := by
  refine ⟨by rw [List.length_set]; exact H.1, fun j hj => ?_⟩
  obtain ⟨a1, a2, p', b1, b2, b3, b4, b5⟩ := H.2 j hj
  refine ⟨a1, a2, ?_⟩
  by_cases e : j = i
  · subst e
    cases hp.symm.trans b1
    obtain ⟨-, -, g', c1, c2, c3, c4, c5⟩ := H.2 p b2
    cases hg.symm.trans c1
    have hd := b5 hne
    have hgd : d g < d j := by
      by_cases q : g = p
      · rw [q]; exact hd
      · exact Nat.lt_trans (c5 q) hd
    refine ⟨g, by rw [List.getElem?_set_self (by rw [H.1]; exact hj)], c2, c3.trans b3, fun q => ?_, fun _ => hgd⟩
    subst q
    exact absurd hgd (Nat.lt_irrefl _)
  · exact ⟨p', by rw [List.getElem?_set_ne (Ne.symm e)]; exact b1, b2, b3, b4, b5⟩
theorem own_join {n : Nat} {P : List Nat} {r d : Nat → Nat} (H : own_Inv n P r d) {a b : Nat} (ha : a < n) (hB : b < n) : ∃ d', own_Inv n (P.set (r b) (r a)) (fun i => if r i = r b then r a else r i) d' := by
  obtain ⟨ra1, ra2, -⟩ := H.2 a ha
  obtain ⟨rb1, rb2, -⟩ := H.2 b hB
  refine ⟨fun i => d i + if r i = r b then d (r a) + 1 else 0, by rw [List.length_set]; exact H.1, fun i hi => ?_⟩
  obtain ⟨a1, a2, p, b1, b2, b3, b4, b5⟩ := H.2 i hi
  refine ⟨?_, ?_, ?_⟩
  · show (if r i = r b then r a else r i) < n
    split <;> assumption
  · show (if r (if r i = r b then r a else r i) = r b then r a else r (if r i = r b then r a else r i)) = if r i = r b then r a else r i
    by_cases q : r i = r b
    · simp only [q, if_true, ra2]; split <;> rfl
    · simp only [q, if_false, a2]
  · by_cases e : i = r b
    · subst e
      refine ⟨r a, by rw [List.getElem?_set_self (by rw [H.1]; exact hi)], ra1, ?_, fun q => ?_, fun q => ?_⟩
      · show (if r (r a) = r b then r a else r (r a)) = if r (r b) = r b then r a else r (r b)
        rw [if_pos rb2, ra2]; split <;> rfl
      · show (if r (r b) = r b then r a else r (r b)) = r b
        rw [if_pos rb2]; exact q
      · show d (r a) + (if r (r a) = r b then d (r a) + 1 else 0) < d (r b) + if r (r b) = r b then d (r a) + 1 else 0
        rw [if_pos rb2, ra2, if_neg q]; omega
    · refine ⟨p, by rw [List.getElem?_set_ne (Ne.symm e)]; exact b1, b2, ?_, fun q => ?_, fun q => ?_⟩
      · show (if r p = r b then r a else r p) = if r i = r b then r a else r i
        rw [b3]
      · show (if r i = r b then r a else r i) = i
        have k := b4 q
        rw [if_neg (fun z => e (k.symm.trans z))]; exact k
      · show d p + (if r p = r b then d (r a) + 1 else 0) < d i + if r i = r b then d (r a) + 1 else 0
        rw [b3]; have := b5 q; omega
theorem d_prog_15_method_1_0 : decode prog_15_method_1_code 0 = .ok (.aload_n 0, 1) := by decide +kernel
theorem d_prog_15_method_1_1 : decode prog_15_method_1_code 1 = .ok (.invokespecial 1, 3) := by decide +kernel
theorem d_prog_15_method_1_4 : decode prog_15_method_1_code 4 = .ok (.aload_n 0, 1) := by decide +kernel
theorem d_prog_15_method_1_5 : decode prog_15_method_1_code 5 = .ok (.iload_n 1, 1) := by decide +kernel
theorem d_prog_15_method_1_6 : decode prog_15_method_1_code 6 = .ok (.newarray .int, 2) := by decide +kernel
theorem d_prog_15_method_1_8 : decode prog_15_method_1_code 8 = .ok (.putfield 7, 3) := by decide +kernel
theorem d_prog_15_method_1_11 : decode prog_15_method_1_code 11 = .ok (.iconst 0, 1) := by decide +kernel
theorem d_prog_15_method_1_12 : decode prog_15_method_1_code 12 = .ok (.istore_n 2, 1) := by decide +kernel
theorem d_prog_15_method_1_13 : decode prog_15_method_1_code 13 = .ok (.iload_n 2, 1) := by decide +kernel
theorem d_prog_15_method_1_14 : decode prog_15_method_1_code 14 = .ok (.iload_n 1, 1) := by decide +kernel
theorem d_prog_15_method_1_15 : decode prog_15_method_1_code 15 = .ok (.if_icmp .ge 16, 3) := by decide +kernel
theorem d_prog_15_method_1_18 : decode prog_15_method_1_code 18 = .ok (.aload_n 0, 1) := by decide +kernel
theorem d_prog_15_method_1_19 : decode prog_15_method_1_code 19 = .ok (.getfield 7, 3) := by decide +kernel
theorem d_prog_15_method_1_22 : decode prog_15_method_1_code 22 = .ok (.iload_n 2, 1) := by decide +kernel
theorem d_prog_15_method_1_23 : decode prog_15_method_1_code 23 = .ok (.iload_n 2, 1) := by decide +kernel
theorem d_prog_15_method_1_24 : decode prog_15_method_1_code 24 = .ok (.iastore, 1) := by decide +kernel
theorem d_prog_15_method_1_25 : decode prog_15_method_1_code 25 = .ok (.iinc 2 1, 3) := by decide +kernel
theorem d_prog_15_method_1_28 : decode prog_15_method_1_code 28 = .ok (.goto (-15), 3) := by decide +kernel
theorem d_prog_15_method_1_31 : decode prog_15_method_1_code 31 = .ok (.return_, 1) := by decide +kernel
theorem pn_0 : plainName "com/example/phal/phal/service/Groups" = true := by first | (simp [plainName, overriddenIn]; done) | decide +kernel
theorem ef_rmI (m : MethodId) (x0 : Addr) (x1 : Int32) : entryFrame m #[(.ref x0), (.int x1)] 3 = mkF m 0 #[.val (.ref x0), .val (.int x1), .unset] [] := by first | (simp [entryFrame, mkF, argsToLocals, Value.category]; done) | rfl
set_option maxRecDepth 65536 in
set_option maxHeartbeats 40000000 in
theorem rmI (l : Launch) (Z : State) (a0 : Array Value) (hw : ∀ d ∈ tables_1, d.before a0 Z = true)  (a1 : Addr) (h0 : Heap) (O0 : Ext Z.heap h0) (E1 : Exa Z h0 a1 "com/example/phal/phal/service/Groups") (F1 : Fld Z h0 a1 "com/example/phal/phal/service/Groups" "parent" "[I" .null) (fr1 : Z.heap.size ≤ a1) :
    Ctr l Z (⟨"com/example/phal/phal/service/Groups", "<init>", "(I)V"⟩ : MethodName) prog_15_method_1_code 3 none [] ({ frames := 1, cells := 1, slots := 5, locals := 12 } : Room) #[(.ref a1), (.int (5 : Int32))] h0 (fun v h L => v = none ∧ Fr Z.heap.size L ∧ Keep h0 h [a1] ∧ ∃ u, h0.size ≤ u ∧ Fld Z h a1 "com/example/phal/phal/service/Groups" "parent" "[I" (.ref u) ∧ Ary Z h u .int (own_vs (List.range 5))) := by
  refine ctr (plainFor_of_name pn_0) ?_
  intro p e s m below meth c s₁ hx hby hml hown hnm hret hlocks hZ X0 e0
  have N0 := Fr.nil Z.heap.size
  have hsz : ∀ {Ls : Array Slot}, Ls.size = 3 → Ls.size = c.maxLocals := fun q => q.trans hml.symm
  have K0 := Keep.refl h0 [a1]
  refine goE (ef_rmI m (a1) ((5 : Int32))) ?_
  show Goes p e below _ (s₁.setTop (mkF m 0 #[.val (.ref a1), .val (.int (5 : Int32)), .unset] []))
  refine gAloadN X0 hx (hb hby d_prog_15_method_1_0) rfl rfl ?_
  obtain ⟨Tt1, Xt1, et1, stt1⟩ := initO X0 hx hZ hown (hw _ (List.mem_of_getElem? (i := 7) rfl)) (hw _ (List.mem_of_getElem? (i := 8) rfl)) (hw _ (List.mem_of_getElem? (i := 9) rfl)) e0 (g := (mkF m 1 #[.val (.ref a1), .val (.int (5 : Int32)), .unset] [(.ref a1)])) rfl (by rw [hml]; rfl) rfl (hb hby d_prog_15_method_1_1) (by decide) (W := 0) (Nat.le_of_eq rfl) (by decide)
  refine go stt1 ?_
  show Goes p e below _ (Tt1.setTop (mkF m 4 #[.val (.ref a1), .val (.int (5 : Int32)), .unset] []))
  refine gAloadN Xt1 hx (hb hby d_prog_15_method_1_4) rfl rfl ?_
  refine gIloadN Xt1 hx (hb hby d_prog_15_method_1_5) rfl ?_
  obtain ⟨Tt2, ht2, kt2, Xt2, et2, Et2, At2, stt2⟩ := newP Xt1 hx hZ (hw _ (List.mem_of_getElem? (i := 10) rfl)) et1 (g := (mkF m 6 #[.val (.ref a1), .val (.int (5 : Int32)), .unset] [(.int (5 : Int32)), (.ref a1)])) rfl (hb hby d_prog_15_method_1_6) rfl (by decide) (cap := 5) (by decide) (by decide) (by decide) (by decide)
  obtain ⟨ob3, gob3⟩ : ∃ z, z = h0.size := ⟨_, rfl⟩
  rw [← gob3] at At2 stt2
  refine go stt2 ?_
  have ne_a1_ob3 : a1 ≠ ob3 := Nat.ne_of_lt (gob3 ▸ E1.lt)
  have fr_ob3 : Z.heap.size ≤ ob3 := gob3 ▸ O0.1
  have pa_ob3 : h0.size ≤ ob3 := gob3 ▸ K0.1
  replace E1 := E1.ext Et2
  replace F1 := F1.ext Et2
  have O4 : Ext Z.heap ht2 := extT O0 Et2
  have K5 := K0.ext Et2
  have Y_ob3 : Ary Z ht2 ob3 .int [(.int (0 : Int32)), (.int (0 : Int32)), (.int (0 : Int32)), (.int (0 : Int32)), (.int (0 : Int32))] := Ary.new At2 rfl (by decide)
  show Goes p e below _ (Tt2.setTop (mkF m 8 #[.val (.ref a1), .val (.int (5 : Int32)), .unset] [(.ref ob3), (.ref a1)]))
  obtain ⟨Tt6, ht6, Xt6, et6, Wt6, stt6⟩ := putF Xt2 hx hZ hown (host := "") (Or.inl (hw _ (List.mem_of_getElem? (i := 11) rfl))) Via.refl et2 F1 E1 (Or.inr ⟨(hw _ (List.mem_of_getElem? (i := 12) rfl)), rfl, hnm⟩) (hw _ (List.mem_of_getElem? (i := 2) rfl)) (ty := (.array .int)) (by decide) rfl rfl (g := (mkF m 8 #[.val (.ref a1), .val (.int (5 : Int32)), .unset] [(.ref ob3), (.ref a1)])) rfl rfl (hb hby d_prog_15_method_1_8)
  refine go stt6 ?_
  have N7 := Fr.snoc Xt6 N0 fr1
  replace F1 := F1.same Wt6
  replace E1 := E1.wr Wt6
  replace Y_ob3 := Y_ob3.other Wt6 (Ne.symm ne_a1_ob3)
  have O8 : Ext Z.heap ht6 := extW O4 Wt6 fr1
  have K9 := K5.wr Wt6 (Or.inl (by simp))
  show Goes p e below _ (Tt6.setTop (mkF m 11 #[.val (.ref a1), .val (.int (5 : Int32)), .unset] []))
  refine gIconst Xt6 hx (hb hby d_prog_15_method_1_11) (v := (0 : Int32)) rfl ?_
  refine gIstoreN Xt6 hx (hb hby d_prog_15_method_1_12) (l' := #[.val (.ref a1), .val (.int (5 : Int32)), .val (.int (0 : Int32))]) rfl ?_
  refine gIloadN Xt6 hx (hb hby d_prog_15_method_1_13) rfl ?_
  refine gIloadN Xt6 hx (hb hby d_prog_15_method_1_14) rfl ?_
  refine gIcmpN Xt6 hx (hb hby d_prog_15_method_1_15) (XT.ii_ge_f (by decide)) ?_
  show Goes p e below _ (Tt6.setTop (mkF m 18 #[.val (.ref a1), .val (.int (5 : Int32)), .val (.int (0 : Int32))] []))
  refine gAloadN Xt6 hx (hb hby d_prog_15_method_1_18) rfl rfl ?_
  obtain ⟨Tt10, Xt10, et10, stt10⟩ := getF Xt6 hx hZ hown (host := "") (Or.inl (hw _ (List.mem_of_getElem? (i := 11) rfl))) Via.refl et6 F1 (g := (mkF m 19 #[.val (.ref a1), .val (.int (5 : Int32)), .val (.int (0 : Int32))] [(.ref a1)])) rfl rfl (hb hby d_prog_15_method_1_19)
  refine go stt10 ?_
  show Goes p e below _ (Tt10.setTop (mkF m 22 #[.val (.ref a1), .val (.int (5 : Int32)), .val (.int (0 : Int32))] [(.ref ob3)]))
  refine gIloadN Xt10 hx (hb hby d_prog_15_method_1_22) rfl ?_
  refine gIloadN Xt10 hx (hb hby d_prog_15_method_1_23) rfl ?_
  refine goIastore Xt10 hx hZ et10 Y_ob3 (hb hby d_prog_15_method_1_24) (by decide) rfl (fun Tt11 ht11 Xt11 et11 Wt11 => ?_)
  have N12 := Fr.snoc Xt11 N7 fr_ob3
  replace Y_ob3 : Ary Z ht11 ob3 .int [(.int (0 : Int32)), (.int (0 : Int32)), (.int (0 : Int32)), (.int (0 : Int32)), (.int (0 : Int32))] := Y_ob3.set Wt11 rfl
  replace E1 := E1.wr Wt11
  replace F1 := F1.other Wt11 (Or.inl ne_a1_ob3)
  have O13 : Ext Z.heap ht11 := extW O8 Wt11 fr_ob3
  have K14 := K9.wr Wt11 (Or.inr pa_ob3)
  show Goes p e below _ (Tt11.setTop (mkF m 25 #[.val (.ref a1), .val (.int (5 : Int32)), .val (.int (0 : Int32))] []))
  refine gIinc Xt11 hx (hb hby d_prog_15_method_1_25) (v := (1 : Int32)) rfl rfl (l' := #[.val (.ref a1), .val (.int (5 : Int32)), .val (.int (1 : Int32))]) rfl ?_
  refine gGoto Xt11 hx (hb hby d_prog_15_method_1_28) (pc' := 13) (by decide) (by decide) ?_
  show Goes p e below _ (Tt11.setTop (mkF m 13 #[.val (.ref a1), .val (.int (5 : Int32)), .val (.int (1 : Int32))] []))
  refine gIloadN Xt11 hx (hb hby d_prog_15_method_1_13) rfl ?_
  refine gIloadN Xt11 hx (hb hby d_prog_15_method_1_14) rfl ?_
  refine gIcmpN Xt11 hx (hb hby d_prog_15_method_1_15) (XT.ii_ge_f (by decide)) ?_
  show Goes p e below _ (Tt11.setTop (mkF m 18 #[.val (.ref a1), .val (.int (5 : Int32)), .val (.int (1 : Int32))] []))
  refine gAloadN Xt11 hx (hb hby d_prog_15_method_1_18) rfl rfl ?_
  obtain ⟨Tt15, Xt15, et15, stt15⟩ := getF Xt11 hx hZ hown (host := "") (Or.inl (hw _ (List.mem_of_getElem? (i := 11) rfl))) Via.refl et11 F1 (g := (mkF m 19 #[.val (.ref a1), .val (.int (5 : Int32)), .val (.int (1 : Int32))] [(.ref a1)])) rfl rfl (hb hby d_prog_15_method_1_19)
  refine go stt15 ?_
  show Goes p e below _ (Tt15.setTop (mkF m 22 #[.val (.ref a1), .val (.int (5 : Int32)), .val (.int (1 : Int32))] [(.ref ob3)]))
  refine gIloadN Xt15 hx (hb hby d_prog_15_method_1_22) rfl ?_
  refine gIloadN Xt15 hx (hb hby d_prog_15_method_1_23) rfl ?_
  refine goIastore Xt15 hx hZ et15 Y_ob3 (hb hby d_prog_15_method_1_24) (by decide) rfl (fun Tt16 ht16 Xt16 et16 Wt16 => ?_)
  have N17 := Fr.snoc Xt16 N12 fr_ob3
  replace Y_ob3 : Ary Z ht16 ob3 .int [(.int (0 : Int32)), (.int (1 : Int32)), (.int (0 : Int32)), (.int (0 : Int32)), (.int (0 : Int32))] := Y_ob3.set Wt16 rfl
  replace E1 := E1.wr Wt16
  replace F1 := F1.other Wt16 (Or.inl ne_a1_ob3)
  have O18 : Ext Z.heap ht16 := extW O13 Wt16 fr_ob3
  have K19 := K14.wr Wt16 (Or.inr pa_ob3)
  show Goes p e below _ (Tt16.setTop (mkF m 25 #[.val (.ref a1), .val (.int (5 : Int32)), .val (.int (1 : Int32))] []))
  refine gIinc Xt16 hx (hb hby d_prog_15_method_1_25) (v := (2 : Int32)) rfl rfl (l' := #[.val (.ref a1), .val (.int (5 : Int32)), .val (.int (2 : Int32))]) rfl ?_
  refine gGoto Xt16 hx (hb hby d_prog_15_method_1_28) (pc' := 13) (by decide) (by decide) ?_
  show Goes p e below _ (Tt16.setTop (mkF m 13 #[.val (.ref a1), .val (.int (5 : Int32)), .val (.int (2 : Int32))] []))
  refine gIloadN Xt16 hx (hb hby d_prog_15_method_1_13) rfl ?_
  refine gIloadN Xt16 hx (hb hby d_prog_15_method_1_14) rfl ?_
  refine gIcmpN Xt16 hx (hb hby d_prog_15_method_1_15) (XT.ii_ge_f (by decide)) ?_
  show Goes p e below _ (Tt16.setTop (mkF m 18 #[.val (.ref a1), .val (.int (5 : Int32)), .val (.int (2 : Int32))] []))
  refine gAloadN Xt16 hx (hb hby d_prog_15_method_1_18) rfl rfl ?_
  obtain ⟨Tt20, Xt20, et20, stt20⟩ := getF Xt16 hx hZ hown (host := "") (Or.inl (hw _ (List.mem_of_getElem? (i := 11) rfl))) Via.refl et16 F1 (g := (mkF m 19 #[.val (.ref a1), .val (.int (5 : Int32)), .val (.int (2 : Int32))] [(.ref a1)])) rfl rfl (hb hby d_prog_15_method_1_19)
  refine go stt20 ?_
  show Goes p e below _ (Tt20.setTop (mkF m 22 #[.val (.ref a1), .val (.int (5 : Int32)), .val (.int (2 : Int32))] [(.ref ob3)]))
  refine gIloadN Xt20 hx (hb hby d_prog_15_method_1_22) rfl ?_
  refine gIloadN Xt20 hx (hb hby d_prog_15_method_1_23) rfl ?_
  refine goIastore Xt20 hx hZ et20 Y_ob3 (hb hby d_prog_15_method_1_24) (by decide) rfl (fun Tt21 ht21 Xt21 et21 Wt21 => ?_)
  have N22 := Fr.snoc Xt21 N17 fr_ob3
  replace Y_ob3 : Ary Z ht21 ob3 .int [(.int (0 : Int32)), (.int (1 : Int32)), (.int (2 : Int32)), (.int (0 : Int32)), (.int (0 : Int32))] := Y_ob3.set Wt21 rfl
  replace E1 := E1.wr Wt21
  replace F1 := F1.other Wt21 (Or.inl ne_a1_ob3)
  have O23 : Ext Z.heap ht21 := extW O18 Wt21 fr_ob3
  have K24 := K19.wr Wt21 (Or.inr pa_ob3)
  show Goes p e below _ (Tt21.setTop (mkF m 25 #[.val (.ref a1), .val (.int (5 : Int32)), .val (.int (2 : Int32))] []))
  refine gIinc Xt21 hx (hb hby d_prog_15_method_1_25) (v := (3 : Int32)) rfl rfl (l' := #[.val (.ref a1), .val (.int (5 : Int32)), .val (.int (3 : Int32))]) rfl ?_
  refine gGoto Xt21 hx (hb hby d_prog_15_method_1_28) (pc' := 13) (by decide) (by decide) ?_
  show Goes p e below _ (Tt21.setTop (mkF m 13 #[.val (.ref a1), .val (.int (5 : Int32)), .val (.int (3 : Int32))] []))
  refine gIloadN Xt21 hx (hb hby d_prog_15_method_1_13) rfl ?_
  refine gIloadN Xt21 hx (hb hby d_prog_15_method_1_14) rfl ?_
  refine gIcmpN Xt21 hx (hb hby d_prog_15_method_1_15) (XT.ii_ge_f (by decide)) ?_
  show Goes p e below _ (Tt21.setTop (mkF m 18 #[.val (.ref a1), .val (.int (5 : Int32)), .val (.int (3 : Int32))] []))
  refine gAloadN Xt21 hx (hb hby d_prog_15_method_1_18) rfl rfl ?_
  obtain ⟨Tt25, Xt25, et25, stt25⟩ := getF Xt21 hx hZ hown (host := "") (Or.inl (hw _ (List.mem_of_getElem? (i := 11) rfl))) Via.refl et21 F1 (g := (mkF m 19 #[.val (.ref a1), .val (.int (5 : Int32)), .val (.int (3 : Int32))] [(.ref a1)])) rfl rfl (hb hby d_prog_15_method_1_19)
  refine go stt25 ?_
  show Goes p e below _ (Tt25.setTop (mkF m 22 #[.val (.ref a1), .val (.int (5 : Int32)), .val (.int (3 : Int32))] [(.ref ob3)]))
  refine gIloadN Xt25 hx (hb hby d_prog_15_method_1_22) rfl ?_
  refine gIloadN Xt25 hx (hb hby d_prog_15_method_1_23) rfl ?_
  refine goIastore Xt25 hx hZ et25 Y_ob3 (hb hby d_prog_15_method_1_24) (by decide) rfl (fun Tt26 ht26 Xt26 et26 Wt26 => ?_)
  have N27 := Fr.snoc Xt26 N22 fr_ob3
  replace Y_ob3 : Ary Z ht26 ob3 .int [(.int (0 : Int32)), (.int (1 : Int32)), (.int (2 : Int32)), (.int (3 : Int32)), (.int (0 : Int32))] := Y_ob3.set Wt26 rfl
  replace E1 := E1.wr Wt26
  replace F1 := F1.other Wt26 (Or.inl ne_a1_ob3)
  have O28 : Ext Z.heap ht26 := extW O23 Wt26 fr_ob3
  have K29 := K24.wr Wt26 (Or.inr pa_ob3)
  show Goes p e below _ (Tt26.setTop (mkF m 25 #[.val (.ref a1), .val (.int (5 : Int32)), .val (.int (3 : Int32))] []))
  refine gIinc Xt26 hx (hb hby d_prog_15_method_1_25) (v := (4 : Int32)) rfl rfl (l' := #[.val (.ref a1), .val (.int (5 : Int32)), .val (.int (4 : Int32))]) rfl ?_
  refine gGoto Xt26 hx (hb hby d_prog_15_method_1_28) (pc' := 13) (by decide) (by decide) ?_
  show Goes p e below _ (Tt26.setTop (mkF m 13 #[.val (.ref a1), .val (.int (5 : Int32)), .val (.int (4 : Int32))] []))
  refine gIloadN Xt26 hx (hb hby d_prog_15_method_1_13) rfl ?_
  refine gIloadN Xt26 hx (hb hby d_prog_15_method_1_14) rfl ?_
  refine gIcmpN Xt26 hx (hb hby d_prog_15_method_1_15) (XT.ii_ge_f (by decide)) ?_
  show Goes p e below _ (Tt26.setTop (mkF m 18 #[.val (.ref a1), .val (.int (5 : Int32)), .val (.int (4 : Int32))] []))
  refine gAloadN Xt26 hx (hb hby d_prog_15_method_1_18) rfl rfl ?_
  obtain ⟨Tt30, Xt30, et30, stt30⟩ := getF Xt26 hx hZ hown (host := "") (Or.inl (hw _ (List.mem_of_getElem? (i := 11) rfl))) Via.refl et26 F1 (g := (mkF m 19 #[.val (.ref a1), .val (.int (5 : Int32)), .val (.int (4 : Int32))] [(.ref a1)])) rfl rfl (hb hby d_prog_15_method_1_19)
  refine go stt30 ?_
  show Goes p e below _ (Tt30.setTop (mkF m 22 #[.val (.ref a1), .val (.int (5 : Int32)), .val (.int (4 : Int32))] [(.ref ob3)]))
  refine gIloadN Xt30 hx (hb hby d_prog_15_method_1_22) rfl ?_
  refine gIloadN Xt30 hx (hb hby d_prog_15_method_1_23) rfl ?_
  refine goIastore Xt30 hx hZ et30 Y_ob3 (hb hby d_prog_15_method_1_24) (by decide) rfl (fun Tt31 ht31 Xt31 et31 Wt31 => ?_)
  have N32 := Fr.snoc Xt31 N27 fr_ob3
  replace Y_ob3 : Ary Z ht31 ob3 .int [(.int (0 : Int32)), (.int (1 : Int32)), (.int (2 : Int32)), (.int (3 : Int32)), (.int (4 : Int32))] := Y_ob3.set Wt31 rfl
  replace E1 := E1.wr Wt31
  replace F1 := F1.other Wt31 (Or.inl ne_a1_ob3)
  have O33 : Ext Z.heap ht31 := extW O28 Wt31 fr_ob3
  have K34 := K29.wr Wt31 (Or.inr pa_ob3)
  show Goes p e below _ (Tt31.setTop (mkF m 25 #[.val (.ref a1), .val (.int (5 : Int32)), .val (.int (4 : Int32))] []))
  refine gIinc Xt31 hx (hb hby d_prog_15_method_1_25) (v := (5 : Int32)) rfl rfl (l' := #[.val (.ref a1), .val (.int (5 : Int32)), .val (.int (5 : Int32))]) rfl ?_
  refine gGoto Xt31 hx (hb hby d_prog_15_method_1_28) (pc' := 13) (by decide) (by decide) ?_
  show Goes p e below _ (Tt31.setTop (mkF m 13 #[.val (.ref a1), .val (.int (5 : Int32)), .val (.int (5 : Int32))] []))
  refine gIloadN Xt31 hx (hb hby d_prog_15_method_1_13) rfl ?_
  refine gIloadN Xt31 hx (hb hby d_prog_15_method_1_14) rfl ?_
  refine gIcmpY Xt31 hx (hb hby d_prog_15_method_1_15) (pc' := 31) (XT.ii_ge_t (by decide)) (by decide) (by decide) ?_
  show Goes p e below _ (Tt31.setTop (mkF m 31 #[.val (.ref a1), .val (.int (5 : Int32)), .val (.int (5 : Int32))] []))
  exact goRet0 Xt31 hx hret hlocks (hb hby d_prog_15_method_1_31) (by decide) (by decide) et31 (⟨rfl, N32, K34, ob3, pa_ob3, F1, Y_ob3⟩)
theorem d_prog_15_method_4_0 : decode prog_15_method_4_code 0 = .ok (.iload_n 1, 1) := by decide +kernel
theorem d_prog_15_method_4_1 : decode prog_15_method_4_code 1 = .ok (.istore_n 2, 1) := by decide +kernel
theorem d_prog_15_method_4_2 : decode prog_15_method_4_code 2 = .ok (.aload_n 0, 1) := by decide +kernel
theorem d_prog_15_method_4_3 : decode prog_15_method_4_code 3 = .ok (.getfield 7, 3) := by decide +kernel
theorem d_prog_15_method_4_6 : decode prog_15_method_4_code 6 = .ok (.iload_n 2, 1) := by decide +kernel
theorem d_prog_15_method_4_7 : decode prog_15_method_4_code 7 = .ok (.iaload, 1) := by decide +kernel
theorem d_prog_15_method_4_8 : decode prog_15_method_4_code 8 = .ok (.iload_n 2, 1) := by decide +kernel
theorem d_prog_15_method_4_9 : decode prog_15_method_4_code 9 = .ok (.if_icmp .eq 30, 3) := by decide +kernel
theorem d_prog_15_method_4_39 : decode prog_15_method_4_code 39 = .ok (.iload_n 2, 1) := by decide +kernel
theorem d_prog_15_method_4_40 : decode prog_15_method_4_code 40 = .ok (.ireturn, 1) := by decide +kernel
theorem d_prog_15_method_4_12 : decode prog_15_method_4_code 12 = .ok (.aload_n 0, 1) := by decide +kernel
theorem d_prog_15_method_4_13 : decode prog_15_method_4_code 13 = .ok (.getfield 7, 3) := by decide +kernel
theorem d_prog_15_method_4_16 : decode prog_15_method_4_code 16 = .ok (.iload_n 2, 1) := by decide +kernel
theorem d_prog_15_method_4_17 : decode prog_15_method_4_code 17 = .ok (.aload_n 0, 1) := by decide +kernel
theorem d_prog_15_method_4_18 : decode prog_15_method_4_code 18 = .ok (.getfield 7, 3) := by decide +kernel
theorem d_prog_15_method_4_21 : decode prog_15_method_4_code 21 = .ok (.aload_n 0, 1) := by decide +kernel
theorem d_prog_15_method_4_22 : decode prog_15_method_4_code 22 = .ok (.getfield 7, 3) := by decide +kernel
theorem d_prog_15_method_4_25 : decode prog_15_method_4_code 25 = .ok (.iload_n 2, 1) := by decide +kernel
theorem d_prog_15_method_4_26 : decode prog_15_method_4_code 26 = .ok (.iaload, 1) := by decide +kernel
theorem d_prog_15_method_4_27 : decode prog_15_method_4_code 27 = .ok (.iaload, 1) := by decide +kernel
theorem d_prog_15_method_4_28 : decode prog_15_method_4_code 28 = .ok (.iastore, 1) := by decide +kernel
theorem d_prog_15_method_4_29 : decode prog_15_method_4_code 29 = .ok (.aload_n 0, 1) := by decide +kernel
theorem d_prog_15_method_4_30 : decode prog_15_method_4_code 30 = .ok (.getfield 7, 3) := by decide +kernel
theorem d_prog_15_method_4_33 : decode prog_15_method_4_code 33 = .ok (.iload_n 2, 1) := by decide +kernel
theorem d_prog_15_method_4_34 : decode prog_15_method_4_code 34 = .ok (.iaload, 1) := by decide +kernel
theorem d_prog_15_method_4_35 : decode prog_15_method_4_code 35 = .ok (.istore_n 2, 1) := by decide +kernel
theorem d_prog_15_method_4_36 : decode prog_15_method_4_code 36 = .ok (.goto (-34), 3) := by decide +kernel
theorem ef_rmT (m : MethodId) (x0 : Addr) (x1 : Int32) : entryFrame m #[(.ref x0), (.int x1)] 3 = mkF m 0 #[.val (.ref x0), .val (.int x1), .unset] [] := by first | (simp [entryFrame, mkF, argsToLocals, Value.category]; done) | rfl
set_option maxRecDepth 65536 in
set_option maxHeartbeats 40000000 in
theorem rmT (l : Launch) (Z : State) (a0 : Array Value) (hw : ∀ d ∈ tables_1, d.before a0 Z = true) (a1 : Addr) (u : Addr) (i n : Nat) (r d : Nat → Nat) (P : List Nat)  (h0 : Heap) (O0 : Ext Z.heap h0) (F1 : Fld Z h0 a1 "com/example/phal/phal/service/Groups" "parent" "[I" (.ref u)) (Y1 : Ary Z h0 u .int (own_vs P)) (I1 : own_Inv n P r d) (hi : i < n) (hn : n < 100) (ne : a1 ≠ u) (fr1 : Z.heap.size ≤ u) :
    Ctr l Z (⟨"com/example/phal/phal/service/Groups", "root", "(I)I"⟩ : MethodName) prog_15_method_4_code 3 (some .int) [] ({ frames := 0, cells := 0, slots := 0, locals := 0 } : Room) #[(.ref a1), (.int i.toInt32)] h0 (fun v h L => v = some (.int (r i).toInt32) ∧ Fr Z.heap.size L ∧ Keep h0 h [u] ∧ ∃ P', Ary Z h u .int (own_vs P') ∧ own_Inv n P' r d) := by
  refine ctr (plainFor_of_name pn_0) ?_
  intro p e s m below meth c s₁ hx hby hml hown hnm hret hlocks hZ X0 e0
  have N0 := Fr.nil Z.heap.size
  have hsz : ∀ {Ls : Array Slot}, Ls.size = 3 → Ls.size = c.maxLocals := fun q => q.trans hml.symm
  have K0 := Keep.refl h0 [u]
  refine goE (ef_rmT m (a1) (i.toInt32)) ?_
  show Goes p e below _ (s₁.setTop (mkF m 0 #[.val (.ref a1), .val (.int i.toInt32), .unset] []))
  refine gIloadN X0 hx (hb hby d_prog_15_method_4_0) rfl ?_
  refine gIstoreN X0 hx (hb hby d_prog_15_method_4_1) (l' := #[.val (.ref a1), .val (.int i.toInt32), .val (.int i.toInt32)]) rfl ?_
  have loop : ∀ (k : Nat) (j : Nat) (P2 : List Nat) (T_ : State) (h_ : Heap) (lc_ : List Loc), (d j < k) → (j < n) → (r j = r i) → (own_Inv n P2 r d) → (Stand p l e ({ frames := 0, cells := 0, slots := 0, locals := 0 } : Room) s m #[(.ref a1), (.int i.toInt32)] below meth c T_ lc_ 0 0) → (T_.heap = h_) → (Fr Z.heap.size lc_) → (Keep h0 h_ [u]) → (Ext Z.heap h_) → (Fld Z h_ a1 "com/example/phal/phal/service/Groups" "parent" "[I" (.ref u)) → (Ary Z h_ u .int (own_vs P2)) → Goes p e below (EndN s (fun v h L => v = some (.int (r i).toInt32) ∧ Fr Z.heap.size L ∧ Keep h0 h [u] ∧ ∃ P', Ary Z h u .int (own_vs P') ∧ own_Inv n P' r d) ({ frames := 0, cells := 0, slots := 0, locals := 0 } : Room).cells ({ frames := 0, cells := 0, slots := 0, locals := 0 } : Room).slots) (T_.setTop (mkF m 2 #[.val (.ref a1), .val (.int i.toInt32), .val (.int j.toInt32)] [])) := by
    intro k
    induction k with
    | zero =>
      intro j P2 T_ h_ lc_ hd hj hr I2 X_ e_ N_ K_ O_ F1 Y1
      exact absurd hd (Nat.not_lt_zero _)
    | succ k ih =>
      intro j P2 T_ h_ lc_ hd hj hr I2 X_ e_ N_ K_ O_ F1 Y1
      obtain ⟨a1_, a2_, p_, b1, b2, b3, b4, b5⟩ := I2.2 j hj
      obtain ⟨-, -, g_, c1, c2, c3, c4, c5⟩ := I2.2 p_ b2
      refine gAloadN X_ hx (hb hby d_prog_15_method_4_2) rfl rfl ?_
      obtain ⟨Tt1, Xt1, et1, stt1⟩ := getF X_ hx hZ hown (host := "") (Or.inl (hw _ (List.mem_of_getElem? (i := 11) rfl))) Via.refl e_ F1 (g := (mkF m 3 #[.val (.ref a1), .val (.int i.toInt32), .val (.int j.toInt32)] [(.ref a1)])) rfl rfl (hb hby d_prog_15_method_4_3)
      refine go stt1 ?_
      show Goes p e below _ (Tt1.setTop (mkF m 6 #[.val (.ref a1), .val (.int i.toInt32), .val (.int j.toInt32)] [(.ref u)]))
      refine gIloadN Xt1 hx (hb hby d_prog_15_method_4_6) rfl ?_
      refine goIaload Xt1 hx hZ et1 Y1 (x := p_.toInt32) (hb hby d_prog_15_method_4_7) (own_nn (by omega)) (own_vs_at b1 (by omega)) ?_
      show Goes p e below _ (Tt1.setTop (mkF m 8 #[.val (.ref a1), .val (.int i.toInt32), .val (.int j.toInt32)] [(.int p_.toInt32)]))
      refine gIloadN Xt1 hx (hb hby d_prog_15_method_4_8) rfl ?_
      by_cases q : p_ = j
      · refine gIcmpY Xt1 hx (hb hby d_prog_15_method_4_9) (pc' := 39) (XT.ii_eq_t ((own_inj (by omega) (by omega)).mpr q)) (by decide) (by decide) ?_
        show Goes p e below _ (Tt1.setTop (mkF m 39 #[.val (.ref a1), .val (.int i.toInt32), .val (.int j.toInt32)] []))
        refine gIloadN Xt1 hx (hb hby d_prog_15_method_4_39) rfl ?_
        exact goRetI Xt1 hx hret hlocks (hb hby d_prog_15_method_4_40) (by decide) (by decide) et1 (⟨by rw [← hr, b4 q], N_, K_, P2, Y1, I2⟩)
      · refine gIcmpN Xt1 hx (hb hby d_prog_15_method_4_9) (XT.ii_eq_f (fun z => q ((own_inj (by omega) (by omega)).mp z))) ?_
        show Goes p e below _ (Tt1.setTop (mkF m 12 #[.val (.ref a1), .val (.int i.toInt32), .val (.int j.toInt32)] []))
        refine gAloadN Xt1 hx (hb hby d_prog_15_method_4_12) rfl rfl ?_
        obtain ⟨Tt2, Xt2, et2, stt2⟩ := getF Xt1 hx hZ hown (host := "") (Or.inl (hw _ (List.mem_of_getElem? (i := 11) rfl))) Via.refl et1 F1 (g := (mkF m 13 #[.val (.ref a1), .val (.int i.toInt32), .val (.int j.toInt32)] [(.ref a1)])) rfl rfl (hb hby d_prog_15_method_4_13)
        refine go stt2 ?_
        show Goes p e below _ (Tt2.setTop (mkF m 16 #[.val (.ref a1), .val (.int i.toInt32), .val (.int j.toInt32)] [(.ref u)]))
        refine gIloadN Xt2 hx (hb hby d_prog_15_method_4_16) rfl ?_
        refine gAloadN Xt2 hx (hb hby d_prog_15_method_4_17) rfl rfl ?_
        obtain ⟨Tt3, Xt3, et3, stt3⟩ := getF Xt2 hx hZ hown (host := "") (Or.inl (hw _ (List.mem_of_getElem? (i := 11) rfl))) Via.refl et2 F1 (g := (mkF m 18 #[.val (.ref a1), .val (.int i.toInt32), .val (.int j.toInt32)] [(.ref a1), (.int j.toInt32), (.ref u)])) rfl rfl (hb hby d_prog_15_method_4_18)
        refine go stt3 ?_
        show Goes p e below _ (Tt3.setTop (mkF m 21 #[.val (.ref a1), .val (.int i.toInt32), .val (.int j.toInt32)] [(.ref u), (.int j.toInt32), (.ref u)]))
        refine gAloadN Xt3 hx (hb hby d_prog_15_method_4_21) rfl rfl ?_
        obtain ⟨Tt4, Xt4, et4, stt4⟩ := getF Xt3 hx hZ hown (host := "") (Or.inl (hw _ (List.mem_of_getElem? (i := 11) rfl))) Via.refl et3 F1 (g := (mkF m 22 #[.val (.ref a1), .val (.int i.toInt32), .val (.int j.toInt32)] [(.ref a1), (.ref u), (.int j.toInt32), (.ref u)])) rfl rfl (hb hby d_prog_15_method_4_22)
        refine go stt4 ?_
        show Goes p e below _ (Tt4.setTop (mkF m 25 #[.val (.ref a1), .val (.int i.toInt32), .val (.int j.toInt32)] [(.ref u), (.ref u), (.int j.toInt32), (.ref u)]))
        refine gIloadN Xt4 hx (hb hby d_prog_15_method_4_25) rfl ?_
        refine goIaload Xt4 hx hZ et4 Y1 (x := p_.toInt32) (hb hby d_prog_15_method_4_26) (own_nn (by omega)) (own_vs_at b1 (by omega)) ?_
        show Goes p e below _ (Tt4.setTop (mkF m 27 #[.val (.ref a1), .val (.int i.toInt32), .val (.int j.toInt32)] [(.int p_.toInt32), (.ref u), (.int j.toInt32), (.ref u)]))
        refine goIaload Xt4 hx hZ et4 Y1 (x := g_.toInt32) (hb hby d_prog_15_method_4_27) (own_nn (by omega)) (own_vs_at c1 (by omega)) ?_
        show Goes p e below _ (Tt4.setTop (mkF m 28 #[.val (.ref a1), .val (.int i.toInt32), .val (.int j.toInt32)] [(.int g_.toInt32), (.int j.toInt32), (.ref u)]))
        refine goIastore Xt4 hx hZ et4 Y1 (hb hby d_prog_15_method_4_28) (own_nn (by omega)) (own_vs_at b1 (by omega)) (fun Tt5 ht5 Xt5 et5 Wt5 => ?_)
        have N6 := Fr.snoc Xt5 N_ fr1
        replace Y1 : Ary Z ht5 u .int (own_vs (P2.set j g_)) := Y1.set Wt5 (own_vs_set (by omega))
        replace F1 := F1.other Wt5 (Or.inl ne)
        have O7 : Ext Z.heap ht5 := extW O_ Wt5 fr1
        have K8 := K_.wr Wt5 (Or.inl (by simp))
        show Goes p e below _ (Tt5.setTop (mkF m 29 #[.val (.ref a1), .val (.int i.toInt32), .val (.int j.toInt32)] []))
        have I3 := own_halve I2 hj b1 q c1
        refine gAloadN Xt5 hx (hb hby d_prog_15_method_4_29) rfl rfl ?_
        obtain ⟨Tt9, Xt9, et9, stt9⟩ := getF Xt5 hx hZ hown (host := "") (Or.inl (hw _ (List.mem_of_getElem? (i := 11) rfl))) Via.refl et5 F1 (g := (mkF m 30 #[.val (.ref a1), .val (.int i.toInt32), .val (.int j.toInt32)] [(.ref a1)])) rfl rfl (hb hby d_prog_15_method_4_30)
        refine go stt9 ?_
        show Goes p e below _ (Tt9.setTop (mkF m 33 #[.val (.ref a1), .val (.int i.toInt32), .val (.int j.toInt32)] [(.ref u)]))
        refine gIloadN Xt9 hx (hb hby d_prog_15_method_4_33) rfl ?_
        refine goIaload Xt9 hx hZ et9 Y1 (x := g_.toInt32) (hb hby d_prog_15_method_4_34) (own_nn (by omega)) (own_vs_at (by rw [List.getElem?_set_self (by rw [I2.1]; exact hj)]) (by omega)) ?_
        show Goes p e below _ (Tt9.setTop (mkF m 35 #[.val (.ref a1), .val (.int i.toInt32), .val (.int j.toInt32)] [(.int g_.toInt32)]))
        refine gIstoreN Xt9 hx (hb hby d_prog_15_method_4_35) (l' := #[.val (.ref a1), .val (.int i.toInt32), .val (.int g_.toInt32)]) rfl ?_
        refine gGoto Xt9 hx (hb hby d_prog_15_method_4_36) (pc' := 2) (by decide) (by decide) ?_
        show Goes p e below _ (Tt9.setTop (mkF m 2 #[.val (.ref a1), .val (.int i.toInt32), .val (.int g_.toInt32)] []))
        have hg : d g_ < d j := by
          by_cases z : g_ = p_
          · rw [z]; exact b5 q
          · exact Nat.lt_trans (c5 z) (b5 q)
        exact ih g_ _ Tt9 ht5 _ (by omega) c2 (c3.trans (b3.trans hr)) I3 Xt9 et9 N6 K8 O7 F1 Y1
  exact loop (d i + 1) i P s₁ h0 _ (Nat.lt_succ_self _) hi rfl I1 X0 e0 N0 K0 O0 F1 Y1
theorem d_prog_15_method_3_0 : decode prog_15_method_3_code 0 = .ok (.aload_n 0, 1) := by decide +kernel
theorem d_prog_15_method_3_1 : decode prog_15_method_3_code 1 = .ok (.getfield 7, 3) := by decide +kernel
theorem d_prog_15_method_3_4 : decode prog_15_method_3_code 4 = .ok (.aload_n 0, 1) := by decide +kernel
theorem d_prog_15_method_3_5 : decode prog_15_method_3_code 5 = .ok (.iload_n 2, 1) := by decide +kernel
theorem pd_0 : parseMethodDescriptor "(I)I" = some ⟨[.int], some .int⟩ := by decide +kernel
theorem d_prog_15_method_3_6 : decode prog_15_method_3_code 6 = .ok (.invokevirtual 23, 3) := by decide +kernel
theorem d_prog_15_method_3_9 : decode prog_15_method_3_code 9 = .ok (.aload_n 0, 1) := by decide +kernel
theorem d_prog_15_method_3_10 : decode prog_15_method_3_code 10 = .ok (.iload_n 1, 1) := by decide +kernel
theorem d_prog_15_method_3_11 : decode prog_15_method_3_code 11 = .ok (.invokevirtual 23, 3) := by decide +kernel
theorem d_prog_15_method_3_14 : decode prog_15_method_3_code 14 = .ok (.iastore, 1) := by decide +kernel
theorem d_prog_15_method_3_15 : decode prog_15_method_3_code 15 = .ok (.return_, 1) := by decide +kernel
theorem ef_rmJ (m : MethodId) (x0 : Addr) (x1 : Int32) (x2 : Int32) : entryFrame m #[(.ref x0), (.int x1), (.int x2)] 3 = mkF m 0 #[.val (.ref x0), .val (.int x1), .val (.int x2)] [] := by first | (simp [entryFrame, mkF, argsToLocals, Value.category]; done) | rfl
set_option maxRecDepth 65536 in
set_option maxHeartbeats 40000000 in
theorem rmJ (l : Launch) (Z : State) (a0 : Array Value) (hw : ∀ d ∈ tables_1, d.before a0 Z = true) (a1 : Addr) (u : Addr) (a b n : Nat) (r d : Nat → Nat) (P : List Nat)  (h0 : Heap) (O0 : Ext Z.heap h0) (E1 : Exa Z h0 a1 "com/example/phal/phal/service/Groups") (F1 : Fld Z h0 a1 "com/example/phal/phal/service/Groups" "parent" "[I" (.ref u)) (Y1 : Ary Z h0 u .int (own_vs P)) (I1 : own_Inv n P r d) (ha : a < n) (hB : b < n) (hn : n < 100) (ne : a1 ≠ u) (fr1 : Z.heap.size ≤ u) :
    Ctr l Z (⟨"com/example/phal/phal/service/Groups", "join", "(II)V"⟩ : MethodName) prog_15_method_3_code 3 none [] ({ frames := 1, cells := 0, slots := 0, locals := 17 } : Room) #[(.ref a1), (.int a.toInt32), (.int b.toInt32)] h0 (fun v h L => v = none ∧ Fr Z.heap.size L ∧ Keep h0 h [u] ∧ ∃ P' d', Ary Z h u .int (own_vs P') ∧ own_Inv n P' (fun i => if r i = r b then r a else r i) d') := by
  refine ctr (plainFor_of_name pn_0) ?_
  intro p e s m below meth c s₁ hx hby hml hown hnm hret hlocks hZ X0 e0
  have N0 := Fr.nil Z.heap.size
  have hsz : ∀ {Ls : Array Slot}, Ls.size = 3 → Ls.size = c.maxLocals := fun q => q.trans hml.symm
  have K0 := Keep.refl h0 [u]
  refine goE (ef_rmJ m (a1) (a.toInt32) (b.toInt32)) ?_
  show Goes p e below _ (s₁.setTop (mkF m 0 #[.val (.ref a1), .val (.int a.toInt32), .val (.int b.toInt32)] []))
  refine gAloadN X0 hx (hb hby d_prog_15_method_3_0) rfl rfl ?_
  obtain ⟨Tt1, Xt1, et1, stt1⟩ := getF X0 hx hZ hown (host := "") (Or.inl (hw _ (List.mem_of_getElem? (i := 11) rfl))) Via.refl e0 F1 (g := (mkF m 1 #[.val (.ref a1), .val (.int a.toInt32), .val (.int b.toInt32)] [(.ref a1)])) rfl rfl (hb hby d_prog_15_method_3_1)
  refine go stt1 ?_
  show Goes p e below _ (Tt1.setTop (mkF m 4 #[.val (.ref a1), .val (.int a.toInt32), .val (.int b.toInt32)] [(.ref u)]))
  refine gAloadN Xt1 hx (hb hby d_prog_15_method_3_4) rfl rfl ?_
  refine gIloadN Xt1 hx (hb hby d_prog_15_method_3_5) rfl ?_
  refine goCallV Xt1 hx hZ hown (hw _ (List.mem_of_getElem? (i := 18) rfl)) (hw _ (List.mem_of_getElem? (i := 19) rfl)) (hw _ (List.mem_of_getElem? (i := 21) rfl)) (hw _ (List.mem_of_getElem? (i := 20) rfl)) (hw _ (List.mem_of_getElem? (i := 3) rfl)) (hw _ (List.mem_of_getElem? (i := 22) rfl)) (by decide) (rmT l Z a0 hw a1 u b n r d P h0 O0 F1 Y1 I1 hB hn ne fr1) 1 (by decide) (by decide) et1 E1 (hsz rfl) [(.int b.toInt32)] [(.ref u)] pd_0 rfl rfl rfl (Nat.le_of_eq rfl) (hb hby d_prog_15_method_3_6) (by decide) (by decide) (fun Tt2 vt2 Lt2 Xt2 qt2 => ?_)
  obtain ⟨ht2, et2⟩ : ∃ z, Tt2.heap = z := ⟨_, rfl⟩
  rw [et2] at qt2
  obtain ⟨rfl, N3, Kct2, P1_, Y1_, I1_⟩ := qt2
  have N4 := Fr.app N0 N3
  replace E1 := E1.keep Kct2
  replace F1 := F1.keep Kct2 (ninS ne nin0)
  have O5 : Ext Z.heap ht2 := extK O0 Kct2 (allS fr1 all0)
  have K6 := K0.trans Kct2 (allS (Or.inl (by simp)) all0)
  show Goes p e below _ (Tt2.setTop (mkF m 9 #[.val (.ref a1), .val (.int a.toInt32), .val (.int b.toInt32)] [(.int (r b).toInt32), (.ref u)]))
  refine gAloadN Xt2 hx (hb hby d_prog_15_method_3_9) rfl rfl ?_
  refine gIloadN Xt2 hx (hb hby d_prog_15_method_3_10) rfl ?_
  refine goCallV Xt2 hx hZ hown (hw _ (List.mem_of_getElem? (i := 18) rfl)) (hw _ (List.mem_of_getElem? (i := 19) rfl)) (hw _ (List.mem_of_getElem? (i := 21) rfl)) (hw _ (List.mem_of_getElem? (i := 20) rfl)) (hw _ (List.mem_of_getElem? (i := 3) rfl)) (hw _ (List.mem_of_getElem? (i := 22) rfl)) (by decide) (rmT l Z a0 hw a1 u a n r d P1_ ht2 O5 F1 Y1_ I1_ ha hn ne fr1) 2 (by decide) (by decide) et2 E1 (hsz rfl) [(.int a.toInt32)] [(.int (r b).toInt32), (.ref u)] pd_0 rfl rfl rfl (Nat.le_of_eq rfl) (hb hby d_prog_15_method_3_11) (by decide) (by decide) (fun Tt7 vt7 Lt7 Xt7 qt7 => ?_)
  obtain ⟨ht7, et7⟩ : ∃ z, Tt7.heap = z := ⟨_, rfl⟩
  rw [et7] at qt7
  obtain ⟨rfl, N8, Kct7, P2_, Y2_, I2_⟩ := qt7
  have N9 := Fr.app N4 N8
  replace E1 := E1.keep Kct7
  replace F1 := F1.keep Kct7 (ninS ne nin0)
  have O10 : Ext Z.heap ht7 := extK O5 Kct7 (allS fr1 all0)
  have K11 := K6.trans Kct7 (allS (Or.inl (by simp)) all0)
  show Goes p e below _ (Tt7.setTop (mkF m 14 #[.val (.ref a1), .val (.int a.toInt32), .val (.int b.toInt32)] [(.int (r a).toInt32), (.int (r b).toInt32), (.ref u)]))
  obtain ⟨ra1, -⟩ := I2_.2 a ha
  obtain ⟨rb1, -, p_, b1, -⟩ := I2_.2 (r b) (I2_.2 b hB).1
  have rb0 := (I2_.2 b hB).1
  refine goIastore Xt7 hx hZ et7 Y2_ (hb hby d_prog_15_method_3_14) (own_nn (by omega)) (own_vs_at b1 (by omega)) (fun Tt12 ht12 Xt12 et12 Wt12 => ?_)
  have N13 := Fr.snoc Xt12 N9 fr1
  replace Y2_ : Ary Z ht12 u .int (own_vs (P2_.set (r b) (r a))) := Y2_.set Wt12 (own_vs_set (by omega))
  replace E1 := E1.wr Wt12
  replace F1 := F1.other Wt12 (Or.inl ne)
  have O14 : Ext Z.heap ht12 := extW O10 Wt12 fr1
  have K15 := K11.wr Wt12 (Or.inl (by simp))
  show Goes p e below _ (Tt12.setTop (mkF m 15 #[.val (.ref a1), .val (.int a.toInt32), .val (.int b.toInt32)] []))
  obtain ⟨d_, I3_⟩ := own_join I2_ ha hB
  exact goRet0 Xt12 hx hret hlocks (hb hby d_prog_15_method_3_15) (by decide) (by decide) et12 (⟨rfl, N13, K15, _, d_, Y2_, I3_⟩)
theorem own_m5 (x : Int32) : ∃ a : Nat, a < 5 ∧ (x &&& (2147483647 : Int32)) % (5 : Int32) = a.toInt32 := by
  have m := c_mask x 2147483647 31 (by decide) (by decide)
  have q := (c_irem (x &&& 2147483647) 5 5 (by decide)).1 (by rw [m]; exact Int.emod_nonneg _ (by decide))
  refine ⟨((x &&& 2147483647) % 5).toInt.toNat, by omega, ?_⟩
  apply Int32.toInt_inj.mp
  rw [len_toInt (by omega)]
  omega
theorem own_m31 (x : Int32) : ∃ a : Nat, a < 32 ∧ x &&& (31 : Int32) = a.toInt32 := by
  have m : (x &&& 31).toInt = x.toInt % 32 := c_mask x 31 5 (by decide) (by decide)
  refine ⟨(x.toInt % 32).toNat, by omega, ?_⟩
  apply Int32.toInt_inj.mp
  rw [len_toInt (by omega), m]
  omega
def own_os (mk k : Nat) : List Nat := (List.range 5).filter fun o => decide (k ≤ o) && mk.testBit o
def own_hd : List Nat → Int32
  | [] => -1
  | o :: _ => o.toInt32
def own_uu (mk : Nat) : Int32 := if mk = 0 then 0 else 1
def own_wk (mk k : Nat) : Int64 := mk.toInt64 &&& ((-1 : Int64) <<< (k.toInt32.toInt64 &&& 63))
def own_iz (w : Int32) : Int32 := (w ^^^ (-1 : Int32)) &&& (w - (1 : Int32))
def own_tz (i t : Int32) : Prop := (i = 0 ∧ t = 0) ∨ (i = 1 ∧ t = 1) ∨ (i = 3 ∧ t = 2) ∨ (i = 7 ∧ t = 3) ∨ (i = 15 ∧ t = 4)
instance (i t : Int32) : Decidable (own_tz i t) := by unfold own_tz; infer_instance
def own_ns (mk k : Nat) : Prop := (own_uu mk = 0 ∧ own_hd (own_os mk k) = -1) ∨ (own_uu mk = 1 ∧ own_wk mk k = 0 ∧ own_hd (own_os mk k) = -1) ∨ (own_uu mk = 1 ∧ ¬ own_wk mk k = 0 ∧ ¬ (own_wk mk k).toInt32 = 0 ∧ own_tz (own_iz (own_wk mk k).toInt32) (own_hd (own_os mk k)))
instance (mk k : Nat) : Decidable (own_ns mk k) := by unfold own_ns; infer_instance
theorem own_ns_all : ∀ mk < 32, ∀ k < 6, own_ns mk k := by decide +kernel
theorem own_os_all : ∀ mk < 32, ∀ k < 6, ∀ o ∈ (own_os mk k).head?, o < 5 ∧ own_os mk k = o :: own_os mk (o + 1) := by decide +kernel
theorem own_wi_all : ∀ k < 6, k.toInt32 >>> ((6 : Int32) &&& 31) = 0 := by decide +kernel
theorem own_bit_all : ∀ mk < 32, ∀ o < 5, (o ∈ own_os mk 0 ↔ ¬ mk.toInt32 &&& (2 ^ o : Nat).toInt32 = 0) := by decide +kernel
theorem own_set_all : ∀ mk < 32, ∀ o < 5, ¬ mk.toInt32 &&& (2 ^ o : Nat).toInt32 = 0 → (mk % 2 ^ o).toInt64 ||| ((1 : Int64) <<< (o.toInt32.toInt64 &&& 63)) = (mk % 2 ^ (o + 1)).toInt64 ∧ own_uu (mk % 2 ^ (o + 1)) = 1 := by decide +kernel
theorem own_unset_all : ∀ mk < 32, ∀ o < 5, mk.toInt32 &&& (2 ^ o : Nat).toInt32 = 0 → mk % 2 ^ (o + 1) = mk % 2 ^ o := by decide +kernel
theorem own_uu01 (mk : Nat) : own_uu mk = 0 ∨ own_uu mk = 1 := by unfold own_uu; split <;> simp
theorem own_at5 (f : Nat → Value) {a : Nat} (h : a < 5) : [f 0, f 1, f 2, f 3, f 4][a.toInt32.toNatClampNeg]? = some (f a) := by
  rw [own_nat (by omega)]
  match a, h with
  | 0, _ => rfl
  | 1, _ => rfl
  | 2, _ => rfl
  | 3, _ => rfl
  | 4, _ => rfl
theorem own_Inv0 : own_Inv 5 (List.range 5) (fun i => i) (fun _ => 0) := ⟨rfl, fun i hi => ⟨hi, rfl, i, by simp [hi], hi, rfl, fun _ => rfl, fun q => absurd rfl q⟩⟩
def own_j (r : Nat → Nat) (a b : Nat) : Nat → Nat := fun i => if r i = r b then r a else r i
def own_rs (it : Nat) : List Nat → (Nat → Nat) → (Nat → Nat)
  | [], r => r
  | o :: t, r => own_rs it t (own_j r it o)
def own_M (l : Nat → Nat) (it : Nat) (os : List Nat) (x : Nat) : Prop := x = l it ∨ ∃ o ∈ os, l o = x
open Classical in
theorem own_rs_eq (it : Nat) (os : List Nat) (r : Nat → Nat) (x : Nat) : own_rs it os r x = if own_M r it os (r x) then r it else r x := by
  induction os generalizing r with
  | nil => simp only [own_rs, own_M, List.not_mem_nil, false_and, exists_false, or_false]; split <;> simp_all
  | cons o t ih =>
    rw [own_rs, ih]
    have e1 : own_j r it o it = r it := by unfold own_j; split <;> rfl
    rw [e1]
    by_cases q : r x = r o
    · have : own_M r it (o :: t) (r x) := Or.inr ⟨o, List.mem_cons_self, q.symm⟩
      rw [if_pos this]
      have e2 : own_j r it o x = r it := if_pos q
      rw [e2, ite_self]
    · have e2 : own_j r it o x = r x := if_neg q
      rw [e2]
      have iff : own_M (own_j r it o) it t (r x) ↔ own_M r it (o :: t) (r x) := by
        unfold own_M
        rw [e1]
        constructor
        · rintro (h | ⟨u, hu, h⟩)
          · exact Or.inl h
          · by_cases z : r u = r o
            · rw [own_j, if_pos z] at h; exact Or.inl h.symm
            · rw [own_j, if_neg z] at h; exact Or.inr ⟨u, List.mem_cons_of_mem _ hu, h⟩
        · rintro (h | ⟨u, hu, h⟩)
          · exact Or.inl h
          · rcases List.mem_cons.mp hu with rfl | hu
            · exact absurd h.symm q
            · refine Or.inr ⟨u, hu, ?_⟩
              have z : ¬ r u = r o := fun z => q (h.symm.trans z)
              rw [own_j, if_neg z]; exact h
      by_cases z : own_M r it (o :: t) (r x)
      · rw [if_pos z, if_pos (iff.mpr z)]
      · rw [if_neg z, if_neg (fun y => z (iff.mp y))]
def own_S (l : Nat → Nat) (it : Nat) (os : List Nat) (x y : Nat) : Prop := l x = l y ∨ (own_M l it os (l x) ∧ own_M l it os (l y))
open Classical in
theorem own_rootS {l : Nat → Nat} {it : Nat} {os : List Nat} (h2 : ∀ x, x < 5 → l (l x) = l x) (hit : it < 5) {x : Nat} (hx : x < 5) : own_S l it os x (own_rs it os l x) := by
  rw [own_rs_eq]
  by_cases q : own_M l it os (l x)
  · rw [if_pos q]; exact Or.inr ⟨q, Or.inl (h2 it hit)⟩
  · rw [if_neg q]; exact Or.inl (h2 x hx).symm
open Classical in
theorem own_pairS {l : Nat → Nat} {it : Nat} {os : List Nat} {x y : Nat} : own_rs it os l x = own_rs it os l y ↔ own_S l it os x y := by
  rw [own_rs_eq, own_rs_eq]
  unfold own_S
  by_cases q : own_M l it os (l x)
  · by_cases z : own_M l it os (l y)
    · rw [if_pos q, if_pos z]; exact ⟨fun _ => Or.inr ⟨q, z⟩, fun _ => rfl⟩
    · rw [if_pos q, if_neg z]
      exact ⟨fun e => absurd (Or.inl e.symm) z, fun e => absurd (e.elim (fun e => e ▸ q) fun e => e.2) z⟩
  · by_cases z : own_M l it os (l y)
    · rw [if_neg q, if_pos z]
      exact ⟨fun e => absurd (Or.inl e) q, fun e => absurd (e.elim (fun e => e ▸ z) fun e => e.1) q⟩
    · rw [if_neg q, if_neg z]
      exact ⟨Or.inl, fun e => e.elim id fun e => absurd e.1 q⟩
def own_P (l li m x0 x1 x2 x3 x4 : Int32) : Prop := l = li ∨ (¬ m &&& (1 : Int32) = 0 ∧ x0 = l) ∨ (¬ m &&& (2 : Int32) = 0 ∧ x1 = l) ∨ (¬ m &&& (4 : Int32) = 0 ∧ x2 = l) ∨ (¬ m &&& (8 : Int32) = 0 ∧ x3 = l) ∨ (¬ m &&& (16 : Int32) = 0 ∧ x4 = l)
def own_PS (lx ly li m x0 x1 x2 x3 x4 : Int32) : Prop := lx = ly ∨ (own_P lx li m x0 x1 x2 x3 x4 ∧ own_P ly li m x0 x1 x2 x3 x4)
theorem own_PM {l : Nat → Nat} (hl : ∀ x, x < 5 → l x < 5) {it mk x : Nat} (hit : it < 5) (hmk : mk < 32) (hx : x < 5) : own_P x.toInt32 (l it).toInt32 mk.toInt32 (l 0).toInt32 (l 1).toInt32 (l 2).toInt32 (l 3).toInt32 (l 4).toInt32 ↔ own_M l it (own_os mk 0) x := by
  have I : ∀ o, o < 5 → ((l o).toInt32 = x.toInt32 ↔ l o = x) := fun o ho => own_inj (by have := hl o ho; omega) (by omega)
  have B := own_bit_all mk hmk
  have L : ∀ o ∈ own_os mk 0, o < 5 := fun o ho => List.mem_range.mp (List.mem_filter.mp ho).1
  unfold own_P own_M
  rw [I 0 (by decide), I 1 (by decide), I 2 (by decide), I 3 (by decide), I 4 (by decide), own_inj (i := x) (j := l it) (by omega) (by have := hl it hit; omega)]
  have b0 := B 0 (by decide); have b1 := B 1 (by decide); have b2 := B 2 (by decide); have b3 := B 3 (by decide); have b4 := B 4 (by decide)
  constructor
  · rintro (h | ⟨g, h⟩ | ⟨g, h⟩ | ⟨g, h⟩ | ⟨g, h⟩ | ⟨g, h⟩)
    · exact Or.inl h
    · exact Or.inr ⟨0, b0.mpr g, h⟩
    · exact Or.inr ⟨1, b1.mpr g, h⟩
    · exact Or.inr ⟨2, b2.mpr g, h⟩
    · exact Or.inr ⟨3, b3.mpr g, h⟩
    · exact Or.inr ⟨4, b4.mpr g, h⟩
  · rintro (h | ⟨o, ho, h⟩)
    · exact Or.inl h
    · match o, L o ho, ho, h with
      | 0, _, ho, h => exact Or.inr (Or.inl ⟨b0.mp ho, h⟩)
      | 1, _, ho, h => exact Or.inr (Or.inr (Or.inl ⟨b1.mp ho, h⟩))
      | 2, _, ho, h => exact Or.inr (Or.inr (Or.inr (Or.inl ⟨b2.mp ho, h⟩)))
      | 3, _, ho, h => exact Or.inr (Or.inr (Or.inr (Or.inr (Or.inl ⟨b3.mp ho, h⟩))))
      | 4, _, ho, h => exact Or.inr (Or.inr (Or.inr (Or.inr (Or.inr ⟨b4.mp ho, h⟩))))
theorem own_PSS {l : Nat → Nat} (hl : ∀ x, x < 5 → l x < 5) {it mk x y : Nat} (hit : it < 5) (hmk : mk < 32) (hx : x < 5) (hy : y < 5) : own_PS (l x).toInt32 (l y).toInt32 (l it).toInt32 mk.toInt32 (l 0).toInt32 (l 1).toInt32 (l 2).toInt32 (l 3).toInt32 (l 4).toInt32 ↔ own_S l it (own_os mk 0) x y := by
  unfold own_PS own_S
  rw [own_PM hl hit hmk (hl x hx), own_PM hl hit hmk (hl y hy), own_inj (by have := hl x hx; omega) (by have := hl y hy; omega)]
def own_l1 (x a b : Int32) : Int32 := if x = a then a else if x = b then a else x
def own_l2 (x a b c d : Int32) : Int32 := if own_l1 x a b = own_l1 c a b then own_l1 c a b else if own_l1 x a b = own_l1 d a b then own_l1 c a b else own_l1 x a b
theorem own_l1_eq {x a b : Nat} (hx : x < 5) (ha : a < 5) (hB : b < 5) : own_l1 x.toInt32 a.toInt32 b.toInt32 = (own_j (fun i => i) a b x).toInt32 := by
  unfold own_l1 own_j
  simp only [own_inj (i := x) (j := a) (by omega) (by omega), own_inj (i := x) (j := b) (by omega) (by omega)]
  by_cases q : x = b
  · simp [q]
  · by_cases z : x = a
    · simp [q, z]
    · simp [q, z]
theorem own_l2_eq {x a b c d : Nat} (hx : x < 5) (ha : a < 5) (hB : b < 5) (hc : c < 5) (hd : d < 5) : own_l2 x.toInt32 a.toInt32 b.toInt32 c.toInt32 d.toInt32 = (own_j (own_j (fun i => i) a b) c d x).toInt32 := by
  have B : ∀ y, y < 5 → own_j (fun i => i) a b y < 5 := fun y hy => by unfold own_j; split <;> assumption
  unfold own_l2
  rw [own_l1_eq hx ha hB, own_l1_eq hc ha hB, own_l1_eq hd ha hB]
  have b1 := B x hx; have b2 := B c hc; have b3 := B d hd
  simp only [own_inj (i := own_j (fun i => i) a b x) (j := own_j (fun i => i) a b c) (by omega) (by omega), own_inj (i := own_j (fun i => i) a b x) (j := own_j (fun i => i) a b d) (by omega) (by omega)]
  generalize own_j (fun i => i) a b = f at *
  unfold own_j
  by_cases q : f x = f d
  · simp [q]
  · by_cases z : f x = f c
    · simp [q, z]
    · simp [q, z]
theorem d_jdk_92_method_1_0 : decode jdk_92_method_1_code 0 = .ok (.iload_n 0, 1) := by decide +kernel
theorem d_jdk_92_method_1_1 : decode jdk_92_method_1_code 1 = .ok (.bipush 6, 2) := by decide +kernel
theorem d_jdk_92_method_1_3 : decode jdk_92_method_1_code 3 = .ok (.ishr, 1) := by decide +kernel
theorem d_jdk_92_method_1_4 : decode jdk_92_method_1_code 4 = .ok (.ireturn, 1) := by decide +kernel
theorem pn_1 : plainName "java/util/BitSet" = true := by first | (simp [plainName, overriddenIn]; done) | decide +kernel
theorem ef_rmWi (m : MethodId) (x0 : Int32) : entryFrame m #[(.int x0)] 1 = mkF m 0 #[.val (.int x0)] [] := by first | (simp [entryFrame, mkF, argsToLocals, Value.category]; done) | rfl
set_option maxRecDepth 65536 in
set_option maxHeartbeats 40000000 in
theorem rmWi (l : Launch) (Z : State) (a0 : Array Value) (hw : ∀ d ∈ tables_1, d.before a0 Z = true) (z : Int32) (p0 : Int32) (h0 : Heap) (O0 : Ext Z.heap h0) (hz : p0 >>> ((6 : Int32) &&& 31) = z) :
    Ctr l Z (⟨"java/util/BitSet", "wordIndex", "(I)I"⟩ : MethodName) jdk_92_method_1_code 1 (some .int) [] ({ frames := 0, cells := 0, slots := 0, locals := 0 } : Room) #[(.int p0)] h0 (fun v h L => v = some (.int z) ∧ Fr Z.heap.size L ∧ h = h0) := by
  refine ctr (plainFor_of_name pn_1) ?_
  intro p e s m below meth c s₁ hx hby hml hown hnm hret hlocks hZ X0 e0
  have N0 := Fr.nil Z.heap.size
  have hsz : ∀ {Ls : Array Slot}, Ls.size = 1 → Ls.size = c.maxLocals := fun q => q.trans hml.symm
  refine goE (ef_rmWi m (p0)) ?_
  show Goes p e below _ (s₁.setTop (mkF m 0 #[.val (.int p0)] []))
  refine gIloadN X0 hx (hb hby d_jdk_92_method_1_0) rfl ?_
  refine gBipush X0 hx (hb hby d_jdk_92_method_1_1) (v := (6 : Int32)) rfl ?_
  refine gIshr X0 hx (hb hby d_jdk_92_method_1_3) ?_
  exact goRetI X0 hx hret hlocks (hb hby d_jdk_92_method_1_4) (by decide) (by decide) e0 (⟨by rw [← hz], N0, rfl⟩)
theorem d_jdk_92_method_6_0 : decode jdk_92_method_6_code 0 = .ok (.aload_n 0, 1) := by decide +kernel
theorem d_jdk_92_method_6_1 : decode jdk_92_method_6_code 1 = .ok (.iload_n 1, 1) := by decide +kernel
theorem d_jdk_92_method_6_2 : decode jdk_92_method_6_code 2 = .ok (.iconst 1, 1) := by decide +kernel
theorem d_jdk_92_method_6_3 : decode jdk_92_method_6_code 3 = .ok (.isub, 1) := by decide +kernel
theorem d_jdk_92_method_6_4 : decode jdk_92_method_6_code 4 = .ok (.invokestatic 52, 3) := by decide +kernel
theorem d_jdk_92_method_6_7 : decode jdk_92_method_6_code 7 = .ok (.iconst 1, 1) := by decide +kernel
theorem d_jdk_92_method_6_8 : decode jdk_92_method_6_code 8 = .ok (.iadd, 1) := by decide +kernel
theorem d_jdk_92_method_6_9 : decode jdk_92_method_6_code 9 = .ok (.newarray .long, 2) := by decide +kernel
theorem d_jdk_92_method_6_11 : decode jdk_92_method_6_code 11 = .ok (.putfield 11, 3) := by decide +kernel
theorem d_jdk_92_method_6_14 : decode jdk_92_method_6_code 14 = .ok (.return_, 1) := by decide +kernel
theorem ef_rmIw (m : MethodId) (x0 : Addr) (x1 : Int32) : entryFrame m #[(.ref x0), (.int x1)] 2 = mkF m 0 #[.val (.ref x0), .val (.int x1)] [] := by first | (simp [entryFrame, mkF, argsToLocals, Value.category]; done) | rfl
set_option maxRecDepth 65536 in
set_option maxHeartbeats 40000000 in
theorem rmIw (l : Launch) (Z : State) (a0 : Array Value) (hw : ∀ d ∈ tables_1, d.before a0 Z = true)  (a1 : Addr) (h0 : Heap) (O0 : Ext Z.heap h0) (E1 : Exa Z h0 a1 "java/util/BitSet") (F1 : Fld Z h0 a1 "java/util/BitSet" "words" "[J" .null) (F2 : Fld Z h0 a1 "java/util/BitSet" "wordsInUse" "I" (.int (0 : Int32))) (F3 : Fld Z h0 a1 "java/util/BitSet" "sizeIsSticky" "Z" (.int (0 : Int32))) (fr1 : Z.heap.size ≤ a1) :
    Ctr l Z (⟨"java/util/BitSet", "initWords", "(I)V"⟩ : MethodName) jdk_92_method_6_code 2 none [] ({ frames := 1, cells := 1, slots := 1, locals := 16 } : Room) #[(.ref a1), (.int (64 : Int32))] h0 (fun v h L => v = none ∧ Fr Z.heap.size L ∧ Keep h0 h [a1] ∧ ∃ u, h0.size ≤ u ∧ Fld Z h a1 "java/util/BitSet" "words" "[J" (.ref u) ∧ Fld Z h a1 "java/util/BitSet" "wordsInUse" "I" (.int (0 : Int32)) ∧ Fld Z h a1 "java/util/BitSet" "sizeIsSticky" "Z" (.int (0 : Int32)) ∧ Ary Z h u .long [(.long (0 : Int64))]) := by
  refine ctr (plainFor_of_name pn_1) ?_
  intro p e s m below meth c s₁ hx hby hml hown hnm hret hlocks hZ X0 e0
  have N0 := Fr.nil Z.heap.size
  have hsz : ∀ {Ls : Array Slot}, Ls.size = 2 → Ls.size = c.maxLocals := fun q => q.trans hml.symm
  have K0 := Keep.refl h0 [a1]
  refine goE (ef_rmIw m (a1) ((64 : Int32))) ?_
  show Goes p e below _ (s₁.setTop (mkF m 0 #[.val (.ref a1), .val (.int (64 : Int32))] []))
  refine gAloadN X0 hx (hb hby d_jdk_92_method_6_0) rfl rfl ?_
  refine gIloadN X0 hx (hb hby d_jdk_92_method_6_1) rfl ?_
  refine gIconst X0 hx (hb hby d_jdk_92_method_6_2) (v := (1 : Int32)) rfl ?_
  refine gIsub X0 hx (hb hby d_jdk_92_method_6_3) ?_
  refine goCallS X0 hx hZ hown (hw _ (List.mem_of_getElem? (i := 39) rfl)) (hw _ (List.mem_of_getElem? (i := 40) rfl)) (hw _ (List.mem_of_getElem? (i := 25) rfl)) (hw _ (List.mem_of_getElem? (i := 41) rfl)) (by decide) (rmWi l Z a0 hw (0 : Int32) (63 : Int32) h0 O0 (by decide)) 1 (by decide) (by decide) e0 (hsz rfl) [(.int (63 : Int32))] [(.ref a1)] pd_0 rfl rfl rfl (Nat.le_of_eq rfl) (hb hby d_jdk_92_method_6_4) (by decide) (by decide) (fun Tt1 vt1 Lt1 Xt1 qt1 => ?_)
  obtain ⟨rfl, N2, et1⟩ := qt1
  have N3 := Fr.app N0 N2
  show Goes p e below _ (Tt1.setTop (mkF m 7 #[.val (.ref a1), .val (.int (64 : Int32))] [(.int (0 : Int32)), (.ref a1)]))
  refine gIconst Xt1 hx (hb hby d_jdk_92_method_6_7) (v := (1 : Int32)) rfl ?_
  refine gIadd Xt1 hx (hb hby d_jdk_92_method_6_8) ?_
  obtain ⟨Tt4, ht4, kt4, Xt4, et4, Et4, At4, stt4⟩ := newP Xt1 hx hZ (hw _ (List.mem_of_getElem? (i := 42) rfl)) et1 (g := (mkF m 9 #[.val (.ref a1), .val (.int (64 : Int32))] [(.int (1 : Int32)), (.ref a1)])) rfl (hb hby d_jdk_92_method_6_9) rfl (by decide) (cap := 1) (by decide) (by decide) (by decide) (by decide)
  obtain ⟨ob5, gob5⟩ : ∃ z, z = h0.size := ⟨_, rfl⟩
  rw [← gob5] at At4 stt4
  refine go stt4 ?_
  have ne_a1_ob5 : a1 ≠ ob5 := Nat.ne_of_lt (gob5 ▸ E1.lt)
  have fr_ob5 : Z.heap.size ≤ ob5 := gob5 ▸ O0.1
  have pa_ob5 : h0.size ≤ ob5 := gob5 ▸ K0.1
  replace E1 := E1.ext Et4
  replace F1 := F1.ext Et4
  replace F2 := F2.ext Et4
  replace F3 := F3.ext Et4
  have O6 : Ext Z.heap ht4 := extT O0 Et4
  have K7 := K0.ext Et4
  have Y_ob5 : Ary Z ht4 ob5 .long [(.long (0 : Int64))] := Ary.new At4 rfl (by decide)
  show Goes p e below _ (Tt4.setTop (mkF m 11 #[.val (.ref a1), .val (.int (64 : Int32))] [(.ref ob5), (.ref a1)]))
  obtain ⟨Tt8, ht8, Xt8, et8, Wt8, stt8⟩ := putF Xt4 hx hZ hown (host := "") (Or.inl (hw _ (List.mem_of_getElem? (i := 43) rfl))) Via.refl et4 F1 E1 (Or.inl (hw _ (List.mem_of_getElem? (i := 44) rfl))) (hw _ (List.mem_of_getElem? (i := 24) rfl)) (ty := (.array .long)) (by decide) rfl rfl (g := (mkF m 11 #[.val (.ref a1), .val (.int (64 : Int32))] [(.ref ob5), (.ref a1)])) rfl rfl (hb hby d_jdk_92_method_6_11)
  refine go stt8 ?_
  have N9 := Fr.snoc Xt8 N3 fr1
  replace F1 := F1.same Wt8
  replace E1 := E1.wr Wt8
  replace F2 := F2.other Wt8 (Or.inr (slot_ne (Or.inl (hw _ (List.mem_of_getElem? (i := 31) rfl))) (Or.inl (hw _ (List.mem_of_getElem? (i := 44) rfl))) (by decide) (t := .int) (by decide) (t' := (.array .long)) (by decide)))
  replace F3 := F3.other Wt8 (Or.inr (slot_ne (Or.inl (hw _ (List.mem_of_getElem? (i := 33) rfl))) (Or.inl (hw _ (List.mem_of_getElem? (i := 44) rfl))) (by decide) (t := .boolean) (by decide) (t' := (.array .long)) (by decide)))
  replace Y_ob5 := Y_ob5.other Wt8 (Ne.symm ne_a1_ob5)
  have O10 : Ext Z.heap ht8 := extW O6 Wt8 fr1
  have K11 := K7.wr Wt8 (Or.inl (by simp))
  show Goes p e below _ (Tt8.setTop (mkF m 14 #[.val (.ref a1), .val (.int (64 : Int32))] []))
  exact goRet0 Xt8 hx hret hlocks (hb hby d_jdk_92_method_6_14) (by decide) (by decide) et8 (⟨rfl, N9, K11, ob5, pa_ob5, F1, F2, F3, Y_ob5⟩)
theorem d_jdk_92_method_4_0 : decode jdk_92_method_4_code 0 = .ok (.aload_n 0, 1) := by decide +kernel
theorem d_jdk_92_method_4_1 : decode jdk_92_method_4_code 1 = .ok (.invokespecial 21, 3) := by decide +kernel
theorem d_jdk_92_method_4_4 : decode jdk_92_method_4_code 4 = .ok (.aload_n 0, 1) := by decide +kernel
theorem d_jdk_92_method_4_5 : decode jdk_92_method_4_code 5 = .ok (.iconst 0, 1) := by decide +kernel
theorem d_jdk_92_method_4_6 : decode jdk_92_method_4_code 6 = .ok (.putfield 7, 3) := by decide +kernel
theorem d_jdk_92_method_4_9 : decode jdk_92_method_4_code 9 = .ok (.aload_n 0, 1) := by decide +kernel
theorem d_jdk_92_method_4_10 : decode jdk_92_method_4_code 10 = .ok (.iconst 0, 1) := by decide +kernel
theorem d_jdk_92_method_4_11 : decode jdk_92_method_4_code 11 = .ok (.putfield 24, 3) := by decide +kernel
theorem d_jdk_92_method_4_14 : decode jdk_92_method_4_code 14 = .ok (.aload_n 0, 1) := by decide +kernel
theorem d_jdk_92_method_4_15 : decode jdk_92_method_4_code 15 = .ok (.bipush 64, 2) := by decide +kernel
theorem pd_1 : parseMethodDescriptor "(I)V" = some ⟨[.int], none⟩ := by decide +kernel
theorem d_jdk_92_method_4_17 : decode jdk_92_method_4_code 17 = .ok (.invokevirtual 27, 3) := by decide +kernel
theorem d_jdk_92_method_4_20 : decode jdk_92_method_4_code 20 = .ok (.aload_n 0, 1) := by decide +kernel
theorem d_jdk_92_method_4_21 : decode jdk_92_method_4_code 21 = .ok (.iconst 0, 1) := by decide +kernel
theorem d_jdk_92_method_4_22 : decode jdk_92_method_4_code 22 = .ok (.putfield 24, 3) := by decide +kernel
theorem d_jdk_92_method_4_25 : decode jdk_92_method_4_code 25 = .ok (.return_, 1) := by decide +kernel
theorem ef_rmBi (m : MethodId) (x0 : Addr) : entryFrame m #[(.ref x0)] 1 = mkF m 0 #[.val (.ref x0)] [] := by first | (simp [entryFrame, mkF, argsToLocals, Value.category]; done) | rfl
set_option maxRecDepth 65536 in
set_option maxHeartbeats 40000000 in
theorem rmBi (l : Launch) (Z : State) (a0 : Array Value) (hw : ∀ d ∈ tables_1, d.before a0 Z = true)  (a1 : Addr) (h0 : Heap) (O0 : Ext Z.heap h0) (E1 : Exa Z h0 a1 "java/util/BitSet") (F1 : Fld Z h0 a1 "java/util/BitSet" "words" "[J" .null) (F2 : Fld Z h0 a1 "java/util/BitSet" "wordsInUse" "I" (.int (0 : Int32))) (F3 : Fld Z h0 a1 "java/util/BitSet" "sizeIsSticky" "Z" (.int (0 : Int32))) (fr1 : Z.heap.size ≤ a1) :
    Ctr l Z (⟨"java/util/BitSet", "<init>", "()V"⟩ : MethodName) jdk_92_method_4_code 1 none [] ({ frames := 2, cells := 1, slots := 1, locals := 32 } : Room) #[(.ref a1)] h0 (fun v h L => v = none ∧ Fr Z.heap.size L ∧ Keep h0 h [a1] ∧ ∃ u, h0.size ≤ u ∧ Fld Z h a1 "java/util/BitSet" "words" "[J" (.ref u) ∧ Fld Z h a1 "java/util/BitSet" "wordsInUse" "I" (.int (0 : Int32)) ∧ Ary Z h u .long [(.long (0 : Int64))]) := by
  refine ctr (plainFor_of_name pn_1) ?_
  intro p e s m below meth c s₁ hx hby hml hown hnm hret hlocks hZ X0 e0
  have N0 := Fr.nil Z.heap.size
  have hsz : ∀ {Ls : Array Slot}, Ls.size = 1 → Ls.size = c.maxLocals := fun q => q.trans hml.symm
  have K0 := Keep.refl h0 [a1]
  refine goE (ef_rmBi m (a1)) ?_
  show Goes p e below _ (s₁.setTop (mkF m 0 #[.val (.ref a1)] []))
  refine gAloadN X0 hx (hb hby d_jdk_92_method_4_0) rfl rfl ?_
  obtain ⟨Tt1, Xt1, et1, stt1⟩ := initO X0 hx hZ hown (hw _ (List.mem_of_getElem? (i := 29) rfl)) (hw _ (List.mem_of_getElem? (i := 8) rfl)) (hw _ (List.mem_of_getElem? (i := 9) rfl)) e0 (g := (mkF m 1 #[.val (.ref a1)] [(.ref a1)])) rfl (by rw [hml]; rfl) rfl (hb hby d_jdk_92_method_4_1) (by decide) (W := 0) (Nat.le_of_eq rfl) (by decide)
  refine go stt1 ?_
  show Goes p e below _ (Tt1.setTop (mkF m 4 #[.val (.ref a1)] []))
  refine gAloadN Xt1 hx (hb hby d_jdk_92_method_4_4) rfl rfl ?_
  refine gIconst Xt1 hx (hb hby d_jdk_92_method_4_5) (v := (0 : Int32)) rfl ?_
  obtain ⟨Tt2, ht2, Xt2, et2, Wt2, stt2⟩ := putF Xt1 hx hZ hown (host := "") (Or.inl (hw _ (List.mem_of_getElem? (i := 30) rfl))) Via.refl et1 F2 E1 (Or.inl (hw _ (List.mem_of_getElem? (i := 31) rfl))) (hw _ (List.mem_of_getElem? (i := 24) rfl)) (ty := .int) (by decide) rfl rfl (g := (mkF m 6 #[.val (.ref a1)] [(.int (0 : Int32)), (.ref a1)])) rfl rfl (hb hby d_jdk_92_method_4_6)
  refine go stt2 ?_
  have N3 := Fr.snoc Xt2 N0 fr1
  replace F2 := F2.same Wt2
  replace E1 := E1.wr Wt2
  replace F1 := F1.other Wt2 (Or.inr (slot_ne (Or.inl (hw _ (List.mem_of_getElem? (i := 44) rfl))) (Or.inl (hw _ (List.mem_of_getElem? (i := 31) rfl))) (by decide) (t := (.array .long)) (by decide) (t' := .int) (by decide)))
  replace F3 := F3.other Wt2 (Or.inr (slot_ne (Or.inl (hw _ (List.mem_of_getElem? (i := 33) rfl))) (Or.inl (hw _ (List.mem_of_getElem? (i := 31) rfl))) (by decide) (t := .boolean) (by decide) (t' := .int) (by decide)))
  have O4 : Ext Z.heap ht2 := extW O0 Wt2 fr1
  have K5 := K0.wr Wt2 (Or.inl (by simp))
  show Goes p e below _ (Tt2.setTop (mkF m 9 #[.val (.ref a1)] []))
  refine gAloadN Xt2 hx (hb hby d_jdk_92_method_4_9) rfl rfl ?_
  refine gIconst Xt2 hx (hb hby d_jdk_92_method_4_10) (v := (0 : Int32)) rfl ?_
  obtain ⟨Tt6, ht6, Xt6, et6, Wt6, stt6⟩ := putF Xt2 hx hZ hown (host := "") (Or.inl (hw _ (List.mem_of_getElem? (i := 32) rfl))) Via.refl et2 F3 E1 (Or.inl (hw _ (List.mem_of_getElem? (i := 33) rfl))) (hw _ (List.mem_of_getElem? (i := 24) rfl)) (ty := .boolean) (by decide) rfl rfl (g := (mkF m 11 #[.val (.ref a1)] [(.int (0 : Int32)), (.ref a1)])) rfl rfl (hb hby d_jdk_92_method_4_11)
  refine go stt6 ?_
  have N7 := Fr.snoc Xt6 N3 fr1
  replace F3 := F3.same Wt6
  replace E1 := E1.wr Wt6
  replace F1 := F1.other Wt6 (Or.inr (slot_ne (Or.inl (hw _ (List.mem_of_getElem? (i := 44) rfl))) (Or.inl (hw _ (List.mem_of_getElem? (i := 33) rfl))) (by decide) (t := (.array .long)) (by decide) (t' := .boolean) (by decide)))
  replace F2 := F2.other Wt6 (Or.inr (slot_ne (Or.inl (hw _ (List.mem_of_getElem? (i := 31) rfl))) (Or.inl (hw _ (List.mem_of_getElem? (i := 33) rfl))) (by decide) (t := .int) (by decide) (t' := .boolean) (by decide)))
  have O8 : Ext Z.heap ht6 := extW O4 Wt6 fr1
  have K9 := K5.wr Wt6 (Or.inl (by simp))
  show Goes p e below _ (Tt6.setTop (mkF m 14 #[.val (.ref a1)] []))
  refine gAloadN Xt6 hx (hb hby d_jdk_92_method_4_14) rfl rfl ?_
  refine gBipush Xt6 hx (hb hby d_jdk_92_method_4_15) (v := (64 : Int32)) rfl ?_
  have lt_a1_t10 := E1.lt
  refine goCallP Xt6 hx hZ hown (hw _ (List.mem_of_getElem? (i := 34) rfl)) (hw _ (List.mem_of_getElem? (i := 36) rfl)) (hw _ (List.mem_of_getElem? (i := 37) rfl)) (hw _ (List.mem_of_getElem? (i := 35) rfl)) (hw _ (List.mem_of_getElem? (i := 25) rfl)) (hw _ (List.mem_of_getElem? (i := 38) rfl)) (by decide) (rmIw l Z a0 hw a1 ht6 O8 E1 F1 F2 F3 fr1) 0 (by decide) (by decide) et6 E1 (hsz rfl) [(.int (64 : Int32))] [] pd_1 rfl rfl rfl (Nat.le_of_eq rfl) (hb hby d_jdk_92_method_4_17) (by decide) (by decide) (fun Tt10 vt10 Lt10 Xt10 qt10 => ?_)
  obtain ⟨ht10, et10⟩ : ∃ z, Tt10.heap = z := ⟨_, rfl⟩
  rw [et10] at qt10
  obtain ⟨rfl, N11, Kct10, u, pu, F1, F2, F3, Yu⟩ := qt10
  have N12 := Fr.app N7 N11
  replace E1 := E1.keep Kct10
  have O13 : Ext Z.heap ht10 := extK O8 Kct10 (allS fr1 all0)
  have K14 := K9.trans Kct10 (allS (Or.inl (by simp)) all0)
  have ne_a1_u : a1 ≠ u := Nat.ne_of_lt (Nat.lt_of_lt_of_le lt_a1_t10 pu)
  have fr_u : Z.heap.size ≤ u := Nat.le_trans O8.1 pu
  have pa_u : h0.size ≤ u := Nat.le_trans K9.1 pu
  show Goes p e below _ (Tt10.setTop (mkF m 20 #[.val (.ref a1)] []))
  refine gAloadN Xt10 hx (hb hby d_jdk_92_method_4_20) rfl rfl ?_
  refine gIconst Xt10 hx (hb hby d_jdk_92_method_4_21) (v := (0 : Int32)) rfl ?_
  obtain ⟨Tt15, ht15, Xt15, et15, Wt15, stt15⟩ := putF Xt10 hx hZ hown (host := "") (Or.inl (hw _ (List.mem_of_getElem? (i := 32) rfl))) Via.refl et10 F3 E1 (Or.inl (hw _ (List.mem_of_getElem? (i := 33) rfl))) (hw _ (List.mem_of_getElem? (i := 24) rfl)) (ty := .boolean) (by decide) rfl rfl (g := (mkF m 22 #[.val (.ref a1)] [(.int (0 : Int32)), (.ref a1)])) rfl rfl (hb hby d_jdk_92_method_4_22)
  refine go stt15 ?_
  have N16 := Fr.snoc Xt15 N12 fr1
  replace F3 := F3.same Wt15
  replace E1 := E1.wr Wt15
  replace F1 := F1.other Wt15 (Or.inr (slot_ne (Or.inl (hw _ (List.mem_of_getElem? (i := 44) rfl))) (Or.inl (hw _ (List.mem_of_getElem? (i := 33) rfl))) (by decide) (t := (.array .long)) (by decide) (t' := .boolean) (by decide)))
  replace F2 := F2.other Wt15 (Or.inr (slot_ne (Or.inl (hw _ (List.mem_of_getElem? (i := 31) rfl))) (Or.inl (hw _ (List.mem_of_getElem? (i := 33) rfl))) (by decide) (t := .int) (by decide) (t' := .boolean) (by decide)))
  replace Yu := Yu.other Wt15 (Ne.symm ne_a1_u)
  have O17 : Ext Z.heap ht15 := extW O13 Wt15 fr1
  have K18 := K14.wr Wt15 (Or.inl (by simp))
  show Goes p e below _ (Tt15.setTop (mkF m 25 #[.val (.ref a1)] []))
  exact goRet0 Xt15 hx hret hlocks (hb hby d_jdk_92_method_4_25) (by decide) (by decide) et15 (⟨rfl, N16, K18, u, pa_u, F1, F2, Yu⟩)
theorem d_jdk_92_method_2_0 : decode jdk_92_method_2_code 0 = .ok (.getstatic 3, 3) := by decide +kernel
theorem d_jdk_92_method_2_3 : decode jdk_92_method_2_code 3 = .ok (.ifCond .ne 34, 3) := by decide +kernel
theorem d_jdk_92_method_2_37 : decode jdk_92_method_2_code 37 = .ok (.getstatic 3, 3) := by decide +kernel
theorem d_jdk_92_method_2_40 : decode jdk_92_method_2_code 40 = .ok (.ifCond .ne 30, 3) := by decide +kernel
theorem d_jdk_92_method_2_70 : decode jdk_92_method_2_code 70 = .ok (.getstatic 3, 3) := by decide +kernel
theorem d_jdk_92_method_2_73 : decode jdk_92_method_2_code 73 = .ok (.ifCond .ne 37, 3) := by decide +kernel
theorem d_jdk_92_method_2_110 : decode jdk_92_method_2_code 110 = .ok (.return_, 1) := by decide +kernel
theorem ef_rmCi (m : MethodId) (x0 : Addr) : entryFrame m #[(.ref x0)] 1 = mkF m 0 #[.val (.ref x0)] [] := by first | (simp [entryFrame, mkF, argsToLocals, Value.category]; done) | rfl
set_option maxRecDepth 65536 in
set_option maxHeartbeats 40000000 in
theorem rmCi (l : Launch) (Z : State) (a0 : Array Value) (hw : ∀ d ∈ tables_1, d.before a0 Z = true)  (a1 : Addr) (h0 : Heap) (O0 : Ext Z.heap h0) (S_a : Sta Z Z.heap "java/util/BitSet" "$assertionsDisabled" "Z" (.int (1 : Int32))) :
    Ctr l Z (⟨"java/util/BitSet", "checkInvariants", "()V"⟩ : MethodName) jdk_92_method_2_code 1 none [] ({ frames := 0, cells := 0, slots := 0, locals := 0 } : Room) #[(.ref a1)] h0 (fun v h L => v = none ∧ Fr Z.heap.size L ∧ h = h0) := by
  refine ctr (plainFor_of_name pn_1) ?_
  intro p e s m below meth c s₁ hx hby hml hown hnm hret hlocks hZ X0 e0
  have N0 := Fr.nil Z.heap.size
  have hsz : ∀ {Ls : Array Slot}, Ls.size = 1 → Ls.size = c.maxLocals := fun q => q.trans hml.symm
  refine goE (ef_rmCi m (a1)) ?_
  show Goes p e below _ (s₁.setTop (mkF m 0 #[.val (.ref a1)] []))
  obtain ⟨Tt1, Xt1, et1, stt1⟩ := getS2 X0 hx hZ hown (host := "") (Or.inl (hw _ (List.mem_of_getElem? (i := 65) rfl))) Via.refl e0 (S_a.ext O0) (g := (mkF m 0 #[.val (.ref a1)] [])) rfl (hb hby d_jdk_92_method_2_0)
  refine go stt1 ?_
  show Goes p e below _ (Tt1.setTop (mkF m 3 #[.val (.ref a1)] [(.int (1 : Int32))]))
  refine gIfY Xt1 hx (hb hby d_jdk_92_method_2_3) (pc' := 37) (XT.i0_ne_t (by decide)) (by decide) (by decide) ?_
  show Goes p e below _ (Tt1.setTop (mkF m 37 #[.val (.ref a1)] []))
  obtain ⟨Tt2, Xt2, et2, stt2⟩ := getS2 Xt1 hx hZ hown (host := "") (Or.inl (hw _ (List.mem_of_getElem? (i := 65) rfl))) Via.refl et1 (S_a.ext O0) (g := (mkF m 37 #[.val (.ref a1)] [])) rfl (hb hby d_jdk_92_method_2_37)
  refine go stt2 ?_
  show Goes p e below _ (Tt2.setTop (mkF m 40 #[.val (.ref a1)] [(.int (1 : Int32))]))
  refine gIfY Xt2 hx (hb hby d_jdk_92_method_2_40) (pc' := 70) (XT.i0_ne_t (by decide)) (by decide) (by decide) ?_
  show Goes p e below _ (Tt2.setTop (mkF m 70 #[.val (.ref a1)] []))
  obtain ⟨Tt3, Xt3, et3, stt3⟩ := getS2 Xt2 hx hZ hown (host := "") (Or.inl (hw _ (List.mem_of_getElem? (i := 65) rfl))) Via.refl et2 (S_a.ext O0) (g := (mkF m 70 #[.val (.ref a1)] [])) rfl (hb hby d_jdk_92_method_2_70)
  refine go stt3 ?_
  show Goes p e below _ (Tt3.setTop (mkF m 73 #[.val (.ref a1)] [(.int (1 : Int32))]))
  refine gIfY Xt3 hx (hb hby d_jdk_92_method_2_73) (pc' := 110) (XT.i0_ne_t (by decide)) (by decide) (by decide) ?_
  show Goes p e below _ (Tt3.setTop (mkF m 110 #[.val (.ref a1)] []))
  exact goRet0 Xt3 hx hret hlocks (hb hby d_jdk_92_method_2_110) (by decide) (by decide) et3 (⟨rfl, N0, rfl⟩)
theorem d_jdk_92_method_14_0 : decode jdk_92_method_14_code 0 = .ok (.aload_n 0, 1) := by decide +kernel
theorem d_jdk_92_method_14_1 : decode jdk_92_method_14_code 1 = .ok (.getfield 11, 3) := by decide +kernel
theorem d_jdk_92_method_14_4 : decode jdk_92_method_14_code 4 = .ok (.arraylength, 1) := by decide +kernel
theorem d_jdk_92_method_14_5 : decode jdk_92_method_14_code 5 = .ok (.iload_n 1, 1) := by decide +kernel
theorem d_jdk_92_method_14_6 : decode jdk_92_method_14_code 6 = .ok (.if_icmp .ge 32, 3) := by decide +kernel
theorem d_jdk_92_method_14_38 : decode jdk_92_method_14_code 38 = .ok (.return_, 1) := by decide +kernel
theorem ef_rmEc (m : MethodId) (x0 : Addr) (x1 : Int32) : entryFrame m #[(.ref x0), (.int x1)] 3 = mkF m 0 #[.val (.ref x0), .val (.int x1), .unset] [] := by first | (simp [entryFrame, mkF, argsToLocals, Value.category]; done) | rfl
set_option maxRecDepth 65536 in
set_option maxHeartbeats 40000000 in
theorem rmEc (l : Launch) (Z : State) (a0 : Array Value) (hw : ∀ d ∈ tables_1, d.before a0 Z = true) (ua : Addr) (wd : Int64) (a1 : Addr) (h0 : Heap) (O0 : Ext Z.heap h0) (F1 : Fld Z h0 a1 "java/util/BitSet" "words" "[J" (.ref ua)) (Y1 : Ary Z h0 ua .long [.long wd]) :
    Ctr l Z (⟨"java/util/BitSet", "ensureCapacity", "(I)V"⟩ : MethodName) jdk_92_method_14_code 3 none [] ({ frames := 0, cells := 0, slots := 0, locals := 0 } : Room) #[(.ref a1), (.int (1 : Int32))] h0 (fun v h L => v = none ∧ Fr Z.heap.size L ∧ h = h0) := by
  refine ctr (plainFor_of_name pn_1) ?_
  intro p e s m below meth c s₁ hx hby hml hown hnm hret hlocks hZ X0 e0
  have N0 := Fr.nil Z.heap.size
  have hsz : ∀ {Ls : Array Slot}, Ls.size = 3 → Ls.size = c.maxLocals := fun q => q.trans hml.symm
  refine goE (ef_rmEc m (a1) ((1 : Int32))) ?_
  show Goes p e below _ (s₁.setTop (mkF m 0 #[.val (.ref a1), .val (.int (1 : Int32)), .unset] []))
  refine gAloadN X0 hx (hb hby d_jdk_92_method_14_0) rfl rfl ?_
  obtain ⟨Tt1, Xt1, et1, stt1⟩ := getF X0 hx hZ hown (host := "") (Or.inl (hw _ (List.mem_of_getElem? (i := 43) rfl))) Via.refl e0 F1 (g := (mkF m 1 #[.val (.ref a1), .val (.int (1 : Int32)), .unset] [(.ref a1)])) rfl rfl (hb hby d_jdk_92_method_14_1)
  refine go stt1 ?_
  show Goes p e below _ (Tt1.setTop (mkF m 4 #[.val (.ref a1), .val (.int (1 : Int32)), .unset] [(.ref ua)]))
  refine goAlen Xt1 hx hZ et1 Y1 (n := (1 : Int32)) (hb hby d_jdk_92_method_14_4) rfl ?_
  refine gIloadN Xt1 hx (hb hby d_jdk_92_method_14_5) rfl ?_
  refine gIcmpY Xt1 hx (hb hby d_jdk_92_method_14_6) (pc' := 38) (XT.ii_ge_t (by decide)) (by decide) (by decide) ?_
  show Goes p e below _ (Tt1.setTop (mkF m 38 #[.val (.ref a1), .val (.int (1 : Int32)), .unset] []))
  exact goRet0 Xt1 hx hret hlocks (hb hby d_jdk_92_method_14_38) (by decide) (by decide) et1 (⟨rfl, N0, rfl⟩)
theorem d_jdk_92_method_15_0 : decode jdk_92_method_15_code 0 = .ok (.iload_n 1, 1) := by decide +kernel
theorem d_jdk_92_method_15_1 : decode jdk_92_method_15_code 1 = .ok (.iconst 1, 1) := by decide +kernel
theorem d_jdk_92_method_15_2 : decode jdk_92_method_15_code 2 = .ok (.iadd, 1) := by decide +kernel
theorem d_jdk_92_method_15_3 : decode jdk_92_method_15_code 3 = .ok (.istore_n 2, 1) := by decide +kernel
theorem d_jdk_92_method_15_4 : decode jdk_92_method_15_code 4 = .ok (.aload_n 0, 1) := by decide +kernel
theorem d_jdk_92_method_15_5 : decode jdk_92_method_15_code 5 = .ok (.getfield 7, 3) := by decide +kernel
theorem d_jdk_92_method_15_8 : decode jdk_92_method_15_code 8 = .ok (.iload_n 2, 1) := by decide +kernel
theorem d_jdk_92_method_15_9 : decode jdk_92_method_15_code 9 = .ok (.if_icmp .ge 13, 3) := by decide +kernel
theorem d_jdk_92_method_15_12 : decode jdk_92_method_15_code 12 = .ok (.aload_n 0, 1) := by decide +kernel
theorem d_jdk_92_method_15_13 : decode jdk_92_method_15_code 13 = .ok (.iload_n 2, 1) := by decide +kernel
theorem d_jdk_92_method_15_14 : decode jdk_92_method_15_code 14 = .ok (.invokevirtual 139, 3) := by decide +kernel
theorem d_jdk_92_method_15_17 : decode jdk_92_method_15_code 17 = .ok (.aload_n 0, 1) := by decide +kernel
theorem d_jdk_92_method_15_18 : decode jdk_92_method_15_code 18 = .ok (.iload_n 2, 1) := by decide +kernel
theorem d_jdk_92_method_15_19 : decode jdk_92_method_15_code 19 = .ok (.putfield 7, 3) := by decide +kernel
theorem d_jdk_92_method_15_22 : decode jdk_92_method_15_code 22 = .ok (.return_, 1) := by decide +kernel
theorem ef_rmEt (m : MethodId) (x0 : Addr) (x1 : Int32) : entryFrame m #[(.ref x0), (.int x1)] 3 = mkF m 0 #[.val (.ref x0), .val (.int x1), .unset] [] := by first | (simp [entryFrame, mkF, argsToLocals, Value.category]; done) | rfl
set_option maxRecDepth 65536 in
set_option maxHeartbeats 40000000 in
theorem rmEt (l : Launch) (Z : State) (a0 : Array Value) (hw : ∀ d ∈ tables_1, d.before a0 Z = true) (ua : Addr) (wd : Int64) (u : Int32) (a1 : Addr) (h0 : Heap) (O0 : Ext Z.heap h0) (E1 : Exa Z h0 a1 "java/util/BitSet") (F1 : Fld Z h0 a1 "java/util/BitSet" "words" "[J" (.ref ua)) (F2 : Fld Z h0 a1 "java/util/BitSet" "wordsInUse" "I" (.int u)) (Y1 : Ary Z h0 ua .long [.long wd]) (hu : u = 0 ∨ u = 1) (ne : a1 ≠ ua) (fr1 : Z.heap.size ≤ a1) :
    Ctr l Z (⟨"java/util/BitSet", "expandTo", "(I)V"⟩ : MethodName) jdk_92_method_15_code 3 none [] ({ frames := 1, cells := 0, slots := 0, locals := 17 } : Room) #[(.ref a1), (.int (0 : Int32))] h0 (fun v h L => v = none ∧ Fr Z.heap.size L ∧ Keep h0 h [a1] ∧ Fld Z h a1 "java/util/BitSet" "words" "[J" (.ref ua) ∧ Fld Z h a1 "java/util/BitSet" "wordsInUse" "I" (.int (1 : Int32))) := by
  refine ctr (plainFor_of_name pn_1) ?_
  intro p e s m below meth c s₁ hx hby hml hown hnm hret hlocks hZ X0 e0
  have N0 := Fr.nil Z.heap.size
  have hsz : ∀ {Ls : Array Slot}, Ls.size = 3 → Ls.size = c.maxLocals := fun q => q.trans hml.symm
  have K0 := Keep.refl h0 [a1]
  refine goE (ef_rmEt m (a1) ((0 : Int32))) ?_
  show Goes p e below _ (s₁.setTop (mkF m 0 #[.val (.ref a1), .val (.int (0 : Int32)), .unset] []))
  refine gIloadN X0 hx (hb hby d_jdk_92_method_15_0) rfl ?_
  refine gIconst X0 hx (hb hby d_jdk_92_method_15_1) (v := (1 : Int32)) rfl ?_
  refine gIadd X0 hx (hb hby d_jdk_92_method_15_2) ?_
  refine gIstoreN X0 hx (hb hby d_jdk_92_method_15_3) (l' := #[.val (.ref a1), .val (.int (0 : Int32)), .val (.int (1 : Int32))]) rfl ?_
  refine gAloadN X0 hx (hb hby d_jdk_92_method_15_4) rfl rfl ?_
  obtain ⟨Tt1, Xt1, et1, stt1⟩ := getF X0 hx hZ hown (host := "") (Or.inl (hw _ (List.mem_of_getElem? (i := 30) rfl))) Via.refl e0 F2 (g := (mkF m 5 #[.val (.ref a1), .val (.int (0 : Int32)), .val (.int (1 : Int32))] [(.ref a1)])) rfl rfl (hb hby d_jdk_92_method_15_5)
  refine go stt1 ?_
  show Goes p e below _ (Tt1.setTop (mkF m 8 #[.val (.ref a1), .val (.int (0 : Int32)), .val (.int (1 : Int32))] [(.int u)]))
  refine gIloadN Xt1 hx (hb hby d_jdk_92_method_15_8) rfl ?_
  rcases hu with rfl | rfl
  · show Goes p e below _ (Tt1.setTop (mkF m 9 #[.val (.ref a1), .val (.int (0 : Int32)), .val (.int (1 : Int32))] [(.int (1 : Int32)), (.int (0 : Int32))]))
    refine gIcmpN Xt1 hx (hb hby d_jdk_92_method_15_9) (XT.ii_ge_f (by decide)) ?_
    show Goes p e below _ (Tt1.setTop (mkF m 12 #[.val (.ref a1), .val (.int (0 : Int32)), .val (.int (1 : Int32))] []))
    refine gAloadN Xt1 hx (hb hby d_jdk_92_method_15_12) rfl rfl ?_
    refine gIloadN Xt1 hx (hb hby d_jdk_92_method_15_13) rfl ?_
    refine goCallP Xt1 hx hZ hown (hw _ (List.mem_of_getElem? (i := 55) rfl)) (hw _ (List.mem_of_getElem? (i := 57) rfl)) (hw _ (List.mem_of_getElem? (i := 58) rfl)) (hw _ (List.mem_of_getElem? (i := 56) rfl)) (hw _ (List.mem_of_getElem? (i := 25) rfl)) (hw _ (List.mem_of_getElem? (i := 59) rfl)) (by decide) (rmEc l Z a0 hw ua wd a1 h0 O0 F1 Y1) 0 (by decide) (by decide) et1 E1 (hsz rfl) [(.int (1 : Int32))] [] pd_1 rfl rfl rfl (Nat.le_of_eq rfl) (hb hby d_jdk_92_method_15_14) (by decide) (by decide) (fun Tt2 vt2 Lt2 Xt2 qt2 => ?_)
    obtain ⟨rfl, N3, et2⟩ := qt2
    have N4 := Fr.app N0 N3
    show Goes p e below _ (Tt2.setTop (mkF m 17 #[.val (.ref a1), .val (.int (0 : Int32)), .val (.int (1 : Int32))] []))
    refine gAloadN Xt2 hx (hb hby d_jdk_92_method_15_17) rfl rfl ?_
    refine gIloadN Xt2 hx (hb hby d_jdk_92_method_15_18) rfl ?_
    obtain ⟨Tt5, ht5, Xt5, et5, Wt5, stt5⟩ := putF Xt2 hx hZ hown (host := "") (Or.inl (hw _ (List.mem_of_getElem? (i := 30) rfl))) Via.refl et2 F2 E1 (Or.inl (hw _ (List.mem_of_getElem? (i := 31) rfl))) (hw _ (List.mem_of_getElem? (i := 24) rfl)) (ty := .int) (by decide) rfl rfl (g := (mkF m 19 #[.val (.ref a1), .val (.int (0 : Int32)), .val (.int (1 : Int32))] [(.int (1 : Int32)), (.ref a1)])) rfl rfl (hb hby d_jdk_92_method_15_19)
    refine go stt5 ?_
    have N6 := Fr.snoc Xt5 N4 fr1
    replace F2 := F2.same Wt5
    replace E1 := E1.wr Wt5
    replace F1 := F1.other Wt5 (Or.inr (slot_ne (Or.inl (hw _ (List.mem_of_getElem? (i := 44) rfl))) (Or.inl (hw _ (List.mem_of_getElem? (i := 31) rfl))) (by decide) (t := (.array .long)) (by decide) (t' := .int) (by decide)))
    replace Y1 := Y1.other Wt5 (Ne.symm ne)
    have O7 : Ext Z.heap ht5 := extW O0 Wt5 fr1
    have K8 := K0.wr Wt5 (Or.inl (by simp))
    show Goes p e below _ (Tt5.setTop (mkF m 22 #[.val (.ref a1), .val (.int (0 : Int32)), .val (.int (1 : Int32))] []))
    exact goRet0 Xt5 hx hret hlocks (hb hby d_jdk_92_method_15_22) (by decide) (by decide) et5 (⟨rfl, N6, K8, F1, F2⟩)
  · show Goes p e below _ (Tt1.setTop (mkF m 9 #[.val (.ref a1), .val (.int (0 : Int32)), .val (.int (1 : Int32))] [(.int (1 : Int32)), (.int (1 : Int32))]))
    refine gIcmpY Xt1 hx (hb hby d_jdk_92_method_15_9) (pc' := 22) (XT.ii_ge_t (by decide)) (by decide) (by decide) ?_
    show Goes p e below _ (Tt1.setTop (mkF m 22 #[.val (.ref a1), .val (.int (0 : Int32)), .val (.int (1 : Int32))] []))
    exact goRet0 Xt1 hx hret hlocks (hb hby d_jdk_92_method_15_22) (by decide) (by decide) et1 (⟨rfl, N0, K0, F1, F2⟩)
theorem d_jdk_92_method_19_0 : decode jdk_92_method_19_code 0 = .ok (.iload_n 1, 1) := by decide +kernel
theorem d_jdk_92_method_19_1 : decode jdk_92_method_19_code 1 = .ok (.ifCond .ge 30, 3) := by decide +kernel
theorem d_jdk_92_method_19_31 : decode jdk_92_method_19_code 31 = .ok (.iload_n 1, 1) := by decide +kernel
theorem d_jdk_92_method_19_32 : decode jdk_92_method_19_code 32 = .ok (.invokestatic 52, 3) := by decide +kernel
theorem d_jdk_92_method_19_35 : decode jdk_92_method_19_code 35 = .ok (.istore_n 2, 1) := by decide +kernel
theorem d_jdk_92_method_19_36 : decode jdk_92_method_19_code 36 = .ok (.aload_n 0, 1) := by decide +kernel
theorem d_jdk_92_method_19_37 : decode jdk_92_method_19_code 37 = .ok (.iload_n 2, 1) := by decide +kernel
theorem d_jdk_92_method_19_38 : decode jdk_92_method_19_code 38 = .ok (.invokevirtual 155, 3) := by decide +kernel
theorem d_jdk_92_method_19_41 : decode jdk_92_method_19_code 41 = .ok (.aload_n 0, 1) := by decide +kernel
theorem d_jdk_92_method_19_42 : decode jdk_92_method_19_code 42 = .ok (.getfield 11, 3) := by decide +kernel
theorem d_jdk_92_method_19_45 : decode jdk_92_method_19_code 45 = .ok (.iload_n 2, 1) := by decide +kernel
theorem d_jdk_92_method_19_46 : decode jdk_92_method_19_code 46 = .ok (.dup2, 1) := by decide +kernel
theorem d_jdk_92_method_19_47 : decode jdk_92_method_19_code 47 = .ok (.laload, 1) := by decide +kernel
theorem d_jdk_92_method_19_48 : decode jdk_92_method_19_code 48 = .ok (.lconst 1, 1) := by decide +kernel
theorem d_jdk_92_method_19_49 : decode jdk_92_method_19_code 49 = .ok (.iload_n 1, 1) := by decide +kernel
theorem d_jdk_92_method_19_50 : decode jdk_92_method_19_code 50 = .ok (.lshl, 1) := by decide +kernel
theorem d_jdk_92_method_19_51 : decode jdk_92_method_19_code 51 = .ok (.lor, 1) := by decide +kernel
theorem d_jdk_92_method_19_52 : decode jdk_92_method_19_code 52 = .ok (.lastore, 1) := by decide +kernel
theorem d_jdk_92_method_19_53 : decode jdk_92_method_19_code 53 = .ok (.aload_n 0, 1) := by decide +kernel
theorem pd_2 : parseMethodDescriptor "()V" = some ⟨[], none⟩ := by decide +kernel
theorem d_jdk_92_method_19_54 : decode jdk_92_method_19_code 54 = .ok (.invokevirtual 56, 3) := by decide +kernel
theorem d_jdk_92_method_19_57 : decode jdk_92_method_19_code 57 = .ok (.return_, 1) := by decide +kernel
theorem ef_rmSe (m : MethodId) (x0 : Addr) (x1 : Int32) : entryFrame m #[(.ref x0), (.int x1)] 3 = mkF m 0 #[.val (.ref x0), .val (.int x1), .unset] [] := by first | (simp [entryFrame, mkF, argsToLocals, Value.category]; done) | rfl
set_option maxRecDepth 65536 in
set_option maxHeartbeats 40000000 in
theorem rmSe (l : Launch) (Z : State) (a0 : Array Value) (hw : ∀ d ∈ tables_1, d.before a0 Z = true) (ua : Addr) (wd wd2 : Int64) (u : Int32) (a1 : Addr) (p1 : Int32) (h0 : Heap) (O0 : Ext Z.heap h0) (S_a : Sta Z Z.heap "java/util/BitSet" "$assertionsDisabled" "Z" (.int (1 : Int32)))(E1 : Exa Z h0 a1 "java/util/BitSet") (F1 : Fld Z h0 a1 "java/util/BitSet" "words" "[J" (.ref ua)) (F2 : Fld Z h0 a1 "java/util/BitSet" "wordsInUse" "I" (.int u)) (Y1 : Ary Z h0 ua .long [.long wd]) (hu : u = 0 ∨ u = 1) (ne : a1 ≠ ua) (fr1 : Z.heap.size ≤ a1) (fr2 : Z.heap.size ≤ ua) (hp0 : ¬ p1 < 0) (hp6 : p1 >>> ((6 : Int32) &&& 31) = 0) (hwd : wd ||| ((1 : Int64) <<< (p1.toInt64 &&& 63)) = wd2) :
    Ctr l Z (⟨"java/util/BitSet", "set", "(I)V"⟩ : MethodName) jdk_92_method_19_code 3 none [] ({ frames := 2, cells := 0, slots := 0, locals := 34 } : Room) #[(.ref a1), (.int p1)] h0 (fun v h L => v = none ∧ Fr Z.heap.size L ∧ Keep h0 h [a1, ua] ∧ Fld Z h a1 "java/util/BitSet" "words" "[J" (.ref ua) ∧ Fld Z h a1 "java/util/BitSet" "wordsInUse" "I" (.int (1 : Int32)) ∧ Ary Z h ua .long [.long wd2]) := by
  refine ctr (plainFor_of_name pn_1) ?_
  intro p e s m below meth c s₁ hx hby hml hown hnm hret hlocks hZ X0 e0
  have N0 := Fr.nil Z.heap.size
  have hsz : ∀ {Ls : Array Slot}, Ls.size = 3 → Ls.size = c.maxLocals := fun q => q.trans hml.symm
  have K0 := Keep.refl h0 [a1, ua]
  refine goE (ef_rmSe m (a1) (p1)) ?_
  show Goes p e below _ (s₁.setTop (mkF m 0 #[.val (.ref a1), .val (.int p1), .unset] []))
  refine gIloadN X0 hx (hb hby d_jdk_92_method_19_0) rfl ?_
  refine gIfY X0 hx (hb hby d_jdk_92_method_19_1) (pc' := 31) (XT.i0_ge_t hp0) (by decide) (by decide) ?_
  show Goes p e below _ (s₁.setTop (mkF m 31 #[.val (.ref a1), .val (.int p1), .unset] []))
  refine gIloadN X0 hx (hb hby d_jdk_92_method_19_31) rfl ?_
  refine goCallS X0 hx hZ hown (hw _ (List.mem_of_getElem? (i := 39) rfl)) (hw _ (List.mem_of_getElem? (i := 40) rfl)) (hw _ (List.mem_of_getElem? (i := 25) rfl)) (hw _ (List.mem_of_getElem? (i := 41) rfl)) (by decide) (rmWi l Z a0 hw (0 : Int32) p1 h0 O0 hp6) 0 (by decide) (by decide) e0 (hsz rfl) [(.int p1)] [] pd_0 rfl rfl rfl (Nat.le_of_eq rfl) (hb hby d_jdk_92_method_19_32) (by decide) (by decide) (fun Tt1 vt1 Lt1 Xt1 qt1 => ?_)
  obtain ⟨rfl, N2, et1⟩ := qt1
  have N3 := Fr.app N0 N2
  show Goes p e below _ (Tt1.setTop (mkF m 35 #[.val (.ref a1), .val (.int p1), .unset] [(.int (0 : Int32))]))
  refine gIstoreN Xt1 hx (hb hby d_jdk_92_method_19_35) (l' := #[.val (.ref a1), .val (.int p1), .val (.int (0 : Int32))]) rfl ?_
  refine gAloadN Xt1 hx (hb hby d_jdk_92_method_19_36) rfl rfl ?_
  refine gIloadN Xt1 hx (hb hby d_jdk_92_method_19_37) rfl ?_
  refine goCallP Xt1 hx hZ hown (hw _ (List.mem_of_getElem? (i := 50) rfl)) (hw _ (List.mem_of_getElem? (i := 52) rfl)) (hw _ (List.mem_of_getElem? (i := 53) rfl)) (hw _ (List.mem_of_getElem? (i := 51) rfl)) (hw _ (List.mem_of_getElem? (i := 25) rfl)) (hw _ (List.mem_of_getElem? (i := 54) rfl)) (by decide) (rmEt l Z a0 hw ua wd u a1 h0 O0 E1 F1 F2 Y1 hu ne fr1) 0 (by decide) (by decide) et1 E1 (hsz rfl) [(.int (0 : Int32))] [] pd_1 rfl rfl rfl (Nat.le_of_eq rfl) (hb hby d_jdk_92_method_19_38) (by decide) (by decide) (fun Tt4 vt4 Lt4 Xt4 qt4 => ?_)
  obtain ⟨ht4, et4⟩ : ∃ z, Tt4.heap = z := ⟨_, rfl⟩
  rw [et4] at qt4
  obtain ⟨rfl, N5, Kct4, F1, F2⟩ := qt4
  have N6 := Fr.app N3 N5
  replace E1 := E1.keep Kct4
  replace Y1 := Y1.keep Kct4 (ninS (Ne.symm ne) nin0)
  have O7 : Ext Z.heap ht4 := extK O0 Kct4 (allS fr1 all0)
  have K8 := K0.trans Kct4 (allS (Or.inl (by simp)) all0)
  show Goes p e below _ (Tt4.setTop (mkF m 41 #[.val (.ref a1), .val (.int p1), .val (.int (0 : Int32))] []))
  refine gAloadN Xt4 hx (hb hby d_jdk_92_method_19_41) rfl rfl ?_
  obtain ⟨Tt9, Xt9, et9, stt9⟩ := getF Xt4 hx hZ hown (host := "") (Or.inl (hw _ (List.mem_of_getElem? (i := 43) rfl))) Via.refl et4 F1 (g := (mkF m 42 #[.val (.ref a1), .val (.int p1), .val (.int (0 : Int32))] [(.ref a1)])) rfl rfl (hb hby d_jdk_92_method_19_42)
  refine go stt9 ?_
  show Goes p e below _ (Tt9.setTop (mkF m 45 #[.val (.ref a1), .val (.int p1), .val (.int (0 : Int32))] [(.ref ua)]))
  refine gIloadN Xt9 hx (hb hby d_jdk_92_method_19_45) rfl ?_
  refine gDup2 Xt9 hx (hb hby d_jdk_92_method_19_46) rfl rfl ?_
  refine goLaload Xt9 hx hZ et9 Y1 (x := wd) (hb hby d_jdk_92_method_19_47) (by decide) rfl ?_
  refine gLconst Xt9 hx (hb hby d_jdk_92_method_19_48) (v := (1 : Int64)) rfl ?_
  refine gIloadN Xt9 hx (hb hby d_jdk_92_method_19_49) rfl ?_
  refine gLshl Xt9 hx (hb hby d_jdk_92_method_19_50) ?_
  refine gLor Xt9 hx (hb hby d_jdk_92_method_19_51) ?_
  show Goes p e below _ (Tt9.setTop (mkF m 52 #[.val (.ref a1), .val (.int p1), .val (.int (0 : Int32))] [(.long (wd ||| ((1 : Int64) <<< (p1.toInt64 &&& 63)))), (.int (0 : Int32)), (.ref ua)]))
  refine goLastore Xt9 hx hZ et9 Y1 (hb hby d_jdk_92_method_19_52) (by decide) rfl (fun Tt10 ht10 Xt10 et10 Wt10 => ?_)
  have N11 := Fr.snoc Xt10 N6 fr2
  replace Y1 : Ary Z ht10 ua .long [(.long (wd ||| ((1 : Int64) <<< (p1.toInt64 &&& 63))))] := Y1.set Wt10 rfl
  replace E1 := E1.wr Wt10
  replace F1 := F1.other Wt10 (Or.inl ne)
  replace F2 := F2.other Wt10 (Or.inl ne)
  have O12 : Ext Z.heap ht10 := extW O7 Wt10 fr2
  have K13 := K8.wr Wt10 (Or.inl (by simp))
  show Goes p e below _ (Tt10.setTop (mkF m 53 #[.val (.ref a1), .val (.int p1), .val (.int (0 : Int32))] []))
  refine gAloadN Xt10 hx (hb hby d_jdk_92_method_19_53) rfl rfl ?_
  refine goCallP Xt10 hx hZ hown (hw _ (List.mem_of_getElem? (i := 60) rfl)) (hw _ (List.mem_of_getElem? (i := 62) rfl)) (hw _ (List.mem_of_getElem? (i := 63) rfl)) (hw _ (List.mem_of_getElem? (i := 61) rfl)) (hw _ (List.mem_of_getElem? (i := 25) rfl)) (hw _ (List.mem_of_getElem? (i := 64) rfl)) (by decide) (rmCi l Z a0 hw a1 ht10 O12 S_a) 0 (by decide) (by decide) et10 E1 (hsz rfl) [] [] pd_2 rfl rfl rfl (Nat.le_of_eq rfl) (hb hby d_jdk_92_method_19_54) (by decide) (by decide) (fun Tt14 vt14 Lt14 Xt14 qt14 => ?_)
  obtain ⟨rfl, N15, et14⟩ := qt14
  have N16 := Fr.app N11 N15
  show Goes p e below _ (Tt14.setTop (mkF m 57 #[.val (.ref a1), .val (.int p1), .val (.int (0 : Int32))] []))
  exact goRet0 Xt14 hx hret hlocks (hb hby d_jdk_92_method_19_57) (by decide) (by decide) et14 (⟨rfl, N16, K13, F1, F2, by rw [← hwd]; exact Y1⟩)
theorem d_jdk_33_method_48_0 : decode jdk_33_method_48_code 0 = .ok (.iload_n 0, 1) := by decide +kernel
theorem d_jdk_33_method_48_1 : decode jdk_33_method_48_code 1 = .ok (.iconst (-1), 1) := by decide +kernel
theorem d_jdk_33_method_48_2 : decode jdk_33_method_48_code 2 = .ok (.ixor, 1) := by decide +kernel
theorem d_jdk_33_method_48_3 : decode jdk_33_method_48_code 3 = .ok (.iload_n 0, 1) := by decide +kernel
theorem d_jdk_33_method_48_4 : decode jdk_33_method_48_code 4 = .ok (.iconst 1, 1) := by decide +kernel
theorem d_jdk_33_method_48_5 : decode jdk_33_method_48_code 5 = .ok (.isub, 1) := by decide +kernel
theorem d_jdk_33_method_48_6 : decode jdk_33_method_48_code 6 = .ok (.iand, 1) := by decide +kernel
theorem d_jdk_33_method_48_7 : decode jdk_33_method_48_code 7 = .ok (.istore_n 0, 1) := by decide +kernel
theorem d_jdk_33_method_48_8 : decode jdk_33_method_48_code 8 = .ok (.iload_n 0, 1) := by decide +kernel
theorem d_jdk_33_method_48_9 : decode jdk_33_method_48_code 9 = .ok (.ifCond .gt 8, 3) := by decide +kernel
theorem d_jdk_33_method_48_12 : decode jdk_33_method_48_code 12 = .ok (.iload_n 0, 1) := by decide +kernel
theorem d_jdk_33_method_48_13 : decode jdk_33_method_48_code 13 = .ok (.bipush 32, 2) := by decide +kernel
theorem d_jdk_33_method_48_15 : decode jdk_33_method_48_code 15 = .ok (.iand, 1) := by decide +kernel
theorem d_jdk_33_method_48_16 : decode jdk_33_method_48_code 16 = .ok (.ireturn, 1) := by decide +kernel
theorem d_jdk_33_method_48_17 : decode jdk_33_method_48_code 17 = .ok (.iconst 1, 1) := by decide +kernel
theorem d_jdk_33_method_48_18 : decode jdk_33_method_48_code 18 = .ok (.istore_n 1, 1) := by decide +kernel
theorem d_jdk_33_method_48_19 : decode jdk_33_method_48_code 19 = .ok (.iload_n 0, 1) := by decide +kernel
theorem d_jdk_33_method_48_20 : decode jdk_33_method_48_code 20 = .ok (.ldc_w 264, 3) := by decide +kernel
theorem d_jdk_33_method_48_23 : decode jdk_33_method_48_code 23 = .ok (.if_icmp .le 11, 3) := by decide +kernel
theorem d_jdk_33_method_48_34 : decode jdk_33_method_48_code 34 = .ok (.iload_n 0, 1) := by decide +kernel
theorem d_jdk_33_method_48_35 : decode jdk_33_method_48_code 35 = .ok (.sipush 256, 3) := by decide +kernel
theorem d_jdk_33_method_48_38 : decode jdk_33_method_48_code 38 = .ok (.if_icmp .le 11, 3) := by decide +kernel
theorem d_jdk_33_method_48_49 : decode jdk_33_method_48_code 49 = .ok (.iload_n 0, 1) := by decide +kernel
theorem d_jdk_33_method_48_50 : decode jdk_33_method_48_code 50 = .ok (.bipush 16, 2) := by decide +kernel
theorem d_jdk_33_method_48_52 : decode jdk_33_method_48_code 52 = .ok (.if_icmp .le 10, 3) := by decide +kernel
theorem d_jdk_33_method_48_62 : decode jdk_33_method_48_code 62 = .ok (.iload_n 0, 1) := by decide +kernel
theorem d_jdk_33_method_48_63 : decode jdk_33_method_48_code 63 = .ok (.iconst 4, 1) := by decide +kernel
theorem d_jdk_33_method_48_64 : decode jdk_33_method_48_code 64 = .ok (.if_icmp .le 10, 3) := by decide +kernel
theorem d_jdk_33_method_48_74 : decode jdk_33_method_48_code 74 = .ok (.iload_n 1, 1) := by decide +kernel
theorem d_jdk_33_method_48_75 : decode jdk_33_method_48_code 75 = .ok (.iload_n 0, 1) := by decide +kernel
theorem d_jdk_33_method_48_76 : decode jdk_33_method_48_code 76 = .ok (.iconst 1, 1) := by decide +kernel
theorem d_jdk_33_method_48_77 : decode jdk_33_method_48_code 77 = .ok (.iushr, 1) := by decide +kernel
theorem d_jdk_33_method_48_78 : decode jdk_33_method_48_code 78 = .ok (.iadd, 1) := by decide +kernel
theorem d_jdk_33_method_48_79 : decode jdk_33_method_48_code 79 = .ok (.ireturn, 1) := by decide +kernel
theorem d_jdk_33_method_48_67 : decode jdk_33_method_48_code 67 = .ok (.iinc 1 2, 3) := by decide +kernel
theorem d_jdk_33_method_48_70 : decode jdk_33_method_48_code 70 = .ok (.iload_n 0, 1) := by decide +kernel
theorem d_jdk_33_method_48_71 : decode jdk_33_method_48_code 71 = .ok (.iconst 2, 1) := by decide +kernel
theorem d_jdk_33_method_48_72 : decode jdk_33_method_48_code 72 = .ok (.iushr, 1) := by decide +kernel
theorem d_jdk_33_method_48_73 : decode jdk_33_method_48_code 73 = .ok (.istore_n 0, 1) := by decide +kernel
theorem pn_2 : plainName "java/lang/Integer" = true := by first | (simp [plainName, overriddenIn]; done) | decide +kernel
theorem ef_rmIn (m : MethodId) (x0 : Int32) : entryFrame m #[(.int x0)] 2 = mkF m 0 #[.val (.int x0), .unset] [] := by first | (simp [entryFrame, mkF, argsToLocals, Value.category]; done) | rfl
set_option maxRecDepth 65536 in
set_option maxHeartbeats 40000000 in
theorem rmIn (l : Launch) (Z : State) (a0 : Array Value) (hw : ∀ d ∈ tables_1, d.before a0 Z = true) (t : Int32) (p0 : Int32) (h0 : Heap) (O0 : Ext Z.heap h0) (ht : own_tz (own_iz p0) t) :
    Ctr l Z (⟨"java/lang/Integer", "numberOfTrailingZeros", "(I)I"⟩ : MethodName) jdk_33_method_48_code 2 (some .int) [] ({ frames := 0, cells := 0, slots := 0, locals := 0 } : Room) #[(.int p0)] h0 (fun v h L => v = some (.int t) ∧ Fr Z.heap.size L ∧ h = h0) := by
  refine ctr (plainFor_of_name pn_2) ?_
  intro p e s m below meth c s₁ hx hby hml hown hnm hret hlocks hZ X0 e0
  have N0 := Fr.nil Z.heap.size
  have hsz : ∀ {Ls : Array Slot}, Ls.size = 2 → Ls.size = c.maxLocals := fun q => q.trans hml.symm
  refine goE (ef_rmIn m (p0)) ?_
  show Goes p e below _ (s₁.setTop (mkF m 0 #[.val (.int p0), .unset] []))
  refine gIloadN X0 hx (hb hby d_jdk_33_method_48_0) rfl ?_
  refine gIconst X0 hx (hb hby d_jdk_33_method_48_1) (v := (-1 : Int32)) rfl ?_
  refine gIxor X0 hx (hb hby d_jdk_33_method_48_2) ?_
  refine gIloadN X0 hx (hb hby d_jdk_33_method_48_3) rfl ?_
  refine gIconst X0 hx (hb hby d_jdk_33_method_48_4) (v := (1 : Int32)) rfl ?_
  refine gIsub X0 hx (hb hby d_jdk_33_method_48_5) ?_
  refine gIand X0 hx (hb hby d_jdk_33_method_48_6) ?_
  show Goes p e below _ (s₁.setTop (mkF m 7 #[.val (.int p0), .unset] [(.int ((p0 ^^^ (-1 : Int32)) &&& (p0 - (1 : Int32))))]))
  refine gIstoreN X0 hx (hb hby d_jdk_33_method_48_7) (l' := #[.val (.int ((p0 ^^^ (-1 : Int32)) &&& (p0 - (1 : Int32)))), .unset]) rfl ?_
  refine gIloadN X0 hx (hb hby d_jdk_33_method_48_8) rfl ?_
  rcases ht with ⟨hi, rfl⟩ | ⟨hi, rfl⟩ | ⟨hi, rfl⟩ | ⟨hi, rfl⟩ | ⟨hi, rfl⟩
  · unfold own_iz at hi
    rw [hi]
    show Goes p e below _ (s₁.setTop (mkF m 9 #[.val (.int (0 : Int32)), .unset] [(.int (0 : Int32))]))
    refine gIfN X0 hx (hb hby d_jdk_33_method_48_9) (XT.i0_gt_f (by decide)) ?_
    show Goes p e below _ (s₁.setTop (mkF m 12 #[.val (.int (0 : Int32)), .unset] []))
    refine gIloadN X0 hx (hb hby d_jdk_33_method_48_12) rfl ?_
    refine gBipush X0 hx (hb hby d_jdk_33_method_48_13) (v := (32 : Int32)) rfl ?_
    refine gIand X0 hx (hb hby d_jdk_33_method_48_15) ?_
    exact goRetI X0 hx hret hlocks (hb hby d_jdk_33_method_48_16) (by decide) (by decide) e0 (⟨rfl, N0, rfl⟩)
  · unfold own_iz at hi
    rw [hi]
    show Goes p e below _ (s₁.setTop (mkF m 9 #[.val (.int (1 : Int32)), .unset] [(.int (1 : Int32))]))
    refine gIfY X0 hx (hb hby d_jdk_33_method_48_9) (pc' := 17) (XT.i0_gt_t (by decide)) (by decide) (by decide) ?_
    show Goes p e below _ (s₁.setTop (mkF m 17 #[.val (.int (1 : Int32)), .unset] []))
    refine gIconst X0 hx (hb hby d_jdk_33_method_48_17) (v := (1 : Int32)) rfl ?_
    refine gIstoreN X0 hx (hb hby d_jdk_33_method_48_18) (l' := #[.val (.int (1 : Int32)), .val (.int (1 : Int32))]) rfl ?_
    refine gIloadN X0 hx (hb hby d_jdk_33_method_48_19) rfl ?_
    refine gLdcWI X0 hx hZ hown (hw _ (List.mem_of_getElem? (i := 86) rfl)) (hb hby d_jdk_33_method_48_20) ?_
    refine gIcmpY X0 hx (hb hby d_jdk_33_method_48_23) (pc' := 34) (XT.ii_le_t (by decide)) (by decide) (by decide) ?_
    show Goes p e below _ (s₁.setTop (mkF m 34 #[.val (.int (1 : Int32)), .val (.int (1 : Int32))] []))
    refine gIloadN X0 hx (hb hby d_jdk_33_method_48_34) rfl ?_
    refine gSipush X0 hx (hb hby d_jdk_33_method_48_35) (v := (256 : Int32)) rfl ?_
    refine gIcmpY X0 hx (hb hby d_jdk_33_method_48_38) (pc' := 49) (XT.ii_le_t (by decide)) (by decide) (by decide) ?_
    show Goes p e below _ (s₁.setTop (mkF m 49 #[.val (.int (1 : Int32)), .val (.int (1 : Int32))] []))
    refine gIloadN X0 hx (hb hby d_jdk_33_method_48_49) rfl ?_
    refine gBipush X0 hx (hb hby d_jdk_33_method_48_50) (v := (16 : Int32)) rfl ?_
    refine gIcmpY X0 hx (hb hby d_jdk_33_method_48_52) (pc' := 62) (XT.ii_le_t (by decide)) (by decide) (by decide) ?_
    show Goes p e below _ (s₁.setTop (mkF m 62 #[.val (.int (1 : Int32)), .val (.int (1 : Int32))] []))
    refine gIloadN X0 hx (hb hby d_jdk_33_method_48_62) rfl ?_
    refine gIconst X0 hx (hb hby d_jdk_33_method_48_63) (v := (4 : Int32)) rfl ?_
    refine gIcmpY X0 hx (hb hby d_jdk_33_method_48_64) (pc' := 74) (XT.ii_le_t (by decide)) (by decide) (by decide) ?_
    show Goes p e below _ (s₁.setTop (mkF m 74 #[.val (.int (1 : Int32)), .val (.int (1 : Int32))] []))
    refine gIloadN X0 hx (hb hby d_jdk_33_method_48_74) rfl ?_
    refine gIloadN X0 hx (hb hby d_jdk_33_method_48_75) rfl ?_
    refine gIconst X0 hx (hb hby d_jdk_33_method_48_76) (v := (1 : Int32)) rfl ?_
    refine gIushr X0 hx (hb hby d_jdk_33_method_48_77) ?_
    refine gIadd X0 hx (hb hby d_jdk_33_method_48_78) ?_
    exact goRetI X0 hx hret hlocks (hb hby d_jdk_33_method_48_79) (by decide) (by decide) e0 (⟨rfl, N0, rfl⟩)
  · unfold own_iz at hi
    rw [hi]
    show Goes p e below _ (s₁.setTop (mkF m 9 #[.val (.int (3 : Int32)), .unset] [(.int (3 : Int32))]))
    refine gIfY X0 hx (hb hby d_jdk_33_method_48_9) (pc' := 17) (XT.i0_gt_t (by decide)) (by decide) (by decide) ?_
    show Goes p e below _ (s₁.setTop (mkF m 17 #[.val (.int (3 : Int32)), .unset] []))
    refine gIconst X0 hx (hb hby d_jdk_33_method_48_17) (v := (1 : Int32)) rfl ?_
    refine gIstoreN X0 hx (hb hby d_jdk_33_method_48_18) (l' := #[.val (.int (3 : Int32)), .val (.int (1 : Int32))]) rfl ?_
    refine gIloadN X0 hx (hb hby d_jdk_33_method_48_19) rfl ?_
    refine gLdcWI X0 hx hZ hown (hw _ (List.mem_of_getElem? (i := 86) rfl)) (hb hby d_jdk_33_method_48_20) ?_
    refine gIcmpY X0 hx (hb hby d_jdk_33_method_48_23) (pc' := 34) (XT.ii_le_t (by decide)) (by decide) (by decide) ?_
    show Goes p e below _ (s₁.setTop (mkF m 34 #[.val (.int (3 : Int32)), .val (.int (1 : Int32))] []))
    refine gIloadN X0 hx (hb hby d_jdk_33_method_48_34) rfl ?_
    refine gSipush X0 hx (hb hby d_jdk_33_method_48_35) (v := (256 : Int32)) rfl ?_
    refine gIcmpY X0 hx (hb hby d_jdk_33_method_48_38) (pc' := 49) (XT.ii_le_t (by decide)) (by decide) (by decide) ?_
    show Goes p e below _ (s₁.setTop (mkF m 49 #[.val (.int (3 : Int32)), .val (.int (1 : Int32))] []))
    refine gIloadN X0 hx (hb hby d_jdk_33_method_48_49) rfl ?_
    refine gBipush X0 hx (hb hby d_jdk_33_method_48_50) (v := (16 : Int32)) rfl ?_
    refine gIcmpY X0 hx (hb hby d_jdk_33_method_48_52) (pc' := 62) (XT.ii_le_t (by decide)) (by decide) (by decide) ?_
    show Goes p e below _ (s₁.setTop (mkF m 62 #[.val (.int (3 : Int32)), .val (.int (1 : Int32))] []))
    refine gIloadN X0 hx (hb hby d_jdk_33_method_48_62) rfl ?_
    refine gIconst X0 hx (hb hby d_jdk_33_method_48_63) (v := (4 : Int32)) rfl ?_
    refine gIcmpY X0 hx (hb hby d_jdk_33_method_48_64) (pc' := 74) (XT.ii_le_t (by decide)) (by decide) (by decide) ?_
    show Goes p e below _ (s₁.setTop (mkF m 74 #[.val (.int (3 : Int32)), .val (.int (1 : Int32))] []))
    refine gIloadN X0 hx (hb hby d_jdk_33_method_48_74) rfl ?_
    refine gIloadN X0 hx (hb hby d_jdk_33_method_48_75) rfl ?_
    refine gIconst X0 hx (hb hby d_jdk_33_method_48_76) (v := (1 : Int32)) rfl ?_
    refine gIushr X0 hx (hb hby d_jdk_33_method_48_77) ?_
    refine gIadd X0 hx (hb hby d_jdk_33_method_48_78) ?_
    exact goRetI X0 hx hret hlocks (hb hby d_jdk_33_method_48_79) (by decide) (by decide) e0 (⟨rfl, N0, rfl⟩)
  · unfold own_iz at hi
    rw [hi]
    show Goes p e below _ (s₁.setTop (mkF m 9 #[.val (.int (7 : Int32)), .unset] [(.int (7 : Int32))]))
    refine gIfY X0 hx (hb hby d_jdk_33_method_48_9) (pc' := 17) (XT.i0_gt_t (by decide)) (by decide) (by decide) ?_
    show Goes p e below _ (s₁.setTop (mkF m 17 #[.val (.int (7 : Int32)), .unset] []))
    refine gIconst X0 hx (hb hby d_jdk_33_method_48_17) (v := (1 : Int32)) rfl ?_
    refine gIstoreN X0 hx (hb hby d_jdk_33_method_48_18) (l' := #[.val (.int (7 : Int32)), .val (.int (1 : Int32))]) rfl ?_
    refine gIloadN X0 hx (hb hby d_jdk_33_method_48_19) rfl ?_
    refine gLdcWI X0 hx hZ hown (hw _ (List.mem_of_getElem? (i := 86) rfl)) (hb hby d_jdk_33_method_48_20) ?_
    refine gIcmpY X0 hx (hb hby d_jdk_33_method_48_23) (pc' := 34) (XT.ii_le_t (by decide)) (by decide) (by decide) ?_
    show Goes p e below _ (s₁.setTop (mkF m 34 #[.val (.int (7 : Int32)), .val (.int (1 : Int32))] []))
    refine gIloadN X0 hx (hb hby d_jdk_33_method_48_34) rfl ?_
    refine gSipush X0 hx (hb hby d_jdk_33_method_48_35) (v := (256 : Int32)) rfl ?_
    refine gIcmpY X0 hx (hb hby d_jdk_33_method_48_38) (pc' := 49) (XT.ii_le_t (by decide)) (by decide) (by decide) ?_
    show Goes p e below _ (s₁.setTop (mkF m 49 #[.val (.int (7 : Int32)), .val (.int (1 : Int32))] []))
    refine gIloadN X0 hx (hb hby d_jdk_33_method_48_49) rfl ?_
    refine gBipush X0 hx (hb hby d_jdk_33_method_48_50) (v := (16 : Int32)) rfl ?_
    refine gIcmpY X0 hx (hb hby d_jdk_33_method_48_52) (pc' := 62) (XT.ii_le_t (by decide)) (by decide) (by decide) ?_
    show Goes p e below _ (s₁.setTop (mkF m 62 #[.val (.int (7 : Int32)), .val (.int (1 : Int32))] []))
    refine gIloadN X0 hx (hb hby d_jdk_33_method_48_62) rfl ?_
    refine gIconst X0 hx (hb hby d_jdk_33_method_48_63) (v := (4 : Int32)) rfl ?_
    refine gIcmpN X0 hx (hb hby d_jdk_33_method_48_64) (XT.ii_le_f (by decide)) ?_
    show Goes p e below _ (s₁.setTop (mkF m 67 #[.val (.int (7 : Int32)), .val (.int (1 : Int32))] []))
    refine gIinc X0 hx (hb hby d_jdk_33_method_48_67) (v := (3 : Int32)) rfl rfl (l' := #[.val (.int (7 : Int32)), .val (.int (3 : Int32))]) rfl ?_
    refine gIloadN X0 hx (hb hby d_jdk_33_method_48_70) rfl ?_
    refine gIconst X0 hx (hb hby d_jdk_33_method_48_71) (v := (2 : Int32)) rfl ?_
    refine gIushr X0 hx (hb hby d_jdk_33_method_48_72) ?_
    refine gIstoreN X0 hx (hb hby d_jdk_33_method_48_73) (l' := #[.val (.int (XT.ushr (7 : Int32) (2 : Int32))), .val (.int (3 : Int32))]) rfl ?_
    refine gIloadN X0 hx (hb hby d_jdk_33_method_48_74) rfl ?_
    refine gIloadN X0 hx (hb hby d_jdk_33_method_48_75) rfl ?_
    show Goes p e below _ (s₁.setTop (mkF m 76 #[.val (.int (XT.ushr (7 : Int32) (2 : Int32))), .val (.int (3 : Int32))] [(.int (XT.ushr (7 : Int32) (2 : Int32))), (.int (3 : Int32))]))
    refine gIconst X0 hx (hb hby d_jdk_33_method_48_76) (v := (1 : Int32)) rfl ?_
    refine gIushr X0 hx (hb hby d_jdk_33_method_48_77) ?_
    refine gIadd X0 hx (hb hby d_jdk_33_method_48_78) ?_
    exact goRetI X0 hx hret hlocks (hb hby d_jdk_33_method_48_79) (by decide) (by decide) e0 (⟨rfl, N0, rfl⟩)
  · unfold own_iz at hi
    rw [hi]
    show Goes p e below _ (s₁.setTop (mkF m 9 #[.val (.int (15 : Int32)), .unset] [(.int (15 : Int32))]))
    refine gIfY X0 hx (hb hby d_jdk_33_method_48_9) (pc' := 17) (XT.i0_gt_t (by decide)) (by decide) (by decide) ?_
    show Goes p e below _ (s₁.setTop (mkF m 17 #[.val (.int (15 : Int32)), .unset] []))
    refine gIconst X0 hx (hb hby d_jdk_33_method_48_17) (v := (1 : Int32)) rfl ?_
    refine gIstoreN X0 hx (hb hby d_jdk_33_method_48_18) (l' := #[.val (.int (15 : Int32)), .val (.int (1 : Int32))]) rfl ?_
    refine gIloadN X0 hx (hb hby d_jdk_33_method_48_19) rfl ?_
    refine gLdcWI X0 hx hZ hown (hw _ (List.mem_of_getElem? (i := 86) rfl)) (hb hby d_jdk_33_method_48_20) ?_
    refine gIcmpY X0 hx (hb hby d_jdk_33_method_48_23) (pc' := 34) (XT.ii_le_t (by decide)) (by decide) (by decide) ?_
    show Goes p e below _ (s₁.setTop (mkF m 34 #[.val (.int (15 : Int32)), .val (.int (1 : Int32))] []))
    refine gIloadN X0 hx (hb hby d_jdk_33_method_48_34) rfl ?_
    refine gSipush X0 hx (hb hby d_jdk_33_method_48_35) (v := (256 : Int32)) rfl ?_
    refine gIcmpY X0 hx (hb hby d_jdk_33_method_48_38) (pc' := 49) (XT.ii_le_t (by decide)) (by decide) (by decide) ?_
    show Goes p e below _ (s₁.setTop (mkF m 49 #[.val (.int (15 : Int32)), .val (.int (1 : Int32))] []))
    refine gIloadN X0 hx (hb hby d_jdk_33_method_48_49) rfl ?_
    refine gBipush X0 hx (hb hby d_jdk_33_method_48_50) (v := (16 : Int32)) rfl ?_
    refine gIcmpY X0 hx (hb hby d_jdk_33_method_48_52) (pc' := 62) (XT.ii_le_t (by decide)) (by decide) (by decide) ?_
    show Goes p e below _ (s₁.setTop (mkF m 62 #[.val (.int (15 : Int32)), .val (.int (1 : Int32))] []))
    refine gIloadN X0 hx (hb hby d_jdk_33_method_48_62) rfl ?_
    refine gIconst X0 hx (hb hby d_jdk_33_method_48_63) (v := (4 : Int32)) rfl ?_
    refine gIcmpN X0 hx (hb hby d_jdk_33_method_48_64) (XT.ii_le_f (by decide)) ?_
    show Goes p e below _ (s₁.setTop (mkF m 67 #[.val (.int (15 : Int32)), .val (.int (1 : Int32))] []))
    refine gIinc X0 hx (hb hby d_jdk_33_method_48_67) (v := (3 : Int32)) rfl rfl (l' := #[.val (.int (15 : Int32)), .val (.int (3 : Int32))]) rfl ?_
    refine gIloadN X0 hx (hb hby d_jdk_33_method_48_70) rfl ?_
    refine gIconst X0 hx (hb hby d_jdk_33_method_48_71) (v := (2 : Int32)) rfl ?_
    refine gIushr X0 hx (hb hby d_jdk_33_method_48_72) ?_
    refine gIstoreN X0 hx (hb hby d_jdk_33_method_48_73) (l' := #[.val (.int (XT.ushr (15 : Int32) (2 : Int32))), .val (.int (3 : Int32))]) rfl ?_
    refine gIloadN X0 hx (hb hby d_jdk_33_method_48_74) rfl ?_
    refine gIloadN X0 hx (hb hby d_jdk_33_method_48_75) rfl ?_
    show Goes p e below _ (s₁.setTop (mkF m 76 #[.val (.int (XT.ushr (15 : Int32) (2 : Int32))), .val (.int (3 : Int32))] [(.int (XT.ushr (15 : Int32) (2 : Int32))), (.int (3 : Int32))]))
    refine gIconst X0 hx (hb hby d_jdk_33_method_48_76) (v := (1 : Int32)) rfl ?_
    refine gIushr X0 hx (hb hby d_jdk_33_method_48_77) ?_
    refine gIadd X0 hx (hb hby d_jdk_33_method_48_78) ?_
    exact goRetI X0 hx hret hlocks (hb hby d_jdk_33_method_48_79) (by decide) (by decide) e0 (⟨rfl, N0, rfl⟩)
theorem d_jdk_35_method_49_0 : decode jdk_35_method_49_code 0 = .ok (.lload_n 0, 1) := by decide +kernel
theorem d_jdk_35_method_49_1 : decode jdk_35_method_49_code 1 = .ok (.l2i, 1) := by decide +kernel
theorem d_jdk_35_method_49_2 : decode jdk_35_method_49_code 2 = .ok (.istore_n 2, 1) := by decide +kernel
theorem d_jdk_35_method_49_3 : decode jdk_35_method_49_code 3 = .ok (.iload_n 2, 1) := by decide +kernel
theorem d_jdk_35_method_49_4 : decode jdk_35_method_49_code 4 = .ok (.ifCond .ne 17, 3) := by decide +kernel
theorem d_jdk_35_method_49_21 : decode jdk_35_method_49_code 21 = .ok (.iload_n 2, 1) := by decide +kernel
theorem d_jdk_35_method_49_22 : decode jdk_35_method_49_code 22 = .ok (.invokestatic 311, 3) := by decide +kernel
theorem d_jdk_35_method_49_25 : decode jdk_35_method_49_code 25 = .ok (.ireturn, 1) := by decide +kernel
theorem pn_3 : plainName "java/lang/Long" = true := by first | (simp [plainName, overriddenIn]; done) | decide +kernel
theorem ef_rmLn (m : MethodId) (x0 : Int64) : entryFrame m #[(.long x0)] 3 = mkF m 0 #[.val (.long x0), .second, .unset] [] := by first | (simp [entryFrame, mkF, argsToLocals, Value.category]; done) | rfl
set_option maxRecDepth 65536 in
set_option maxHeartbeats 40000000 in
theorem rmLn (l : Launch) (Z : State) (a0 : Array Value) (hw : ∀ d ∈ tables_1, d.before a0 Z = true) (t : Int32) (p0 : Int64) (h0 : Heap) (O0 : Ext Z.heap h0) (hne : ¬ p0.toInt32 = 0) (ht : own_tz (own_iz p0.toInt32) t) :
    Ctr l Z (⟨"java/lang/Long", "numberOfTrailingZeros", "(J)I"⟩ : MethodName) jdk_35_method_49_code 3 (some .int) [] ({ frames := 1, cells := 0, slots := 0, locals := 15 } : Room) #[(.long p0)] h0 (fun v h L => v = some (.int t) ∧ Fr Z.heap.size L ∧ h = h0) := by
  refine ctr (plainFor_of_name pn_3) ?_
  intro p e s m below meth c s₁ hx hby hml hown hnm hret hlocks hZ X0 e0
  have N0 := Fr.nil Z.heap.size
  have hsz : ∀ {Ls : Array Slot}, Ls.size = 3 → Ls.size = c.maxLocals := fun q => q.trans hml.symm
  refine goE (ef_rmLn m (p0)) ?_
  show Goes p e below _ (s₁.setTop (mkF m 0 #[.val (.long p0), .second, .unset] []))
  refine gLloadN X0 hx (hb hby d_jdk_35_method_49_0) rfl ?_
  refine gL2i X0 hx (hb hby d_jdk_35_method_49_1) ?_
  refine gIstoreN X0 hx (hb hby d_jdk_35_method_49_2) (l' := #[.val (.long p0), .second, .val (.int (p0.toInt32))]) rfl ?_
  refine gIloadN X0 hx (hb hby d_jdk_35_method_49_3) rfl ?_
  refine gIfY X0 hx (hb hby d_jdk_35_method_49_4) (pc' := 21) (XT.i0_ne_t hne) (by decide) (by decide) ?_
  show Goes p e below _ (s₁.setTop (mkF m 21 #[.val (.long p0), .second, .val (.int (p0.toInt32))] []))
  refine gIloadN X0 hx (hb hby d_jdk_35_method_49_21) rfl ?_
  refine goCallS X0 hx hZ hown (hw _ (List.mem_of_getElem? (i := 81) rfl)) (hw _ (List.mem_of_getElem? (i := 82) rfl)) (hw _ (List.mem_of_getElem? (i := 83) rfl)) (hw _ (List.mem_of_getElem? (i := 84) rfl)) (by decide) (rmIn l Z a0 hw t p0.toInt32 h0 O0 ht) 0 (by decide) (by decide) e0 (hsz rfl) [(.int (p0.toInt32))] [] pd_0 rfl rfl rfl (Nat.le_of_eq rfl) (hb hby d_jdk_35_method_49_22) (by decide) (by decide) (fun Tt1 vt1 Lt1 Xt1 qt1 => ?_)
  obtain ⟨rfl, N2, et1⟩ := qt1
  have N3 := Fr.app N0 N2
  show Goes p e below _ (Tt1.setTop (mkF m 25 #[.val (.long p0), .second, .val (.int (p0.toInt32))] [(.int t)]))
  exact goRetI Xt1 hx hret hlocks (hb hby d_jdk_35_method_49_25) (by decide) (by decide) et1 (⟨rfl, N3, rfl⟩)
theorem d_jdk_92_method_28_0 : decode jdk_92_method_28_code 0 = .ok (.iload_n 1, 1) := by decide +kernel
theorem d_jdk_92_method_28_1 : decode jdk_92_method_28_code 1 = .ok (.ifCond .ge 30, 3) := by decide +kernel
theorem d_jdk_92_method_28_31 : decode jdk_92_method_28_code 31 = .ok (.aload_n 0, 1) := by decide +kernel
theorem d_jdk_92_method_28_32 : decode jdk_92_method_28_code 32 = .ok (.invokevirtual 56, 3) := by decide +kernel
theorem d_jdk_92_method_28_35 : decode jdk_92_method_28_code 35 = .ok (.iload_n 1, 1) := by decide +kernel
theorem d_jdk_92_method_28_36 : decode jdk_92_method_28_code 36 = .ok (.invokestatic 52, 3) := by decide +kernel
theorem d_jdk_92_method_28_39 : decode jdk_92_method_28_code 39 = .ok (.istore_n 2, 1) := by decide +kernel
theorem d_jdk_92_method_28_40 : decode jdk_92_method_28_code 40 = .ok (.iload_n 2, 1) := by decide +kernel
theorem d_jdk_92_method_28_41 : decode jdk_92_method_28_code 41 = .ok (.aload_n 0, 1) := by decide +kernel
theorem d_jdk_92_method_28_42 : decode jdk_92_method_28_code 42 = .ok (.getfield 7, 3) := by decide +kernel
theorem d_jdk_92_method_28_45 : decode jdk_92_method_28_code 45 = .ok (.if_icmp .lt 5, 3) := by decide +kernel
theorem d_jdk_92_method_28_48 : decode jdk_92_method_28_code 48 = .ok (.iconst (-1), 1) := by decide +kernel
theorem d_jdk_92_method_28_49 : decode jdk_92_method_28_code 49 = .ok (.ireturn, 1) := by decide +kernel
theorem d_jdk_92_method_28_50 : decode jdk_92_method_28_code 50 = .ok (.aload_n 0, 1) := by decide +kernel
theorem d_jdk_92_method_28_51 : decode jdk_92_method_28_code 51 = .ok (.getfield 11, 3) := by decide +kernel
theorem d_jdk_92_method_28_54 : decode jdk_92_method_28_code 54 = .ok (.iload_n 2, 1) := by decide +kernel
theorem d_jdk_92_method_28_55 : decode jdk_92_method_28_code 55 = .ok (.laload, 1) := by decide +kernel
theorem d_jdk_92_method_28_56 : decode jdk_92_method_28_code 56 = .ok (.ldc2_w 165, 3) := by decide +kernel
theorem d_jdk_92_method_28_59 : decode jdk_92_method_28_code 59 = .ok (.iload_n 1, 1) := by decide +kernel
theorem d_jdk_92_method_28_60 : decode jdk_92_method_28_code 60 = .ok (.lshl, 1) := by decide +kernel
theorem d_jdk_92_method_28_61 : decode jdk_92_method_28_code 61 = .ok (.land, 1) := by decide +kernel
theorem d_jdk_92_method_28_62 : decode jdk_92_method_28_code 62 = .ok (.lstore_n 3, 1) := by decide +kernel
theorem d_jdk_92_method_28_63 : decode jdk_92_method_28_code 63 = .ok (.lload_n 3, 1) := by decide +kernel
theorem d_jdk_92_method_28_64 : decode jdk_92_method_28_code 64 = .ok (.lconst 0, 1) := by decide +kernel
theorem d_jdk_92_method_28_65 : decode jdk_92_method_28_code 65 = .ok (.lcmp, 1) := by decide +kernel
theorem d_jdk_92_method_28_66 : decode jdk_92_method_28_code 66 = .ok (.ifCond .eq 13, 3) := by decide +kernel
theorem d_jdk_92_method_28_79 : decode jdk_92_method_28_code 79 = .ok (.iinc 2 1, 3) := by decide +kernel
theorem d_jdk_92_method_28_82 : decode jdk_92_method_28_code 82 = .ok (.iload_n 2, 1) := by decide +kernel
theorem d_jdk_92_method_28_83 : decode jdk_92_method_28_code 83 = .ok (.aload_n 0, 1) := by decide +kernel
theorem d_jdk_92_method_28_84 : decode jdk_92_method_28_code 84 = .ok (.getfield 7, 3) := by decide +kernel
theorem d_jdk_92_method_28_87 : decode jdk_92_method_28_code 87 = .ok (.if_icmp .ne 5, 3) := by decide +kernel
theorem d_jdk_92_method_28_90 : decode jdk_92_method_28_code 90 = .ok (.iconst (-1), 1) := by decide +kernel
theorem d_jdk_92_method_28_91 : decode jdk_92_method_28_code 91 = .ok (.ireturn, 1) := by decide +kernel
theorem d_jdk_92_method_28_69 : decode jdk_92_method_28_code 69 = .ok (.iload_n 2, 1) := by decide +kernel
theorem d_jdk_92_method_28_70 : decode jdk_92_method_28_code 70 = .ok (.bipush 64, 2) := by decide +kernel
theorem d_jdk_92_method_28_72 : decode jdk_92_method_28_code 72 = .ok (.imul, 1) := by decide +kernel
theorem d_jdk_92_method_28_73 : decode jdk_92_method_28_code 73 = .ok (.lload_n 3, 1) := by decide +kernel
theorem pd_3 : parseMethodDescriptor "(J)I" = some ⟨[.long], some .int⟩ := by decide +kernel
theorem d_jdk_92_method_28_74 : decode jdk_92_method_28_code 74 = .ok (.invokestatic 182, 3) := by decide +kernel
theorem d_jdk_92_method_28_77 : decode jdk_92_method_28_code 77 = .ok (.iadd, 1) := by decide +kernel
theorem d_jdk_92_method_28_78 : decode jdk_92_method_28_code 78 = .ok (.ireturn, 1) := by decide +kernel
theorem ef_rmNs (m : MethodId) (x0 : Addr) (x1 : Int32) : entryFrame m #[(.ref x0), (.int x1)] 5 = mkF m 0 #[.val (.ref x0), .val (.int x1), .unset, .unset, .unset] [] := by first | (simp [entryFrame, mkF, argsToLocals, Value.category]; done) | rfl
set_option maxRecDepth 65536 in
set_option maxHeartbeats 40000000 in
theorem rmNs (l : Launch) (Z : State) (a0 : Array Value) (hw : ∀ d ∈ tables_1, d.before a0 Z = true) (a1 ua : Addr) (mk k : Nat)  (h0 : Heap) (O0 : Ext Z.heap h0) (S_a : Sta Z Z.heap "java/util/BitSet" "$assertionsDisabled" "Z" (.int (1 : Int32)))(E1 : Exa Z h0 a1 "java/util/BitSet") (F1 : Fld Z h0 a1 "java/util/BitSet" "words" "[J" (.ref ua)) (F2 : Fld Z h0 a1 "java/util/BitSet" "wordsInUse" "I" (.int (own_uu mk))) (Y1 : Ary Z h0 ua .long [.long mk.toInt64]) (hm : mk < 32) (hk : k < 6) :
    Ctr l Z (⟨"java/util/BitSet", "nextSetBit", "(I)I"⟩ : MethodName) jdk_92_method_28_code 5 (some .int) [] ({ frames := 2, cells := 0, slots := 0, locals := 32 } : Room) #[(.ref a1), (.int k.toInt32)] h0 (fun v h L => v = some (.int (own_hd (own_os mk k))) ∧ Fr Z.heap.size L ∧ h = h0) := by
  refine ctr (plainFor_of_name pn_1) ?_
  intro p e s m below meth c s₁ hx hby hml hown hnm hret hlocks hZ X0 e0
  have N0 := Fr.nil Z.heap.size
  have hsz : ∀ {Ls : Array Slot}, Ls.size = 5 → Ls.size = c.maxLocals := fun q => q.trans hml.symm
  refine goE (ef_rmNs m (a1) (k.toInt32)) ?_
  show Goes p e below _ (s₁.setTop (mkF m 0 #[.val (.ref a1), .val (.int k.toInt32), .unset, .unset, .unset] []))
  refine gIloadN X0 hx (hb hby d_jdk_92_method_28_0) rfl ?_
  refine gIfY X0 hx (hb hby d_jdk_92_method_28_1) (pc' := 31) (XT.i0_ge_t (own_nn (by omega))) (by decide) (by decide) ?_
  show Goes p e below _ (s₁.setTop (mkF m 31 #[.val (.ref a1), .val (.int k.toInt32), .unset, .unset, .unset] []))
  refine gAloadN X0 hx (hb hby d_jdk_92_method_28_31) rfl rfl ?_
  refine goCallP X0 hx hZ hown (hw _ (List.mem_of_getElem? (i := 60) rfl)) (hw _ (List.mem_of_getElem? (i := 62) rfl)) (hw _ (List.mem_of_getElem? (i := 63) rfl)) (hw _ (List.mem_of_getElem? (i := 61) rfl)) (hw _ (List.mem_of_getElem? (i := 25) rfl)) (hw _ (List.mem_of_getElem? (i := 64) rfl)) (by decide) (rmCi l Z a0 hw a1 h0 O0 S_a) 0 (by decide) (by decide) e0 E1 (hsz rfl) [] [] pd_2 rfl rfl rfl (Nat.le_of_eq rfl) (hb hby d_jdk_92_method_28_32) (by decide) (by decide) (fun Tt1 vt1 Lt1 Xt1 qt1 => ?_)
  obtain ⟨rfl, N2, et1⟩ := qt1
  have N3 := Fr.app N0 N2
  show Goes p e below _ (Tt1.setTop (mkF m 35 #[.val (.ref a1), .val (.int k.toInt32), .unset, .unset, .unset] []))
  refine gIloadN Xt1 hx (hb hby d_jdk_92_method_28_35) rfl ?_
  refine goCallS Xt1 hx hZ hown (hw _ (List.mem_of_getElem? (i := 39) rfl)) (hw _ (List.mem_of_getElem? (i := 40) rfl)) (hw _ (List.mem_of_getElem? (i := 25) rfl)) (hw _ (List.mem_of_getElem? (i := 41) rfl)) (by decide) (rmWi l Z a0 hw (0 : Int32) k.toInt32 h0 O0 (own_wi_all k hk)) 0 (by decide) (by decide) et1 (hsz rfl) [(.int k.toInt32)] [] pd_0 rfl rfl rfl (Nat.le_of_eq rfl) (hb hby d_jdk_92_method_28_36) (by decide) (by decide) (fun Tt4 vt4 Lt4 Xt4 qt4 => ?_)
  obtain ⟨rfl, N5, et4⟩ := qt4
  have N6 := Fr.app N3 N5
  show Goes p e below _ (Tt4.setTop (mkF m 39 #[.val (.ref a1), .val (.int k.toInt32), .unset, .unset, .unset] [(.int (0 : Int32))]))
  refine gIstoreN Xt4 hx (hb hby d_jdk_92_method_28_39) (l' := #[.val (.ref a1), .val (.int k.toInt32), .val (.int (0 : Int32)), .unset, .unset]) rfl ?_
  refine gIloadN Xt4 hx (hb hby d_jdk_92_method_28_40) rfl ?_
  refine gAloadN Xt4 hx (hb hby d_jdk_92_method_28_41) rfl rfl ?_
  obtain ⟨Tt7, Xt7, et7, stt7⟩ := getF Xt4 hx hZ hown (host := "") (Or.inl (hw _ (List.mem_of_getElem? (i := 30) rfl))) Via.refl et4 F2 (g := (mkF m 42 #[.val (.ref a1), .val (.int k.toInt32), .val (.int (0 : Int32)), .unset, .unset] [(.ref a1), (.int (0 : Int32))])) rfl rfl (hb hby d_jdk_92_method_28_42)
  refine go stt7 ?_
  show Goes p e below _ (Tt7.setTop (mkF m 45 #[.val (.ref a1), .val (.int k.toInt32), .val (.int (0 : Int32)), .unset, .unset] [(.int (own_uu mk)), (.int (0 : Int32))]))
  rcases own_ns_all mk hm k hk with ⟨hu, hr⟩ | ⟨hu, hz, hr⟩ | ⟨hu, hz, hy, hr⟩
  · refine gIcmpN Xt7 hx (hb hby d_jdk_92_method_28_45) (XT.ii_lt_f (by rw [hu]; decide)) ?_
    show Goes p e below _ (Tt7.setTop (mkF m 48 #[.val (.ref a1), .val (.int k.toInt32), .val (.int (0 : Int32)), .unset, .unset] []))
    refine gIconst Xt7 hx (hb hby d_jdk_92_method_28_48) (v := (-1 : Int32)) rfl ?_
    exact goRetI Xt7 hx hret hlocks (hb hby d_jdk_92_method_28_49) (by decide) (by decide) et7 (⟨by rw [hr], N6, rfl⟩)
  · refine gIcmpY Xt7 hx (hb hby d_jdk_92_method_28_45) (pc' := 50) (XT.ii_lt_t (by rw [hu]; decide)) (by decide) (by decide) ?_
    show Goes p e below _ (Tt7.setTop (mkF m 50 #[.val (.ref a1), .val (.int k.toInt32), .val (.int (0 : Int32)), .unset, .unset] []))
    refine gAloadN Xt7 hx (hb hby d_jdk_92_method_28_50) rfl rfl ?_
    obtain ⟨Tt8, Xt8, et8, stt8⟩ := getF Xt7 hx hZ hown (host := "") (Or.inl (hw _ (List.mem_of_getElem? (i := 43) rfl))) Via.refl et7 F1 (g := (mkF m 51 #[.val (.ref a1), .val (.int k.toInt32), .val (.int (0 : Int32)), .unset, .unset] [(.ref a1)])) rfl rfl (hb hby d_jdk_92_method_28_51)
    refine go stt8 ?_
    show Goes p e below _ (Tt8.setTop (mkF m 54 #[.val (.ref a1), .val (.int k.toInt32), .val (.int (0 : Int32)), .unset, .unset] [(.ref ua)]))
    refine gIloadN Xt8 hx (hb hby d_jdk_92_method_28_54) rfl ?_
    refine goLaload Xt8 hx hZ et8 Y1 (x := mk.toInt64) (hb hby d_jdk_92_method_28_55) (by decide) rfl ?_
    refine gLdc2J Xt8 hx hZ hown (hw _ (List.mem_of_getElem? (i := 76) rfl)) (hb hby d_jdk_92_method_28_56) ?_
    refine gIloadN Xt8 hx (hb hby d_jdk_92_method_28_59) rfl ?_
    refine gLshl Xt8 hx (hb hby d_jdk_92_method_28_60) ?_
    refine gLand Xt8 hx (hb hby d_jdk_92_method_28_61) ?_
    refine gLstoreN Xt8 hx (hb hby d_jdk_92_method_28_62) (l' := #[.val (.ref a1), .val (.int k.toInt32), .val (.int (0 : Int32)), .val (.long (mk.toInt64 &&& ((-1 : Int64) <<< (k.toInt32.toInt64 &&& 63)))), .second]) rfl ?_
    show Goes p e below _ (Tt8.setTop (mkF m 63 #[.val (.ref a1), .val (.int k.toInt32), .val (.int (0 : Int32)), .val (.long (mk.toInt64 &&& ((-1 : Int64) <<< (k.toInt32.toInt64 &&& 63)))), .second] []))
    refine gLloadN Xt8 hx (hb hby d_jdk_92_method_28_63) rfl ?_
    refine gLconst Xt8 hx (hb hby d_jdk_92_method_28_64) (v := (0 : Int64)) rfl ?_
    refine gLcmp Xt8 hx (hb hby d_jdk_92_method_28_65) ?_
    refine gIfY Xt8 hx (hb hby d_jdk_92_method_28_66) (pc' := 79) (XT.ll_eq_t hz) (by decide) (by decide) ?_
    show Goes p e below _ (Tt8.setTop (mkF m 79 #[.val (.ref a1), .val (.int k.toInt32), .val (.int (0 : Int32)), .val (.long (mk.toInt64 &&& ((-1 : Int64) <<< (k.toInt32.toInt64 &&& 63)))), .second] []))
    refine gIinc Xt8 hx (hb hby d_jdk_92_method_28_79) (v := (1 : Int32)) rfl rfl (l' := #[.val (.ref a1), .val (.int k.toInt32), .val (.int (1 : Int32)), .val (.long (mk.toInt64 &&& ((-1 : Int64) <<< (k.toInt32.toInt64 &&& 63)))), .second]) rfl ?_
    refine gIloadN Xt8 hx (hb hby d_jdk_92_method_28_82) rfl ?_
    refine gAloadN Xt8 hx (hb hby d_jdk_92_method_28_83) rfl rfl ?_
    obtain ⟨Tt9, Xt9, et9, stt9⟩ := getF Xt8 hx hZ hown (host := "") (Or.inl (hw _ (List.mem_of_getElem? (i := 30) rfl))) Via.refl et8 F2 (g := (mkF m 84 #[.val (.ref a1), .val (.int k.toInt32), .val (.int (1 : Int32)), .val (.long (mk.toInt64 &&& ((-1 : Int64) <<< (k.toInt32.toInt64 &&& 63)))), .second] [(.ref a1), (.int (1 : Int32))])) rfl rfl (hb hby d_jdk_92_method_28_84)
    refine go stt9 ?_
    show Goes p e below _ (Tt9.setTop (mkF m 87 #[.val (.ref a1), .val (.int k.toInt32), .val (.int (1 : Int32)), .val (.long (mk.toInt64 &&& ((-1 : Int64) <<< (k.toInt32.toInt64 &&& 63)))), .second] [(.int (own_uu mk)), (.int (1 : Int32))]))
    refine gIcmpN Xt9 hx (hb hby d_jdk_92_method_28_87) (XT.ii_ne_f hu.symm) ?_
    show Goes p e below _ (Tt9.setTop (mkF m 90 #[.val (.ref a1), .val (.int k.toInt32), .val (.int (1 : Int32)), .val (.long (mk.toInt64 &&& ((-1 : Int64) <<< (k.toInt32.toInt64 &&& 63)))), .second] []))
    refine gIconst Xt9 hx (hb hby d_jdk_92_method_28_90) (v := (-1 : Int32)) rfl ?_
    exact goRetI Xt9 hx hret hlocks (hb hby d_jdk_92_method_28_91) (by decide) (by decide) et9 (⟨by rw [hr], N6, rfl⟩)
  · refine gIcmpY Xt7 hx (hb hby d_jdk_92_method_28_45) (pc' := 50) (XT.ii_lt_t (by rw [hu]; decide)) (by decide) (by decide) ?_
    show Goes p e below _ (Tt7.setTop (mkF m 50 #[.val (.ref a1), .val (.int k.toInt32), .val (.int (0 : Int32)), .unset, .unset] []))
    refine gAloadN Xt7 hx (hb hby d_jdk_92_method_28_50) rfl rfl ?_
    obtain ⟨Tt10, Xt10, et10, stt10⟩ := getF Xt7 hx hZ hown (host := "") (Or.inl (hw _ (List.mem_of_getElem? (i := 43) rfl))) Via.refl et7 F1 (g := (mkF m 51 #[.val (.ref a1), .val (.int k.toInt32), .val (.int (0 : Int32)), .unset, .unset] [(.ref a1)])) rfl rfl (hb hby d_jdk_92_method_28_51)
    refine go stt10 ?_
    show Goes p e below _ (Tt10.setTop (mkF m 54 #[.val (.ref a1), .val (.int k.toInt32), .val (.int (0 : Int32)), .unset, .unset] [(.ref ua)]))
    refine gIloadN Xt10 hx (hb hby d_jdk_92_method_28_54) rfl ?_
    refine goLaload Xt10 hx hZ et10 Y1 (x := mk.toInt64) (hb hby d_jdk_92_method_28_55) (by decide) rfl ?_
    refine gLdc2J Xt10 hx hZ hown (hw _ (List.mem_of_getElem? (i := 76) rfl)) (hb hby d_jdk_92_method_28_56) ?_
    refine gIloadN Xt10 hx (hb hby d_jdk_92_method_28_59) rfl ?_
    refine gLshl Xt10 hx (hb hby d_jdk_92_method_28_60) ?_
    refine gLand Xt10 hx (hb hby d_jdk_92_method_28_61) ?_
    refine gLstoreN Xt10 hx (hb hby d_jdk_92_method_28_62) (l' := #[.val (.ref a1), .val (.int k.toInt32), .val (.int (0 : Int32)), .val (.long (mk.toInt64 &&& ((-1 : Int64) <<< (k.toInt32.toInt64 &&& 63)))), .second]) rfl ?_
    show Goes p e below _ (Tt10.setTop (mkF m 63 #[.val (.ref a1), .val (.int k.toInt32), .val (.int (0 : Int32)), .val (.long (mk.toInt64 &&& ((-1 : Int64) <<< (k.toInt32.toInt64 &&& 63)))), .second] []))
    refine gLloadN Xt10 hx (hb hby d_jdk_92_method_28_63) rfl ?_
    refine gLconst Xt10 hx (hb hby d_jdk_92_method_28_64) (v := (0 : Int64)) rfl ?_
    refine gLcmp Xt10 hx (hb hby d_jdk_92_method_28_65) ?_
    refine gIfN Xt10 hx (hb hby d_jdk_92_method_28_66) (XT.ll_eq_f hz) ?_
    show Goes p e below _ (Tt10.setTop (mkF m 69 #[.val (.ref a1), .val (.int k.toInt32), .val (.int (0 : Int32)), .val (.long (mk.toInt64 &&& ((-1 : Int64) <<< (k.toInt32.toInt64 &&& 63)))), .second] []))
    refine gIloadN Xt10 hx (hb hby d_jdk_92_method_28_69) rfl ?_
    refine gBipush Xt10 hx (hb hby d_jdk_92_method_28_70) (v := (64 : Int32)) rfl ?_
    refine gImul Xt10 hx (hb hby d_jdk_92_method_28_72) ?_
    refine gLloadN Xt10 hx (hb hby d_jdk_92_method_28_73) rfl ?_
    refine goCallS Xt10 hx hZ hown (hw _ (List.mem_of_getElem? (i := 77) rfl)) (hw _ (List.mem_of_getElem? (i := 78) rfl)) (hw _ (List.mem_of_getElem? (i := 79) rfl)) (hw _ (List.mem_of_getElem? (i := 80) rfl)) (by decide) (rmLn l Z a0 hw (own_hd (own_os mk k)) (own_wk mk k) h0 O0 hy hr) 1 (by decide) (by decide) et10 (hsz rfl) [(.long (mk.toInt64 &&& ((-1 : Int64) <<< (k.toInt32.toInt64 &&& 63))))] [(.int (0 : Int32))] pd_3 rfl rfl rfl (Nat.le_of_eq rfl) (hb hby d_jdk_92_method_28_74) (by decide) (by decide) (fun Tt11 vt11 Lt11 Xt11 qt11 => ?_)
    obtain ⟨rfl, N12, et11⟩ := qt11
    have N13 := Fr.app N6 N12
    show Goes p e below _ (Tt11.setTop (mkF m 77 #[.val (.ref a1), .val (.int k.toInt32), .val (.int (0 : Int32)), .val (.long (mk.toInt64 &&& ((-1 : Int64) <<< (k.toInt32.toInt64 &&& 63)))), .second] [(.int (own_hd (own_os mk k))), (.int (0 : Int32))]))
    refine gIadd Xt11 hx (hb hby d_jdk_92_method_28_77) ?_
    exact goRetI Xt11 hx hret hlocks (hb hby d_jdk_92_method_28_78) (by decide) (by decide) et11 (⟨by rw [Int32.zero_add], N13, rfl⟩)
theorem d_prog_15_method_2_0 : decode prog_15_method_2_code 0 = .ok (.aload_n 2, 1) := by decide +kernel
theorem d_prog_15_method_2_1 : decode prog_15_method_2_code 1 = .ok (.iconst 0, 1) := by decide +kernel
theorem d_prog_15_method_2_2 : decode prog_15_method_2_code 2 = .ok (.invokevirtual 13, 3) := by decide +kernel
theorem d_prog_15_method_2_5 : decode prog_15_method_2_code 5 = .ok (.istore_n 3, 1) := by decide +kernel
theorem d_prog_15_method_2_6 : decode prog_15_method_2_code 6 = .ok (.iload_n 3, 1) := by decide +kernel
theorem d_prog_15_method_2_7 : decode prog_15_method_2_code 7 = .ok (.ifCond .lt 20, 3) := by decide +kernel
theorem d_prog_15_method_2_27 : decode prog_15_method_2_code 27 = .ok (.return_, 1) := by decide +kernel
theorem d_prog_15_method_2_10 : decode prog_15_method_2_code 10 = .ok (.aload_n 0, 1) := by decide +kernel
theorem d_prog_15_method_2_11 : decode prog_15_method_2_code 11 = .ok (.iload_n 1, 1) := by decide +kernel
theorem d_prog_15_method_2_12 : decode prog_15_method_2_code 12 = .ok (.iload_n 3, 1) := by decide +kernel
theorem pd_4 : parseMethodDescriptor "(II)V" = some ⟨[.int, .int], none⟩ := by decide +kernel
theorem d_prog_15_method_2_13 : decode prog_15_method_2_code 13 = .ok (.invokevirtual 19, 3) := by decide +kernel
theorem d_prog_15_method_2_16 : decode prog_15_method_2_code 16 = .ok (.aload_n 2, 1) := by decide +kernel
theorem d_prog_15_method_2_17 : decode prog_15_method_2_code 17 = .ok (.iload_n 3, 1) := by decide +kernel
theorem d_prog_15_method_2_18 : decode prog_15_method_2_code 18 = .ok (.iconst 1, 1) := by decide +kernel
theorem d_prog_15_method_2_19 : decode prog_15_method_2_code 19 = .ok (.iadd, 1) := by decide +kernel
theorem d_prog_15_method_2_20 : decode prog_15_method_2_code 20 = .ok (.invokevirtual 13, 3) := by decide +kernel
theorem d_prog_15_method_2_23 : decode prog_15_method_2_code 23 = .ok (.istore_n 3, 1) := by decide +kernel
theorem d_prog_15_method_2_24 : decode prog_15_method_2_code 24 = .ok (.goto (-18), 3) := by decide +kernel
theorem ef_rmJb (m : MethodId) (x0 : Addr) (x1 : Int32) (x2 : Addr) : entryFrame m #[(.ref x0), (.int x1), (.ref x2)] 4 = mkF m 0 #[.val (.ref x0), .val (.int x1), .val (.ref x2), .unset] [] := by first | (simp [entryFrame, mkF, argsToLocals, Value.category]; done) | rfl
set_option maxRecDepth 65536 in
set_option maxHeartbeats 40000000 in
theorem rmJb (l : Launch) (Z : State) (a0 : Array Value) (hw : ∀ d ∈ tables_1, d.before a0 Z = true) (a1 a2 u ua : Addr) (it mk : Nat) (r d : Nat → Nat) (P : List Nat)  (h0 : Heap) (O0 : Ext Z.heap h0) (S_a : Sta Z Z.heap "java/util/BitSet" "$assertionsDisabled" "Z" (.int (1 : Int32)))(E1 : Exa Z h0 a1 "com/example/phal/phal/service/Groups") (F1 : Fld Z h0 a1 "com/example/phal/phal/service/Groups" "parent" "[I" (.ref u)) (Y1 : Ary Z h0 u .int (own_vs P)) (I1 : own_Inv 5 P r d) (hit : it < 5) (hm : mk < 32) (ne : a1 ≠ u) (ne2 : a2 ≠ u) (ne3 : ua ≠ u) (fr1 : Z.heap.size ≤ u) (E2 : Exa Z h0 a2 "java/util/BitSet") (F2 : Fld Z h0 a2 "java/util/BitSet" "words" "[J" (.ref ua)) (F3 : Fld Z h0 a2 "java/util/BitSet" "wordsInUse" "I" (.int (own_uu mk))) (Y2 : Ary Z h0 ua .long [.long mk.toInt64]) :
    Ctr l Z (⟨"com/example/phal/phal/service/Groups", "join", "(ILjava/util/BitSet;)V"⟩ : MethodName) prog_15_method_2_code 4 none [] ({ frames := 3, cells := 0, slots := 0, locals := 51 } : Room) #[(.ref a1), (.int it.toInt32), (.ref a2)] h0 (fun v h L => v = none ∧ Fr Z.heap.size L ∧ Keep h0 h [u] ∧ ∃ P' d', Ary Z h u .int (own_vs P') ∧ own_Inv 5 P' (own_rs it (own_os mk 0) r) d') := by
  refine ctr (plainFor_of_name pn_0) ?_
  intro p e s m below meth c s₁ hx hby hml hown hnm hret hlocks hZ X0 e0
  have N0 := Fr.nil Z.heap.size
  have hsz : ∀ {Ls : Array Slot}, Ls.size = 4 → Ls.size = c.maxLocals := fun q => q.trans hml.symm
  have K0 := Keep.refl h0 [u]
  refine goE (ef_rmJb m (a1) (it.toInt32) (a2)) ?_
  show Goes p e below _ (s₁.setTop (mkF m 0 #[.val (.ref a1), .val (.int it.toInt32), .val (.ref a2), .unset] []))
  refine gAloadN X0 hx (hb hby d_prog_15_method_2_0) rfl rfl ?_
  refine gIconst X0 hx (hb hby d_prog_15_method_2_1) (v := (0 : Int32)) rfl ?_
  show Goes p e below _ (s₁.setTop (mkF m 2 #[.val (.ref a1), .val (.int it.toInt32), .val (.ref a2), .unset] [(.int (0 : Nat).toInt32), (.ref a2)]))
  refine goCallV X0 hx hZ hown (hw _ (List.mem_of_getElem? (i := 71) rfl)) (hw _ (List.mem_of_getElem? (i := 72) rfl)) (hw _ (List.mem_of_getElem? (i := 74) rfl)) (hw _ (List.mem_of_getElem? (i := 73) rfl)) (hw _ (List.mem_of_getElem? (i := 25) rfl)) (hw _ (List.mem_of_getElem? (i := 75) rfl)) (by decide) (rmNs l Z a0 hw a2 ua mk 0 h0 O0 S_a E2 F2 F3 Y2 hm (by decide)) 0 (by decide) (by decide) e0 E2 (hsz rfl) [(.int (0 : Nat).toInt32)] [] pd_0 rfl rfl rfl (Nat.le_of_eq rfl) (hb hby d_prog_15_method_2_2) (by decide) (by decide) (fun Tt1 vt1 Lt1 Xt1 qt1 => ?_)
  obtain ⟨rfl, N2, et1⟩ := qt1
  have N3 := Fr.app N0 N2
  show Goes p e below _ (Tt1.setTop (mkF m 5 #[.val (.ref a1), .val (.int it.toInt32), .val (.ref a2), .unset] [(.int (own_hd (own_os mk 0)))]))
  refine gIstoreN Xt1 hx (hb hby d_prog_15_method_2_5) (l' := #[.val (.ref a1), .val (.int it.toInt32), .val (.ref a2), .val (.int (own_hd (own_os mk 0)))]) rfl ?_
  have loop : ∀ (os_ : List Nat) (k : Nat) (r2 : Nat → Nat) (d2 : Nat → Nat) (P2 : List Nat) (T_ : State) (h_ : Heap) (lc_ : List Loc), (k < 6) → (own_os mk k = os_) → (own_rs it os_ r2 = own_rs it (own_os mk 0) r) → (own_Inv 5 P2 r2 d2) → (Stand p l e ({ frames := 3, cells := 0, slots := 0, locals := 51 } : Room) s m #[(.ref a1), (.int it.toInt32), (.ref a2)] below meth c T_ lc_ 0 0) → (T_.heap = h_) → (Fr Z.heap.size lc_) → (Keep h0 h_ [u]) → (Ext Z.heap h_) → (Exa Z h_ a1 "com/example/phal/phal/service/Groups") → (Fld Z h_ a1 "com/example/phal/phal/service/Groups" "parent" "[I" (.ref u)) → (Ary Z h_ u .int (own_vs P2)) → (Exa Z h_ a2 "java/util/BitSet") → (Fld Z h_ a2 "java/util/BitSet" "words" "[J" (.ref ua)) → (Fld Z h_ a2 "java/util/BitSet" "wordsInUse" "I" (.int (own_uu mk))) → (Ary Z h_ ua .long [(.long mk.toInt64)]) → Goes p e below (EndN s (fun v h L => v = none ∧ Fr Z.heap.size L ∧ Keep h0 h [u] ∧ ∃ P' d', Ary Z h u .int (own_vs P') ∧ own_Inv 5 P' (own_rs it (own_os mk 0) r) d') ({ frames := 3, cells := 0, slots := 0, locals := 51 } : Room).cells ({ frames := 3, cells := 0, slots := 0, locals := 51 } : Room).slots) (T_.setTop (mkF m 6 #[.val (.ref a1), .val (.int it.toInt32), .val (.ref a2), .val (.int (own_hd os_))] [])) := by
    intro os_
    induction os_ with
    | nil =>
      intro k r2 d2 P2 T_ h_ lc_ hk ho hr I2 X_ e_ N_ K_ O_ E1 F1 Y1 E2 F2 F3 Y2
      show Goes p e below _ (T_.setTop (mkF m 6 #[.val (.ref a1), .val (.int it.toInt32), .val (.ref a2), .val (.int (-1 : Int32))] []))
      refine gIloadN X_ hx (hb hby d_prog_15_method_2_6) rfl ?_
      refine gIfY X_ hx (hb hby d_prog_15_method_2_7) (pc' := 27) (XT.i0_lt_t (by decide)) (by decide) (by decide) ?_
      show Goes p e below _ (T_.setTop (mkF m 27 #[.val (.ref a1), .val (.int it.toInt32), .val (.ref a2), .val (.int (-1 : Int32))] []))
      rw [own_rs] at hr
      rw [hr] at I2
      exact goRet0 X_ hx hret hlocks (hb hby d_prog_15_method_2_27) (by decide) (by decide) e_ (⟨rfl, N_, K_, P2, d2, Y1, I2⟩)
    | cons o t ih =>
      intro k r2 d2 P2 T_ h_ lc_ hk ho hr I2 X_ e_ N_ K_ O_ E1 F1 Y1 E2 F2 F3 Y2
      show Goes p e below _ (T_.setTop (mkF m 6 #[.val (.ref a1), .val (.int it.toInt32), .val (.ref a2), .val (.int o.toInt32)] []))
      obtain ⟨ho5, ho2⟩ := own_os_all mk hm k hk o (by rw [ho]; rfl)
      rw [ho2] at ho
      have ht := (List.cons.inj ho).2
      refine gIloadN X_ hx (hb hby d_prog_15_method_2_6) rfl ?_
      refine gIfN X_ hx (hb hby d_prog_15_method_2_7) (XT.i0_lt_f (own_nn (by omega))) ?_
      show Goes p e below _ (T_.setTop (mkF m 10 #[.val (.ref a1), .val (.int it.toInt32), .val (.ref a2), .val (.int o.toInt32)] []))
      refine gAloadN X_ hx (hb hby d_prog_15_method_2_10) rfl rfl ?_
      refine gIloadN X_ hx (hb hby d_prog_15_method_2_11) rfl ?_
      refine gIloadN X_ hx (hb hby d_prog_15_method_2_12) rfl ?_
      refine goCallV X_ hx hZ hown (hw _ (List.mem_of_getElem? (i := 85) rfl)) (hw _ (List.mem_of_getElem? (i := 14) rfl)) (hw _ (List.mem_of_getElem? (i := 16) rfl)) (hw _ (List.mem_of_getElem? (i := 15) rfl)) (hw _ (List.mem_of_getElem? (i := 3) rfl)) (hw _ (List.mem_of_getElem? (i := 17) rfl)) (by decide) (rmJ l Z a0 hw a1 u it o 5 r2 d2 P2 h_ O_ E1 F1 Y1 I2 hit ho5 (by decide) ne fr1) 0 (by decide) (by decide) e_ E1 (hsz rfl) [(.int it.toInt32), (.int o.toInt32)] [] pd_4 rfl rfl rfl (Nat.le_of_eq rfl) (hb hby d_prog_15_method_2_13) (by decide) (by decide) (fun Tt4 vt4 Lt4 Xt4 qt4 => ?_)
      obtain ⟨ht4, et4⟩ : ∃ z, Tt4.heap = z := ⟨_, rfl⟩
      rw [et4] at qt4
      obtain ⟨rfl, N5, Kct4, P3, d3, Y1, I3⟩ := qt4
      have N6 := Fr.app N_ N5
      replace E1 := E1.keep Kct4
      replace F1 := F1.keep Kct4 (ninS ne nin0)
      replace E2 := E2.keep Kct4
      replace F2 := F2.keep Kct4 (ninS ne2 nin0)
      replace F3 := F3.keep Kct4 (ninS ne2 nin0)
      replace Y2 := Y2.keep Kct4 (ninS ne3 nin0)
      have O7 : Ext Z.heap ht4 := extK O_ Kct4 (allS fr1 all0)
      have K8 := K_.trans Kct4 (allS (Or.inl (by simp)) all0)
      show Goes p e below _ (Tt4.setTop (mkF m 16 #[.val (.ref a1), .val (.int it.toInt32), .val (.ref a2), .val (.int o.toInt32)] []))
      refine gAloadN Xt4 hx (hb hby d_prog_15_method_2_16) rfl rfl ?_
      refine gIloadN Xt4 hx (hb hby d_prog_15_method_2_17) rfl ?_
      refine gIconst Xt4 hx (hb hby d_prog_15_method_2_18) (v := (1 : Int32)) rfl ?_
      refine gIadd Xt4 hx (hb hby d_prog_15_method_2_19) ?_
      have eo : o.toInt32 + (1 : Int32) = (o + 1).toInt32 := by
        apply Int32.toInt_inj.mp
        rw [len_toInt (by omega)]
        have e := len_toInt (n := o) (by omega)
        rw [Int32.toInt_add, e]
        show Int.bmod ((o : Int) + 1) (2 ^ 32) = _
        rw [Int.bmod_eq_of_le (by omega) (by omega)]
        omega
      rw [eo]
      show Goes p e below _ (Tt4.setTop (mkF m 20 #[.val (.ref a1), .val (.int it.toInt32), .val (.ref a2), .val (.int o.toInt32)] [(.int (o + 1).toInt32), (.ref a2)]))
      refine goCallV Xt4 hx hZ hown (hw _ (List.mem_of_getElem? (i := 71) rfl)) (hw _ (List.mem_of_getElem? (i := 72) rfl)) (hw _ (List.mem_of_getElem? (i := 74) rfl)) (hw _ (List.mem_of_getElem? (i := 73) rfl)) (hw _ (List.mem_of_getElem? (i := 25) rfl)) (hw _ (List.mem_of_getElem? (i := 75) rfl)) (by decide) (rmNs l Z a0 hw a2 ua mk (o + 1) ht4 O7 S_a E2 F2 F3 Y2 hm (by omega)) 0 (by decide) (by decide) et4 E2 (hsz rfl) [(.int (o + 1).toInt32)] [] pd_0 rfl rfl rfl (Nat.le_of_eq rfl) (hb hby d_prog_15_method_2_20) (by decide) (by decide) (fun Tt9 vt9 Lt9 Xt9 qt9 => ?_)
      obtain ⟨rfl, N10, et9⟩ := qt9
      have N11 := Fr.app N6 N10
      show Goes p e below _ (Tt9.setTop (mkF m 23 #[.val (.ref a1), .val (.int it.toInt32), .val (.ref a2), .val (.int o.toInt32)] [(.int (own_hd (own_os mk (o + 1))))]))
      rw [ht]
      show Goes p e below _ (Tt9.setTop (mkF m 23 #[.val (.ref a1), .val (.int it.toInt32), .val (.ref a2), .val (.int o.toInt32)] [(.int (own_hd t))]))
      refine gIstoreN Xt9 hx (hb hby d_prog_15_method_2_23) (l' := #[.val (.ref a1), .val (.int it.toInt32), .val (.ref a2), .val (.int (own_hd t))]) rfl ?_
      refine gGoto Xt9 hx (hb hby d_prog_15_method_2_24) (pc' := 6) (by decide) (by decide) ?_
      show Goes p e below _ (Tt9.setTop (mkF m 6 #[.val (.ref a1), .val (.int it.toInt32), .val (.ref a2), .val (.int (own_hd t))] []))
      exact ih (o + 1) _ d3 P3 Tt9 ht4 _ (by omega) ht (by rw [← hr]; rfl) I3 Xt9 et9 N11 K8 O7 E1 F1 Y1 E2 F2 F3 Y2
  exact loop (own_os mk 0) 0 r d P Tt1 h0 _ (by decide) rfl rfl I1 Xt1 et1 N3 K0 O0 E1 F1 Y1 E2 F2 F3 Y2
theorem d_method_2_0 : decode method_2_code 0 = .ok (.iload_n 0, 1) := by decide +kernel
theorem d_method_2_1 : decode method_2_code 1 = .ok (.iload_n 1, 1) := by decide +kernel
theorem d_method_2_2 : decode method_2_code 2 = .ok (.if_icmp .eq 8, 3) := by decide +kernel
theorem d_method_2_10 : decode method_2_code 10 = .ok (.iload_n 1, 1) := by decide +kernel
theorem d_method_2_11 : decode method_2_code 11 = .ok (.goto 4, 3) := by decide +kernel
theorem d_method_2_15 : decode method_2_code 15 = .ok (.ireturn, 1) := by decide +kernel
theorem d_method_2_5 : decode method_2_code 5 = .ok (.iload_n 0, 1) := by decide +kernel
theorem d_method_2_6 : decode method_2_code 6 = .ok (.iload_n 2, 1) := by decide +kernel
theorem d_method_2_7 : decode method_2_code 7 = .ok (.if_icmp .ne 7, 3) := by decide +kernel
theorem d_method_2_14 : decode method_2_code 14 = .ok (.iload_n 0, 1) := by decide +kernel
theorem pn_4 : plainName "com/example/phal/phal/service/GroupsJoinPinLaw" = true := by first | (simp [plainName, overriddenIn]; done) | decide +kernel
theorem ef_rmA (m : MethodId) (x0 : Int32) (x1 : Int32) (x2 : Int32) : entryFrame m #[(.int x0), (.int x1), (.int x2)] 3 = mkF m 0 #[.val (.int x0), .val (.int x1), .val (.int x2)] [] := by first | (simp [entryFrame, mkF, argsToLocals, Value.category]; done) | rfl
set_option maxRecDepth 65536 in
set_option maxHeartbeats 40000000 in
theorem rmA (l : Launch) (Z : State) (a0 : Array Value) (hw : ∀ d ∈ tables_1, d.before a0 Z = true)  (p0 : Int32) (p1 : Int32) (p2 : Int32) (h0 : Heap) (O0 : Ext Z.heap h0)  :
    Ctr l Z (⟨"com/example/phal/phal/service/GroupsJoinPinLaw", "label1", "(III)I"⟩ : MethodName) method_2_code 3 (some .int) [] ({ frames := 0, cells := 0, slots := 0, locals := 0 } : Room) #[(.int p0), (.int p1), (.int p2)] h0 (fun v h L => v = some (.int (own_l1 p0 p1 p2)) ∧ Fr Z.heap.size L ∧ h = h0) := by
  refine ctr (plainFor_of_name pn_4) ?_
  intro p e s m below meth c s₁ hx hby hml hown hnm hret hlocks hZ X0 e0
  have N0 := Fr.nil Z.heap.size
  have hsz : ∀ {Ls : Array Slot}, Ls.size = 3 → Ls.size = c.maxLocals := fun q => q.trans hml.symm
  refine goE (ef_rmA m (p0) (p1) (p2)) ?_
  show Goes p e below _ (s₁.setTop (mkF m 0 #[.val (.int p0), .val (.int p1), .val (.int p2)] []))
  refine gIloadN X0 hx (hb hby d_method_2_0) rfl ?_
  refine gIloadN X0 hx (hb hby d_method_2_1) rfl ?_
  by_cases g1 : p0 = p1
  · refine gIcmpY X0 hx (hb hby d_method_2_2) (pc' := 10) (XT.ii_eq_t g1) (by decide) (by decide) ?_
    show Goes p e below _ (s₁.setTop (mkF m 10 #[.val (.int p0), .val (.int p1), .val (.int p2)] []))
    refine gIloadN X0 hx (hb hby d_method_2_10) rfl ?_
    refine gGoto X0 hx (hb hby d_method_2_11) (pc' := 15) (by decide) (by decide) ?_
    show Goes p e below _ (s₁.setTop (mkF m 15 #[.val (.int p0), .val (.int p1), .val (.int p2)] [(.int p1)]))
    exact goRetI X0 hx hret hlocks (hb hby d_method_2_15) (by decide) (by decide) e0 (⟨by rw [own_l1, if_pos g1], N0, rfl⟩)
  · refine gIcmpN X0 hx (hb hby d_method_2_2) (XT.ii_eq_f g1) ?_
    show Goes p e below _ (s₁.setTop (mkF m 5 #[.val (.int p0), .val (.int p1), .val (.int p2)] []))
    refine gIloadN X0 hx (hb hby d_method_2_5) rfl ?_
    refine gIloadN X0 hx (hb hby d_method_2_6) rfl ?_
    by_cases g2 : p0 = p2
    · refine gIcmpN X0 hx (hb hby d_method_2_7) (XT.ii_ne_f g2) ?_
      show Goes p e below _ (s₁.setTop (mkF m 10 #[.val (.int p0), .val (.int p1), .val (.int p2)] []))
      refine gIloadN X0 hx (hb hby d_method_2_10) rfl ?_
      refine gGoto X0 hx (hb hby d_method_2_11) (pc' := 15) (by decide) (by decide) ?_
      show Goes p e below _ (s₁.setTop (mkF m 15 #[.val (.int p0), .val (.int p1), .val (.int p2)] [(.int p1)]))
      exact goRetI X0 hx hret hlocks (hb hby d_method_2_15) (by decide) (by decide) e0 (⟨by rw [own_l1, if_neg g1, if_pos g2], N0, rfl⟩)
    · refine gIcmpY X0 hx (hb hby d_method_2_7) (pc' := 14) (XT.ii_ne_t g2) (by decide) (by decide) ?_
      show Goes p e below _ (s₁.setTop (mkF m 14 #[.val (.int p0), .val (.int p1), .val (.int p2)] []))
      refine gIloadN X0 hx (hb hby d_method_2_14) rfl ?_
      exact goRetI X0 hx hret hlocks (hb hby d_method_2_15) (by decide) (by decide) e0 (⟨by rw [own_l1, if_neg g1, if_neg g2], N0, rfl⟩)
theorem d_method_3_0 : decode method_3_code 0 = .ok (.iload_n 0, 1) := by decide +kernel
theorem d_method_3_1 : decode method_3_code 1 = .ok (.iload_n 1, 1) := by decide +kernel
theorem d_method_3_2 : decode method_3_code 2 = .ok (.iload_n 2, 1) := by decide +kernel
theorem pd_5 : parseMethodDescriptor "(III)I" = some ⟨[.int, .int, .int], some .int⟩ := by decide +kernel
theorem d_method_3_3 : decode method_3_code 3 = .ok (.invokestatic 7, 3) := by decide +kernel
theorem d_method_3_6 : decode method_3_code 6 = .ok (.istore 5, 2) := by decide +kernel
theorem d_method_3_8 : decode method_3_code 8 = .ok (.iload_n 3, 1) := by decide +kernel
theorem d_method_3_9 : decode method_3_code 9 = .ok (.iload_n 1, 1) := by decide +kernel
theorem d_method_3_10 : decode method_3_code 10 = .ok (.iload_n 2, 1) := by decide +kernel
theorem d_method_3_11 : decode method_3_code 11 = .ok (.invokestatic 7, 3) := by decide +kernel
theorem d_method_3_14 : decode method_3_code 14 = .ok (.istore 6, 2) := by decide +kernel
theorem d_method_3_16 : decode method_3_code 16 = .ok (.iload 4, 2) := by decide +kernel
theorem d_method_3_18 : decode method_3_code 18 = .ok (.iload_n 1, 1) := by decide +kernel
theorem d_method_3_19 : decode method_3_code 19 = .ok (.iload_n 2, 1) := by decide +kernel
theorem d_method_3_20 : decode method_3_code 20 = .ok (.invokestatic 7, 3) := by decide +kernel
theorem d_method_3_23 : decode method_3_code 23 = .ok (.istore 7, 2) := by decide +kernel
theorem d_method_3_25 : decode method_3_code 25 = .ok (.iload 5, 2) := by decide +kernel
theorem d_method_3_27 : decode method_3_code 27 = .ok (.iload 6, 2) := by decide +kernel
theorem d_method_3_29 : decode method_3_code 29 = .ok (.if_icmp .eq 10, 3) := by decide +kernel
theorem d_method_3_39 : decode method_3_code 39 = .ok (.iload 6, 2) := by decide +kernel
theorem d_method_3_41 : decode method_3_code 41 = .ok (.goto 5, 3) := by decide +kernel
theorem d_method_3_46 : decode method_3_code 46 = .ok (.ireturn, 1) := by decide +kernel
theorem d_method_3_32 : decode method_3_code 32 = .ok (.iload 5, 2) := by decide +kernel
theorem d_method_3_34 : decode method_3_code 34 = .ok (.iload 7, 2) := by decide +kernel
theorem d_method_3_36 : decode method_3_code 36 = .ok (.if_icmp .ne 8, 3) := by decide +kernel
theorem d_method_3_44 : decode method_3_code 44 = .ok (.iload 5, 2) := by decide +kernel
theorem ef_rmB (m : MethodId) (x0 : Int32) (x1 : Int32) (x2 : Int32) (x3 : Int32) (x4 : Int32) : entryFrame m #[(.int x0), (.int x1), (.int x2), (.int x3), (.int x4)] 8 = mkF m 0 #[.val (.int x0), .val (.int x1), .val (.int x2), .val (.int x3), .val (.int x4), .unset, .unset, .unset] [] := by first | (simp [entryFrame, mkF, argsToLocals, Value.category]; done) | rfl
set_option maxRecDepth 65536 in
set_option maxHeartbeats 40000000 in
theorem rmB (l : Launch) (Z : State) (a0 : Array Value) (hw : ∀ d ∈ tables_1, d.before a0 Z = true)  (p0 : Int32) (p1 : Int32) (p2 : Int32) (p3 : Int32) (p4 : Int32) (h0 : Heap) (O0 : Ext Z.heap h0)  :
    Ctr l Z (⟨"com/example/phal/phal/service/GroupsJoinPinLaw", "label2", "(IIIII)I"⟩ : MethodName) method_3_code 8 (some .int) [] ({ frames := 1, cells := 0, slots := 0, locals := 17 } : Room) #[(.int p0), (.int p1), (.int p2), (.int p3), (.int p4)] h0 (fun v h L => v = some (.int (own_l2 p0 p1 p2 p3 p4)) ∧ Fr Z.heap.size L ∧ h = h0) := by
  refine ctr (plainFor_of_name pn_4) ?_
  intro p e s m below meth c s₁ hx hby hml hown hnm hret hlocks hZ X0 e0
  have N0 := Fr.nil Z.heap.size
  have hsz : ∀ {Ls : Array Slot}, Ls.size = 8 → Ls.size = c.maxLocals := fun q => q.trans hml.symm
  refine goE (ef_rmB m (p0) (p1) (p2) (p3) (p4)) ?_
  show Goes p e below _ (s₁.setTop (mkF m 0 #[.val (.int p0), .val (.int p1), .val (.int p2), .val (.int p3), .val (.int p4), .unset, .unset, .unset] []))
  refine gIloadN X0 hx (hb hby d_method_3_0) rfl ?_
  refine gIloadN X0 hx (hb hby d_method_3_1) rfl ?_
  refine gIloadN X0 hx (hb hby d_method_3_2) rfl ?_
  refine goCallS X0 hx hZ hown (hw _ (List.mem_of_getElem? (i := 92) rfl)) (hw _ (List.mem_of_getElem? (i := 93) rfl)) (hw _ (List.mem_of_getElem? (i := 90) rfl)) (hw _ (List.mem_of_getElem? (i := 94) rfl)) (by decide) (rmA l Z a0 hw p0 p1 p2 h0 O0) 0 (by decide) (by decide) e0 (hsz rfl) [(.int p0), (.int p1), (.int p2)] [] pd_5 rfl rfl rfl (Nat.le_of_eq rfl) (hb hby d_method_3_3) (by decide) (by decide) (fun Tt1 vt1 Lt1 Xt1 qt1 => ?_)
  obtain ⟨rfl, N2, et1⟩ := qt1
  have N3 := Fr.app N0 N2
  show Goes p e below _ (Tt1.setTop (mkF m 6 #[.val (.int p0), .val (.int p1), .val (.int p2), .val (.int p3), .val (.int p4), .unset, .unset, .unset] [(.int (own_l1 p0 p1 p2))]))
  refine gIstore Xt1 hx (hb hby d_method_3_6) (l' := #[.val (.int p0), .val (.int p1), .val (.int p2), .val (.int p3), .val (.int p4), .val (.int (own_l1 p0 p1 p2)), .unset, .unset]) rfl ?_
  refine gIloadN Xt1 hx (hb hby d_method_3_8) rfl ?_
  refine gIloadN Xt1 hx (hb hby d_method_3_9) rfl ?_
  refine gIloadN Xt1 hx (hb hby d_method_3_10) rfl ?_
  refine goCallS Xt1 hx hZ hown (hw _ (List.mem_of_getElem? (i := 92) rfl)) (hw _ (List.mem_of_getElem? (i := 93) rfl)) (hw _ (List.mem_of_getElem? (i := 90) rfl)) (hw _ (List.mem_of_getElem? (i := 94) rfl)) (by decide) (rmA l Z a0 hw p3 p1 p2 h0 O0) 0 (by decide) (by decide) et1 (hsz rfl) [(.int p3), (.int p1), (.int p2)] [] pd_5 rfl rfl rfl (Nat.le_of_eq rfl) (hb hby d_method_3_11) (by decide) (by decide) (fun Tt4 vt4 Lt4 Xt4 qt4 => ?_)
  obtain ⟨rfl, N5, et4⟩ := qt4
  have N6 := Fr.app N3 N5
  show Goes p e below _ (Tt4.setTop (mkF m 14 #[.val (.int p0), .val (.int p1), .val (.int p2), .val (.int p3), .val (.int p4), .val (.int (own_l1 p0 p1 p2)), .unset, .unset] [(.int (own_l1 p3 p1 p2))]))
  refine gIstore Xt4 hx (hb hby d_method_3_14) (l' := #[.val (.int p0), .val (.int p1), .val (.int p2), .val (.int p3), .val (.int p4), .val (.int (own_l1 p0 p1 p2)), .val (.int (own_l1 p3 p1 p2)), .unset]) rfl ?_
  refine gIload Xt4 hx (hb hby d_method_3_16) rfl ?_
  refine gIloadN Xt4 hx (hb hby d_method_3_18) rfl ?_
  refine gIloadN Xt4 hx (hb hby d_method_3_19) rfl ?_
  refine goCallS Xt4 hx hZ hown (hw _ (List.mem_of_getElem? (i := 92) rfl)) (hw _ (List.mem_of_getElem? (i := 93) rfl)) (hw _ (List.mem_of_getElem? (i := 90) rfl)) (hw _ (List.mem_of_getElem? (i := 94) rfl)) (by decide) (rmA l Z a0 hw p4 p1 p2 h0 O0) 0 (by decide) (by decide) et4 (hsz rfl) [(.int p4), (.int p1), (.int p2)] [] pd_5 rfl rfl rfl (Nat.le_of_eq rfl) (hb hby d_method_3_20) (by decide) (by decide) (fun Tt7 vt7 Lt7 Xt7 qt7 => ?_)
  obtain ⟨rfl, N8, et7⟩ := qt7
  have N9 := Fr.app N6 N8
  show Goes p e below _ (Tt7.setTop (mkF m 23 #[.val (.int p0), .val (.int p1), .val (.int p2), .val (.int p3), .val (.int p4), .val (.int (own_l1 p0 p1 p2)), .val (.int (own_l1 p3 p1 p2)), .unset] [(.int (own_l1 p4 p1 p2))]))
  refine gIstore Xt7 hx (hb hby d_method_3_23) (l' := #[.val (.int p0), .val (.int p1), .val (.int p2), .val (.int p3), .val (.int p4), .val (.int (own_l1 p0 p1 p2)), .val (.int (own_l1 p3 p1 p2)), .val (.int (own_l1 p4 p1 p2))]) rfl ?_
  refine gIload Xt7 hx (hb hby d_method_3_25) rfl ?_
  refine gIload Xt7 hx (hb hby d_method_3_27) rfl ?_
  by_cases g1 : (own_l1 p0 p1 p2) = (own_l1 p3 p1 p2)
  · refine gIcmpY Xt7 hx (hb hby d_method_3_29) (pc' := 39) (XT.ii_eq_t g1) (by decide) (by decide) ?_
    show Goes p e below _ (Tt7.setTop (mkF m 39 #[.val (.int p0), .val (.int p1), .val (.int p2), .val (.int p3), .val (.int p4), .val (.int (own_l1 p0 p1 p2)), .val (.int (own_l1 p3 p1 p2)), .val (.int (own_l1 p4 p1 p2))] []))
    refine gIload Xt7 hx (hb hby d_method_3_39) rfl ?_
    refine gGoto Xt7 hx (hb hby d_method_3_41) (pc' := 46) (by decide) (by decide) ?_
    show Goes p e below _ (Tt7.setTop (mkF m 46 #[.val (.int p0), .val (.int p1), .val (.int p2), .val (.int p3), .val (.int p4), .val (.int (own_l1 p0 p1 p2)), .val (.int (own_l1 p3 p1 p2)), .val (.int (own_l1 p4 p1 p2))] [(.int (own_l1 p3 p1 p2))]))
    exact goRetI Xt7 hx hret hlocks (hb hby d_method_3_46) (by decide) (by decide) et7 (⟨by rw [own_l2, if_pos g1], N9, rfl⟩)
  · refine gIcmpN Xt7 hx (hb hby d_method_3_29) (XT.ii_eq_f g1) ?_
    show Goes p e below _ (Tt7.setTop (mkF m 32 #[.val (.int p0), .val (.int p1), .val (.int p2), .val (.int p3), .val (.int p4), .val (.int (own_l1 p0 p1 p2)), .val (.int (own_l1 p3 p1 p2)), .val (.int (own_l1 p4 p1 p2))] []))
    refine gIload Xt7 hx (hb hby d_method_3_32) rfl ?_
    refine gIload Xt7 hx (hb hby d_method_3_34) rfl ?_
    by_cases g2 : (own_l1 p0 p1 p2) = (own_l1 p4 p1 p2)
    · refine gIcmpN Xt7 hx (hb hby d_method_3_36) (XT.ii_ne_f g2) ?_
      show Goes p e below _ (Tt7.setTop (mkF m 39 #[.val (.int p0), .val (.int p1), .val (.int p2), .val (.int p3), .val (.int p4), .val (.int (own_l1 p0 p1 p2)), .val (.int (own_l1 p3 p1 p2)), .val (.int (own_l1 p4 p1 p2))] []))
      refine gIload Xt7 hx (hb hby d_method_3_39) rfl ?_
      refine gGoto Xt7 hx (hb hby d_method_3_41) (pc' := 46) (by decide) (by decide) ?_
      show Goes p e below _ (Tt7.setTop (mkF m 46 #[.val (.int p0), .val (.int p1), .val (.int p2), .val (.int p3), .val (.int p4), .val (.int (own_l1 p0 p1 p2)), .val (.int (own_l1 p3 p1 p2)), .val (.int (own_l1 p4 p1 p2))] [(.int (own_l1 p3 p1 p2))]))
      exact goRetI Xt7 hx hret hlocks (hb hby d_method_3_46) (by decide) (by decide) et7 (⟨by rw [own_l2, if_neg g1, if_pos g2], N9, rfl⟩)
    · refine gIcmpY Xt7 hx (hb hby d_method_3_36) (pc' := 44) (XT.ii_ne_t g2) (by decide) (by decide) ?_
      show Goes p e below _ (Tt7.setTop (mkF m 44 #[.val (.int p0), .val (.int p1), .val (.int p2), .val (.int p3), .val (.int p4), .val (.int (own_l1 p0 p1 p2)), .val (.int (own_l1 p3 p1 p2)), .val (.int (own_l1 p4 p1 p2))] []))
      refine gIload Xt7 hx (hb hby d_method_3_44) rfl ?_
      exact goRetI Xt7 hx hret hlocks (hb hby d_method_3_46) (by decide) (by decide) et7 (⟨by rw [own_l2, if_neg g1, if_neg g2], N9, rfl⟩)
theorem d_method_4_74 : decode method_4_code 74 = .ok (.iconst 1, 1) := by decide +kernel
theorem d_method_4_75 : decode method_4_code 75 = .ok (.goto 4, 3) := by decide +kernel
theorem d_method_4_79 : decode method_4_code 79 = .ok (.ireturn, 1) := by decide +kernel
theorem d_method_4_78 : decode method_4_code 78 = .ok (.iconst 0, 1) := by decide +kernel
theorem d_method_4_60 : decode method_4_code 60 = .ok (.iload_n 2, 1) := by decide +kernel
theorem d_method_4_61 : decode method_4_code 61 = .ok (.bipush 16, 2) := by decide +kernel
theorem d_method_4_63 : decode method_4_code 63 = .ok (.iand, 1) := by decide +kernel
theorem d_method_4_64 : decode method_4_code 64 = .ok (.ifCond .eq 14, 3) := by decide +kernel
theorem d_method_4_67 : decode method_4_code 67 = .ok (.aload_n 3, 1) := by decide +kernel
theorem d_method_4_68 : decode method_4_code 68 = .ok (.iconst 4, 1) := by decide +kernel
theorem d_method_4_69 : decode method_4_code 69 = .ok (.iaload, 1) := by decide +kernel
theorem d_method_4_70 : decode method_4_code 70 = .ok (.iload_n 0, 1) := by decide +kernel
theorem d_method_4_71 : decode method_4_code 71 = .ok (.if_icmp .ne 7, 3) := by decide +kernel
theorem d_method_4_46 : decode method_4_code 46 = .ok (.iload_n 2, 1) := by decide +kernel
theorem d_method_4_47 : decode method_4_code 47 = .ok (.bipush 8, 2) := by decide +kernel
theorem d_method_4_49 : decode method_4_code 49 = .ok (.iand, 1) := by decide +kernel
theorem d_method_4_50 : decode method_4_code 50 = .ok (.ifCond .eq 10, 3) := by decide +kernel
theorem d_method_4_53 : decode method_4_code 53 = .ok (.aload_n 3, 1) := by decide +kernel
theorem d_method_4_54 : decode method_4_code 54 = .ok (.iconst 3, 1) := by decide +kernel
theorem d_method_4_55 : decode method_4_code 55 = .ok (.iaload, 1) := by decide +kernel
theorem d_method_4_56 : decode method_4_code 56 = .ok (.iload_n 0, 1) := by decide +kernel
theorem d_method_4_57 : decode method_4_code 57 = .ok (.if_icmp .eq 17, 3) := by decide +kernel
theorem d_method_4_33 : decode method_4_code 33 = .ok (.iload_n 2, 1) := by decide +kernel
theorem d_method_4_34 : decode method_4_code 34 = .ok (.iconst 4, 1) := by decide +kernel
theorem d_method_4_35 : decode method_4_code 35 = .ok (.iand, 1) := by decide +kernel
theorem d_method_4_36 : decode method_4_code 36 = .ok (.ifCond .eq 10, 3) := by decide +kernel
theorem d_method_4_39 : decode method_4_code 39 = .ok (.aload_n 3, 1) := by decide +kernel
theorem d_method_4_40 : decode method_4_code 40 = .ok (.iconst 2, 1) := by decide +kernel
theorem d_method_4_41 : decode method_4_code 41 = .ok (.iaload, 1) := by decide +kernel
theorem d_method_4_42 : decode method_4_code 42 = .ok (.iload_n 0, 1) := by decide +kernel
theorem d_method_4_43 : decode method_4_code 43 = .ok (.if_icmp .eq 31, 3) := by decide +kernel
theorem d_method_4_20 : decode method_4_code 20 = .ok (.iload_n 2, 1) := by decide +kernel
theorem d_method_4_21 : decode method_4_code 21 = .ok (.iconst 2, 1) := by decide +kernel
theorem d_method_4_22 : decode method_4_code 22 = .ok (.iand, 1) := by decide +kernel
theorem d_method_4_23 : decode method_4_code 23 = .ok (.ifCond .eq 10, 3) := by decide +kernel
theorem d_method_4_26 : decode method_4_code 26 = .ok (.aload_n 3, 1) := by decide +kernel
theorem d_method_4_27 : decode method_4_code 27 = .ok (.iconst 1, 1) := by decide +kernel
theorem d_method_4_28 : decode method_4_code 28 = .ok (.iaload, 1) := by decide +kernel
theorem d_method_4_29 : decode method_4_code 29 = .ok (.iload_n 0, 1) := by decide +kernel
theorem d_method_4_30 : decode method_4_code 30 = .ok (.if_icmp .eq 44, 3) := by decide +kernel
theorem d_method_4_7 : decode method_4_code 7 = .ok (.iload_n 2, 1) := by decide +kernel
theorem d_method_4_8 : decode method_4_code 8 = .ok (.iconst 1, 1) := by decide +kernel
theorem d_method_4_9 : decode method_4_code 9 = .ok (.iand, 1) := by decide +kernel
theorem d_method_4_10 : decode method_4_code 10 = .ok (.ifCond .eq 10, 3) := by decide +kernel
theorem d_method_4_13 : decode method_4_code 13 = .ok (.aload_n 3, 1) := by decide +kernel
theorem d_method_4_14 : decode method_4_code 14 = .ok (.iconst 0, 1) := by decide +kernel
theorem d_method_4_15 : decode method_4_code 15 = .ok (.iaload, 1) := by decide +kernel
theorem d_method_4_16 : decode method_4_code 16 = .ok (.iload_n 0, 1) := by decide +kernel
theorem d_method_4_17 : decode method_4_code 17 = .ok (.if_icmp .eq 57, 3) := by decide +kernel
theorem d_method_4_0 : decode method_4_code 0 = .ok (.iload_n 0, 1) := by decide +kernel
theorem d_method_4_1 : decode method_4_code 1 = .ok (.aload_n 3, 1) := by decide +kernel
theorem d_method_4_2 : decode method_4_code 2 = .ok (.iload_n 1, 1) := by decide +kernel
theorem d_method_4_3 : decode method_4_code 3 = .ok (.iaload, 1) := by decide +kernel
theorem d_method_4_4 : decode method_4_code 4 = .ok (.if_icmp .eq 70, 3) := by decide +kernel
theorem ef_rmM (m : MethodId) (x0 : Int32) (x1 : Int32) (x2 : Int32) (x3 : Addr) : entryFrame m #[(.int x0), (.int x1), (.int x2), (.ref x3)] 4 = mkF m 0 #[.val (.int x0), .val (.int x1), .val (.int x2), .val (.ref x3)] [] := by first | (simp [entryFrame, mkF, argsToLocals, Value.category]; done) | rfl
set_option maxRecDepth 65536 in
set_option maxHeartbeats 40000000 in
theorem rmM (l : Launch) (Z : State) (a0 : Array Value) (hw : ∀ d ∈ tables_1, d.before a0 Z = true) (li x0 x1 x2 x3 x4 : Int32) (lx : Int32) (it : Int32) (m_ : Int32) (a1 : Addr) (h0 : Heap) (O0 : Ext Z.heap h0) (Y1 : Ary Z h0 a1 .int [Value.int x0, Value.int x1, Value.int x2, Value.int x3, Value.int x4]) (j1 : ¬ it < 0) (v1 : [Value.int x0, Value.int x1, Value.int x2, Value.int x3, Value.int x4][it.toNatClampNeg]? = some (.int li)) :
    Ctr l Z (⟨"com/example/phal/phal/service/GroupsJoinPinLaw", "inM", "(III[I)Z"⟩ : MethodName) method_4_code 4 (some .boolean) [] ({ frames := 0, cells := 0, slots := 0, locals := 0 } : Room) #[(.int lx), (.int it), (.int m_), (.ref a1)] h0 (fun v h L => ∃ z : Int32, v = some (.int z) ∧ Fr Z.heap.size L ∧ h = h0 ∧ (z = 1 ∧ (own_P lx li m_ x0 x1 x2 x3 x4) ∨ z = 0 ∧ ¬ (own_P lx li m_ x0 x1 x2 x3 x4))) := by
  refine ctr (plainFor_of_name pn_4) ?_
  intro p e s m below meth c s₁ hx hby hml hown hnm hret hlocks hZ X0 e0
  have N0 := Fr.nil Z.heap.size
  have hsz : ∀ {Ls : Array Slot}, Ls.size = 4 → Ls.size = c.maxLocals := fun q => q.trans hml.symm
  refine goE (ef_rmM m (lx) (it) (m_) (a1)) ?_
  show Goes p e below _ (s₁.setTop (mkF m 0 #[.val (.int lx), .val (.int it), .val (.int m_), .val (.ref a1)] []))
  have yes : (own_P lx li m_ x0 x1 x2 x3 x4) → Goes p e below (EndN s (fun v h L => ∃ z : Int32, v = some (.int z) ∧ Fr Z.heap.size L ∧ h = h0 ∧ (z = 1 ∧ (own_P lx li m_ x0 x1 x2 x3 x4) ∨ z = 0 ∧ ¬ (own_P lx li m_ x0 x1 x2 x3 x4))) ({ frames := 0, cells := 0, slots := 0, locals := 0 } : Room).cells ({ frames := 0, cells := 0, slots := 0, locals := 0 } : Room).slots) (s₁.setTop (mkF m 74 #[.val (.int lx), .val (.int it), .val (.int m_), .val (.ref a1)] [])) := by
    intro hP
    refine gIconst X0 hx (hb hby d_method_4_74) (v := (1 : Int32)) rfl ?_
    refine gGoto X0 hx (hb hby d_method_4_75) (pc' := 79) (by decide) (by decide) ?_
    show Goes p e below _ (s₁.setTop (mkF m 79 #[.val (.int lx), .val (.int it), .val (.int m_), .val (.ref a1)] [(.int (1 : Int32))]))
    exact goRetN X0 hx (t := .boolean) hret hlocks (by simp) (hb hby d_method_4_79) (z' := (1 : Int32)) rfl (by decide) (by decide) e0 (⟨1, rfl, N0, rfl, Or.inl ⟨rfl, hP⟩⟩)
  have no : ¬ (own_P lx li m_ x0 x1 x2 x3 x4) → Goes p e below (EndN s (fun v h L => ∃ z : Int32, v = some (.int z) ∧ Fr Z.heap.size L ∧ h = h0 ∧ (z = 1 ∧ (own_P lx li m_ x0 x1 x2 x3 x4) ∨ z = 0 ∧ ¬ (own_P lx li m_ x0 x1 x2 x3 x4))) ({ frames := 0, cells := 0, slots := 0, locals := 0 } : Room).cells ({ frames := 0, cells := 0, slots := 0, locals := 0 } : Room).slots) (s₁.setTop (mkF m 78 #[.val (.int lx), .val (.int it), .val (.int m_), .val (.ref a1)] [])) := by
    intro hP
    refine gIconst X0 hx (hb hby d_method_4_78) (v := (0 : Int32)) rfl ?_
    exact goRetN X0 hx (t := .boolean) hret hlocks (by simp) (hb hby d_method_4_79) (z' := (0 : Int32)) rfl (by decide) (by decide) e0 (⟨0, rfl, N0, rfl, Or.inr ⟨rfl, hP⟩⟩)
  have at60 : ¬ lx = li → ¬ (¬ m_ &&& (1 : Int32) = 0 ∧ x0 = lx) → ¬ (¬ m_ &&& (2 : Int32) = 0 ∧ x1 = lx) → ¬ (¬ m_ &&& (4 : Int32) = 0 ∧ x2 = lx) → ¬ (¬ m_ &&& (8 : Int32) = 0 ∧ x3 = lx) → Goes p e below (EndN s (fun v h L => ∃ z : Int32, v = some (.int z) ∧ Fr Z.heap.size L ∧ h = h0 ∧ (z = 1 ∧ (own_P lx li m_ x0 x1 x2 x3 x4) ∨ z = 0 ∧ ¬ (own_P lx li m_ x0 x1 x2 x3 x4))) ({ frames := 0, cells := 0, slots := 0, locals := 0 } : Room).cells ({ frames := 0, cells := 0, slots := 0, locals := 0 } : Room).slots) (s₁.setTop (mkF m 60 #[.val (.int lx), .val (.int it), .val (.int m_), .val (.ref a1)] [])) := by
    intro n0 n1 n2 n3 n4
    refine gIloadN X0 hx (hb hby d_method_4_60) rfl ?_
    refine gBipush X0 hx (hb hby d_method_4_61) (v := (16 : Int32)) rfl ?_
    refine gIand X0 hx (hb hby d_method_4_63) ?_
    by_cases g : (m_ &&& (16 : Int32)) = 0
    · refine gIfY X0 hx (hb hby d_method_4_64) (pc' := 78) (XT.i0_eq_t g) (by decide) (by decide) ?_
      show Goes p e below _ (s₁.setTop (mkF m 78 #[.val (.int lx), .val (.int it), .val (.int m_), .val (.ref a1)] []))
      exact no (fun q => q.elim n0 (fun q => q.elim n1 (fun q => q.elim n2 (fun q => q.elim n3 (fun q => q.elim n4 (fun q => q.1 g))))))
    · refine gIfN X0 hx (hb hby d_method_4_64) (XT.i0_eq_f g) ?_
      show Goes p e below _ (s₁.setTop (mkF m 67 #[.val (.int lx), .val (.int it), .val (.int m_), .val (.ref a1)] []))
      refine gAloadN X0 hx (hb hby d_method_4_67) rfl rfl ?_
      refine gIconst X0 hx (hb hby d_method_4_68) (v := (4 : Int32)) rfl ?_
      refine goIaload X0 hx hZ e0 Y1 (x := x4) (hb hby d_method_4_69) (by decide) rfl ?_
      refine gIloadN X0 hx (hb hby d_method_4_70) rfl ?_
      by_cases g2 : x4 = lx
      · refine gIcmpN X0 hx (hb hby d_method_4_71) (XT.ii_ne_f g2) ?_
        show Goes p e below _ (s₁.setTop (mkF m 74 #[.val (.int lx), .val (.int it), .val (.int m_), .val (.ref a1)] []))
        exact yes (Or.inr (Or.inr (Or.inr (Or.inr (Or.inr ⟨g, g2⟩)))))
      · refine gIcmpY X0 hx (hb hby d_method_4_71) (pc' := 78) (XT.ii_ne_t g2) (by decide) (by decide) ?_
        show Goes p e below _ (s₁.setTop (mkF m 78 #[.val (.int lx), .val (.int it), .val (.int m_), .val (.ref a1)] []))
        exact no (fun q => q.elim n0 (fun q => q.elim n1 (fun q => q.elim n2 (fun q => q.elim n3 (fun q => q.elim n4 (fun q => g2 q.2))))))
  have at46 : ¬ lx = li → ¬ (¬ m_ &&& (1 : Int32) = 0 ∧ x0 = lx) → ¬ (¬ m_ &&& (2 : Int32) = 0 ∧ x1 = lx) → ¬ (¬ m_ &&& (4 : Int32) = 0 ∧ x2 = lx) → Goes p e below (EndN s (fun v h L => ∃ z : Int32, v = some (.int z) ∧ Fr Z.heap.size L ∧ h = h0 ∧ (z = 1 ∧ (own_P lx li m_ x0 x1 x2 x3 x4) ∨ z = 0 ∧ ¬ (own_P lx li m_ x0 x1 x2 x3 x4))) ({ frames := 0, cells := 0, slots := 0, locals := 0 } : Room).cells ({ frames := 0, cells := 0, slots := 0, locals := 0 } : Room).slots) (s₁.setTop (mkF m 46 #[.val (.int lx), .val (.int it), .val (.int m_), .val (.ref a1)] [])) := by
    intro n0 n1 n2 n3
    refine gIloadN X0 hx (hb hby d_method_4_46) rfl ?_
    refine gBipush X0 hx (hb hby d_method_4_47) (v := (8 : Int32)) rfl ?_
    refine gIand X0 hx (hb hby d_method_4_49) ?_
    by_cases g : (m_ &&& (8 : Int32)) = 0
    · refine gIfY X0 hx (hb hby d_method_4_50) (pc' := 60) (XT.i0_eq_t g) (by decide) (by decide) ?_
      show Goes p e below _ (s₁.setTop (mkF m 60 #[.val (.int lx), .val (.int it), .val (.int m_), .val (.ref a1)] []))
      exact at60 n0 n1 n2 n3 (fun q => q.1 g)
    · refine gIfN X0 hx (hb hby d_method_4_50) (XT.i0_eq_f g) ?_
      show Goes p e below _ (s₁.setTop (mkF m 53 #[.val (.int lx), .val (.int it), .val (.int m_), .val (.ref a1)] []))
      refine gAloadN X0 hx (hb hby d_method_4_53) rfl rfl ?_
      refine gIconst X0 hx (hb hby d_method_4_54) (v := (3 : Int32)) rfl ?_
      refine goIaload X0 hx hZ e0 Y1 (x := x3) (hb hby d_method_4_55) (by decide) rfl ?_
      refine gIloadN X0 hx (hb hby d_method_4_56) rfl ?_
      by_cases g2 : x3 = lx
      · refine gIcmpY X0 hx (hb hby d_method_4_57) (pc' := 74) (XT.ii_eq_t g2) (by decide) (by decide) ?_
        show Goes p e below _ (s₁.setTop (mkF m 74 #[.val (.int lx), .val (.int it), .val (.int m_), .val (.ref a1)] []))
        exact yes (Or.inr (Or.inr (Or.inr (Or.inr (Or.inl ⟨g, g2⟩)))))
      · refine gIcmpN X0 hx (hb hby d_method_4_57) (XT.ii_eq_f g2) ?_
        show Goes p e below _ (s₁.setTop (mkF m 60 #[.val (.int lx), .val (.int it), .val (.int m_), .val (.ref a1)] []))
        exact at60 n0 n1 n2 n3 (fun q => g2 q.2)
  have at33 : ¬ lx = li → ¬ (¬ m_ &&& (1 : Int32) = 0 ∧ x0 = lx) → ¬ (¬ m_ &&& (2 : Int32) = 0 ∧ x1 = lx) → Goes p e below (EndN s (fun v h L => ∃ z : Int32, v = some (.int z) ∧ Fr Z.heap.size L ∧ h = h0 ∧ (z = 1 ∧ (own_P lx li m_ x0 x1 x2 x3 x4) ∨ z = 0 ∧ ¬ (own_P lx li m_ x0 x1 x2 x3 x4))) ({ frames := 0, cells := 0, slots := 0, locals := 0 } : Room).cells ({ frames := 0, cells := 0, slots := 0, locals := 0 } : Room).slots) (s₁.setTop (mkF m 33 #[.val (.int lx), .val (.int it), .val (.int m_), .val (.ref a1)] [])) := by
    intro n0 n1 n2
    refine gIloadN X0 hx (hb hby d_method_4_33) rfl ?_
    refine gIconst X0 hx (hb hby d_method_4_34) (v := (4 : Int32)) rfl ?_
    refine gIand X0 hx (hb hby d_method_4_35) ?_
    by_cases g : (m_ &&& (4 : Int32)) = 0
    · refine gIfY X0 hx (hb hby d_method_4_36) (pc' := 46) (XT.i0_eq_t g) (by decide) (by decide) ?_
      show Goes p e below _ (s₁.setTop (mkF m 46 #[.val (.int lx), .val (.int it), .val (.int m_), .val (.ref a1)] []))
      exact at46 n0 n1 n2 (fun q => q.1 g)
    · refine gIfN X0 hx (hb hby d_method_4_36) (XT.i0_eq_f g) ?_
      show Goes p e below _ (s₁.setTop (mkF m 39 #[.val (.int lx), .val (.int it), .val (.int m_), .val (.ref a1)] []))
      refine gAloadN X0 hx (hb hby d_method_4_39) rfl rfl ?_
      refine gIconst X0 hx (hb hby d_method_4_40) (v := (2 : Int32)) rfl ?_
      refine goIaload X0 hx hZ e0 Y1 (x := x2) (hb hby d_method_4_41) (by decide) rfl ?_
      refine gIloadN X0 hx (hb hby d_method_4_42) rfl ?_
      by_cases g2 : x2 = lx
      · refine gIcmpY X0 hx (hb hby d_method_4_43) (pc' := 74) (XT.ii_eq_t g2) (by decide) (by decide) ?_
        show Goes p e below _ (s₁.setTop (mkF m 74 #[.val (.int lx), .val (.int it), .val (.int m_), .val (.ref a1)] []))
        exact yes (Or.inr (Or.inr (Or.inr (Or.inl ⟨g, g2⟩))))
      · refine gIcmpN X0 hx (hb hby d_method_4_43) (XT.ii_eq_f g2) ?_
        show Goes p e below _ (s₁.setTop (mkF m 46 #[.val (.int lx), .val (.int it), .val (.int m_), .val (.ref a1)] []))
        exact at46 n0 n1 n2 (fun q => g2 q.2)
  have at20 : ¬ lx = li → ¬ (¬ m_ &&& (1 : Int32) = 0 ∧ x0 = lx) → Goes p e below (EndN s (fun v h L => ∃ z : Int32, v = some (.int z) ∧ Fr Z.heap.size L ∧ h = h0 ∧ (z = 1 ∧ (own_P lx li m_ x0 x1 x2 x3 x4) ∨ z = 0 ∧ ¬ (own_P lx li m_ x0 x1 x2 x3 x4))) ({ frames := 0, cells := 0, slots := 0, locals := 0 } : Room).cells ({ frames := 0, cells := 0, slots := 0, locals := 0 } : Room).slots) (s₁.setTop (mkF m 20 #[.val (.int lx), .val (.int it), .val (.int m_), .val (.ref a1)] [])) := by
    intro n0 n1
    refine gIloadN X0 hx (hb hby d_method_4_20) rfl ?_
    refine gIconst X0 hx (hb hby d_method_4_21) (v := (2 : Int32)) rfl ?_
    refine gIand X0 hx (hb hby d_method_4_22) ?_
    by_cases g : (m_ &&& (2 : Int32)) = 0
    · refine gIfY X0 hx (hb hby d_method_4_23) (pc' := 33) (XT.i0_eq_t g) (by decide) (by decide) ?_
      show Goes p e below _ (s₁.setTop (mkF m 33 #[.val (.int lx), .val (.int it), .val (.int m_), .val (.ref a1)] []))
      exact at33 n0 n1 (fun q => q.1 g)
    · refine gIfN X0 hx (hb hby d_method_4_23) (XT.i0_eq_f g) ?_
      show Goes p e below _ (s₁.setTop (mkF m 26 #[.val (.int lx), .val (.int it), .val (.int m_), .val (.ref a1)] []))
      refine gAloadN X0 hx (hb hby d_method_4_26) rfl rfl ?_
      refine gIconst X0 hx (hb hby d_method_4_27) (v := (1 : Int32)) rfl ?_
      refine goIaload X0 hx hZ e0 Y1 (x := x1) (hb hby d_method_4_28) (by decide) rfl ?_
      refine gIloadN X0 hx (hb hby d_method_4_29) rfl ?_
      by_cases g2 : x1 = lx
      · refine gIcmpY X0 hx (hb hby d_method_4_30) (pc' := 74) (XT.ii_eq_t g2) (by decide) (by decide) ?_
        show Goes p e below _ (s₁.setTop (mkF m 74 #[.val (.int lx), .val (.int it), .val (.int m_), .val (.ref a1)] []))
        exact yes (Or.inr (Or.inr (Or.inl ⟨g, g2⟩)))
      · refine gIcmpN X0 hx (hb hby d_method_4_30) (XT.ii_eq_f g2) ?_
        show Goes p e below _ (s₁.setTop (mkF m 33 #[.val (.int lx), .val (.int it), .val (.int m_), .val (.ref a1)] []))
        exact at33 n0 n1 (fun q => g2 q.2)
  have at7 : ¬ lx = li → Goes p e below (EndN s (fun v h L => ∃ z : Int32, v = some (.int z) ∧ Fr Z.heap.size L ∧ h = h0 ∧ (z = 1 ∧ (own_P lx li m_ x0 x1 x2 x3 x4) ∨ z = 0 ∧ ¬ (own_P lx li m_ x0 x1 x2 x3 x4))) ({ frames := 0, cells := 0, slots := 0, locals := 0 } : Room).cells ({ frames := 0, cells := 0, slots := 0, locals := 0 } : Room).slots) (s₁.setTop (mkF m 7 #[.val (.int lx), .val (.int it), .val (.int m_), .val (.ref a1)] [])) := by
    intro n0
    refine gIloadN X0 hx (hb hby d_method_4_7) rfl ?_
    refine gIconst X0 hx (hb hby d_method_4_8) (v := (1 : Int32)) rfl ?_
    refine gIand X0 hx (hb hby d_method_4_9) ?_
    by_cases g : (m_ &&& (1 : Int32)) = 0
    · refine gIfY X0 hx (hb hby d_method_4_10) (pc' := 20) (XT.i0_eq_t g) (by decide) (by decide) ?_
      show Goes p e below _ (s₁.setTop (mkF m 20 #[.val (.int lx), .val (.int it), .val (.int m_), .val (.ref a1)] []))
      exact at20 n0 (fun q => q.1 g)
    · refine gIfN X0 hx (hb hby d_method_4_10) (XT.i0_eq_f g) ?_
      show Goes p e below _ (s₁.setTop (mkF m 13 #[.val (.int lx), .val (.int it), .val (.int m_), .val (.ref a1)] []))
      refine gAloadN X0 hx (hb hby d_method_4_13) rfl rfl ?_
      refine gIconst X0 hx (hb hby d_method_4_14) (v := (0 : Int32)) rfl ?_
      refine goIaload X0 hx hZ e0 Y1 (x := x0) (hb hby d_method_4_15) (by decide) rfl ?_
      refine gIloadN X0 hx (hb hby d_method_4_16) rfl ?_
      by_cases g2 : x0 = lx
      · refine gIcmpY X0 hx (hb hby d_method_4_17) (pc' := 74) (XT.ii_eq_t g2) (by decide) (by decide) ?_
        show Goes p e below _ (s₁.setTop (mkF m 74 #[.val (.int lx), .val (.int it), .val (.int m_), .val (.ref a1)] []))
        exact yes (Or.inr (Or.inl ⟨g, g2⟩))
      · refine gIcmpN X0 hx (hb hby d_method_4_17) (XT.ii_eq_f g2) ?_
        show Goes p e below _ (s₁.setTop (mkF m 20 #[.val (.int lx), .val (.int it), .val (.int m_), .val (.ref a1)] []))
        exact at20 n0 (fun q => g2 q.2)
  refine gIloadN X0 hx (hb hby d_method_4_0) rfl ?_
  refine gAloadN X0 hx (hb hby d_method_4_1) rfl rfl ?_
  refine gIloadN X0 hx (hb hby d_method_4_2) rfl ?_
  refine goIaload X0 hx hZ e0 Y1 (x := li) (hb hby d_method_4_3) j1 v1 ?_
  show Goes p e below _ (s₁.setTop (mkF m 4 #[.val (.int lx), .val (.int it), .val (.int m_), .val (.ref a1)] [(.int li), (.int lx)]))
  by_cases g : lx = li
  · refine gIcmpY X0 hx (hb hby d_method_4_4) (pc' := 74) (XT.ii_eq_t g) (by decide) (by decide) ?_
    show Goes p e below _ (s₁.setTop (mkF m 74 #[.val (.int lx), .val (.int it), .val (.int m_), .val (.ref a1)] []))
    exact yes (Or.inl g)
  · refine gIcmpN X0 hx (hb hby d_method_4_4) (XT.ii_eq_f g) ?_
    show Goes p e below _ (s₁.setTop (mkF m 7 #[.val (.int lx), .val (.int it), .val (.int m_), .val (.ref a1)] []))
    exact at7 g
theorem d_method_5_0 : decode method_5_code 0 = .ok (.aload 4, 2) := by decide +kernel
theorem d_method_5_2 : decode method_5_code 2 = .ok (.iload_n 0, 1) := by decide +kernel
theorem d_method_5_3 : decode method_5_code 3 = .ok (.iaload, 1) := by decide +kernel
theorem d_method_5_4 : decode method_5_code 4 = .ok (.istore 5, 2) := by decide +kernel
theorem d_method_5_6 : decode method_5_code 6 = .ok (.aload 4, 2) := by decide +kernel
theorem d_method_5_8 : decode method_5_code 8 = .ok (.iload_n 1, 1) := by decide +kernel
theorem d_method_5_9 : decode method_5_code 9 = .ok (.iaload, 1) := by decide +kernel
theorem d_method_5_10 : decode method_5_code 10 = .ok (.istore 6, 2) := by decide +kernel
theorem d_method_5_12 : decode method_5_code 12 = .ok (.iload 5, 2) := by decide +kernel
theorem d_method_5_14 : decode method_5_code 14 = .ok (.iload 6, 2) := by decide +kernel
theorem d_method_5_16 : decode method_5_code 16 = .ok (.if_icmp .eq 27, 3) := by decide +kernel
theorem d_method_5_43 : decode method_5_code 43 = .ok (.iconst 1, 1) := by decide +kernel
theorem d_method_5_44 : decode method_5_code 44 = .ok (.goto 4, 3) := by decide +kernel
theorem d_method_5_48 : decode method_5_code 48 = .ok (.ireturn, 1) := by decide +kernel
theorem d_method_5_19 : decode method_5_code 19 = .ok (.iload 5, 2) := by decide +kernel
theorem d_method_5_21 : decode method_5_code 21 = .ok (.iload_n 2, 1) := by decide +kernel
theorem d_method_5_22 : decode method_5_code 22 = .ok (.iload_n 3, 1) := by decide +kernel
theorem d_method_5_23 : decode method_5_code 23 = .ok (.aload 4, 2) := by decide +kernel
theorem pd_6 : parseMethodDescriptor "(III[I)Z" = some ⟨[.int, .int, .int, (.array .int)], some .boolean⟩ := by decide +kernel
theorem d_method_5_25 : decode method_5_code 25 = .ok (.invokestatic 13, 3) := by decide +kernel
theorem d_method_5_28 : decode method_5_code 28 = .ok (.ifCond .eq 19, 3) := by decide +kernel
theorem d_method_5_47 : decode method_5_code 47 = .ok (.iconst 0, 1) := by decide +kernel
theorem d_method_5_31 : decode method_5_code 31 = .ok (.iload 6, 2) := by decide +kernel
theorem d_method_5_33 : decode method_5_code 33 = .ok (.iload_n 2, 1) := by decide +kernel
theorem d_method_5_34 : decode method_5_code 34 = .ok (.iload_n 3, 1) := by decide +kernel
theorem d_method_5_35 : decode method_5_code 35 = .ok (.aload 4, 2) := by decide +kernel
theorem d_method_5_37 : decode method_5_code 37 = .ok (.invokestatic 13, 3) := by decide +kernel
theorem d_method_5_40 : decode method_5_code 40 = .ok (.ifCond .eq 7, 3) := by decide +kernel
theorem ef_rmS (m : MethodId) (x0 : Int32) (x1 : Int32) (x2 : Int32) (x3 : Int32) (x4 : Addr) : entryFrame m #[(.int x0), (.int x1), (.int x2), (.int x3), (.ref x4)] 7 = mkF m 0 #[.val (.int x0), .val (.int x1), .val (.int x2), .val (.int x3), .val (.ref x4), .unset, .unset] [] := by first | (simp [entryFrame, mkF, argsToLocals, Value.category]; done) | rfl
set_option maxRecDepth 65536 in
set_option maxHeartbeats 40000000 in
theorem rmS (l : Launch) (Z : State) (a0 : Array Value) (hw : ∀ d ∈ tables_1, d.before a0 Z = true) (lx ly li x0 x1 x2 x3 x4 : Int32) (p0 : Int32) (p1 : Int32) (it : Int32) (m_ : Int32) (a1 : Addr) (h0 : Heap) (O0 : Ext Z.heap h0) (Y1 : Ary Z h0 a1 .int [Value.int x0, Value.int x1, Value.int x2, Value.int x3, Value.int x4]) (j1 : ¬ it < 0) (v1 : [Value.int x0, Value.int x1, Value.int x2, Value.int x3, Value.int x4][it.toNatClampNeg]? = some (.int li)) (j2 : ¬ p0 < 0) (v2 : [Value.int x0, Value.int x1, Value.int x2, Value.int x3, Value.int x4][p0.toNatClampNeg]? = some (.int lx)) (j3 : ¬ p1 < 0) (v3 : [Value.int x0, Value.int x1, Value.int x2, Value.int x3, Value.int x4][p1.toNatClampNeg]? = some (.int ly)) :
    Ctr l Z (⟨"com/example/phal/phal/service/GroupsJoinPinLaw", "same", "(IIII[I)Z"⟩ : MethodName) method_5_code 7 (some .boolean) [] ({ frames := 1, cells := 0, slots := 0, locals := 19 } : Room) #[(.int p0), (.int p1), (.int it), (.int m_), (.ref a1)] h0 (fun v h L => ∃ z : Int32, v = some (.int z) ∧ Fr Z.heap.size L ∧ h = h0 ∧ (z = 1 ∧ (own_PS lx ly li m_ x0 x1 x2 x3 x4) ∨ z = 0 ∧ ¬ (own_PS lx ly li m_ x0 x1 x2 x3 x4))) := by
  refine ctr (plainFor_of_name pn_4) ?_
  intro p e s m below meth c s₁ hx hby hml hown hnm hret hlocks hZ X0 e0
  have N0 := Fr.nil Z.heap.size
  have hsz : ∀ {Ls : Array Slot}, Ls.size = 7 → Ls.size = c.maxLocals := fun q => q.trans hml.symm
  refine goE (ef_rmS m (p0) (p1) (it) (m_) (a1)) ?_
  show Goes p e below _ (s₁.setTop (mkF m 0 #[.val (.int p0), .val (.int p1), .val (.int it), .val (.int m_), .val (.ref a1), .unset, .unset] []))
  refine gAload X0 hx (hb hby d_method_5_0) rfl rfl ?_
  refine gIloadN X0 hx (hb hby d_method_5_2) rfl ?_
  refine goIaload X0 hx hZ e0 Y1 (x := lx) (hb hby d_method_5_3) j2 v2 ?_
  show Goes p e below _ (s₁.setTop (mkF m 4 #[.val (.int p0), .val (.int p1), .val (.int it), .val (.int m_), .val (.ref a1), .unset, .unset] [(.int lx)]))
  refine gIstore X0 hx (hb hby d_method_5_4) (l' := #[.val (.int p0), .val (.int p1), .val (.int it), .val (.int m_), .val (.ref a1), .val (.int lx), .unset]) rfl ?_
  refine gAload X0 hx (hb hby d_method_5_6) rfl rfl ?_
  refine gIloadN X0 hx (hb hby d_method_5_8) rfl ?_
  refine goIaload X0 hx hZ e0 Y1 (x := ly) (hb hby d_method_5_9) j3 v3 ?_
  show Goes p e below _ (s₁.setTop (mkF m 10 #[.val (.int p0), .val (.int p1), .val (.int it), .val (.int m_), .val (.ref a1), .val (.int lx), .unset] [(.int ly)]))
  refine gIstore X0 hx (hb hby d_method_5_10) (l' := #[.val (.int p0), .val (.int p1), .val (.int it), .val (.int m_), .val (.ref a1), .val (.int lx), .val (.int ly)]) rfl ?_
  refine gIload X0 hx (hb hby d_method_5_12) rfl ?_
  refine gIload X0 hx (hb hby d_method_5_14) rfl ?_
  by_cases g : lx = ly
  · refine gIcmpY X0 hx (hb hby d_method_5_16) (pc' := 43) (XT.ii_eq_t g) (by decide) (by decide) ?_
    show Goes p e below _ (s₁.setTop (mkF m 43 #[.val (.int p0), .val (.int p1), .val (.int it), .val (.int m_), .val (.ref a1), .val (.int lx), .val (.int ly)] []))
    refine gIconst X0 hx (hb hby d_method_5_43) (v := (1 : Int32)) rfl ?_
    refine gGoto X0 hx (hb hby d_method_5_44) (pc' := 48) (by decide) (by decide) ?_
    show Goes p e below _ (s₁.setTop (mkF m 48 #[.val (.int p0), .val (.int p1), .val (.int it), .val (.int m_), .val (.ref a1), .val (.int lx), .val (.int ly)] [(.int (1 : Int32))]))
    exact goRetN X0 hx (t := .boolean) hret hlocks (by simp) (hb hby d_method_5_48) (z' := (1 : Int32)) rfl (by decide) (by decide) e0 (⟨1, rfl, N0, rfl, Or.inl ⟨rfl, Or.inl g⟩⟩)
  · refine gIcmpN X0 hx (hb hby d_method_5_16) (XT.ii_eq_f g) ?_
    show Goes p e below _ (s₁.setTop (mkF m 19 #[.val (.int p0), .val (.int p1), .val (.int it), .val (.int m_), .val (.ref a1), .val (.int lx), .val (.int ly)] []))
    refine gIload X0 hx (hb hby d_method_5_19) rfl ?_
    refine gIloadN X0 hx (hb hby d_method_5_21) rfl ?_
    refine gIloadN X0 hx (hb hby d_method_5_22) rfl ?_
    refine gAload X0 hx (hb hby d_method_5_23) rfl rfl ?_
    refine goCallS X0 hx hZ hown (hw _ (List.mem_of_getElem? (i := 101) rfl)) (hw _ (List.mem_of_getElem? (i := 102) rfl)) (hw _ (List.mem_of_getElem? (i := 90) rfl)) (hw _ (List.mem_of_getElem? (i := 103) rfl)) (by decide) (rmM l Z a0 hw li x0 x1 x2 x3 x4 lx it m_ a1 h0 O0 Y1 j1 v1) 0 (by decide) (by decide) e0 (hsz rfl) [(.int lx), (.int it), (.int m_), (.ref a1)] [] pd_6 rfl rfl rfl (Nat.le_of_eq rfl) (hb hby d_method_5_25) (by decide) (by decide) (fun Tt1 vt1 Lt1 Xt1 qt1 => ?_)
    obtain ⟨z1, rfl, N2, et1, Hz1⟩ := qt1
    have N3 := Fr.app N0 N2
    show Goes p e below _ (Tt1.setTop (mkF m 28 #[.val (.int p0), .val (.int p1), .val (.int it), .val (.int m_), .val (.ref a1), .val (.int lx), .val (.int ly)] [(.int z1)]))
    rcases Hz1 with ⟨rfl, H1⟩ | ⟨rfl, H1⟩
    · show Goes p e below _ (Tt1.setTop (mkF m 28 #[.val (.int p0), .val (.int p1), .val (.int it), .val (.int m_), .val (.ref a1), .val (.int lx), .val (.int ly)] [(.int (1 : Int32))]))
      refine gIfN Xt1 hx (hb hby d_method_5_28) (XT.i0_eq_f (by decide)) ?_
      show Goes p e below _ (Tt1.setTop (mkF m 31 #[.val (.int p0), .val (.int p1), .val (.int it), .val (.int m_), .val (.ref a1), .val (.int lx), .val (.int ly)] []))
      refine gIload Xt1 hx (hb hby d_method_5_31) rfl ?_
      refine gIloadN Xt1 hx (hb hby d_method_5_33) rfl ?_
      refine gIloadN Xt1 hx (hb hby d_method_5_34) rfl ?_
      refine gAload Xt1 hx (hb hby d_method_5_35) rfl rfl ?_
      refine goCallS Xt1 hx hZ hown (hw _ (List.mem_of_getElem? (i := 101) rfl)) (hw _ (List.mem_of_getElem? (i := 102) rfl)) (hw _ (List.mem_of_getElem? (i := 90) rfl)) (hw _ (List.mem_of_getElem? (i := 103) rfl)) (by decide) (rmM l Z a0 hw li x0 x1 x2 x3 x4 ly it m_ a1 h0 O0 Y1 j1 v1) 0 (by decide) (by decide) et1 (hsz rfl) [(.int ly), (.int it), (.int m_), (.ref a1)] [] pd_6 rfl rfl rfl (Nat.le_of_eq rfl) (hb hby d_method_5_37) (by decide) (by decide) (fun Tt4 vt4 Lt4 Xt4 qt4 => ?_)
      obtain ⟨z2, rfl, N5, et4, Hz2⟩ := qt4
      have N6 := Fr.app N3 N5
      show Goes p e below _ (Tt4.setTop (mkF m 40 #[.val (.int p0), .val (.int p1), .val (.int it), .val (.int m_), .val (.ref a1), .val (.int lx), .val (.int ly)] [(.int z2)]))
      rcases Hz2 with ⟨rfl, H2⟩ | ⟨rfl, H2⟩
      · show Goes p e below _ (Tt4.setTop (mkF m 40 #[.val (.int p0), .val (.int p1), .val (.int it), .val (.int m_), .val (.ref a1), .val (.int lx), .val (.int ly)] [(.int (1 : Int32))]))
        refine gIfN Xt4 hx (hb hby d_method_5_40) (XT.i0_eq_f (by decide)) ?_
        show Goes p e below _ (Tt4.setTop (mkF m 43 #[.val (.int p0), .val (.int p1), .val (.int it), .val (.int m_), .val (.ref a1), .val (.int lx), .val (.int ly)] []))
        refine gIconst Xt4 hx (hb hby d_method_5_43) (v := (1 : Int32)) rfl ?_
        refine gGoto Xt4 hx (hb hby d_method_5_44) (pc' := 48) (by decide) (by decide) ?_
        show Goes p e below _ (Tt4.setTop (mkF m 48 #[.val (.int p0), .val (.int p1), .val (.int it), .val (.int m_), .val (.ref a1), .val (.int lx), .val (.int ly)] [(.int (1 : Int32))]))
        exact goRetN Xt4 hx (t := .boolean) hret hlocks (by simp) (hb hby d_method_5_48) (z' := (1 : Int32)) rfl (by decide) (by decide) et4 (⟨1, rfl, N6, rfl, Or.inl ⟨rfl, Or.inr ⟨H1, H2⟩⟩⟩)
      · show Goes p e below _ (Tt4.setTop (mkF m 40 #[.val (.int p0), .val (.int p1), .val (.int it), .val (.int m_), .val (.ref a1), .val (.int lx), .val (.int ly)] [(.int (0 : Int32))]))
        refine gIfY Xt4 hx (hb hby d_method_5_40) (pc' := 47) (XT.i0_eq_t rfl) (by decide) (by decide) ?_
        show Goes p e below _ (Tt4.setTop (mkF m 47 #[.val (.int p0), .val (.int p1), .val (.int it), .val (.int m_), .val (.ref a1), .val (.int lx), .val (.int ly)] []))
        refine gIconst Xt4 hx (hb hby d_method_5_47) (v := (0 : Int32)) rfl ?_
        exact goRetN Xt4 hx (t := .boolean) hret hlocks (by simp) (hb hby d_method_5_48) (z' := (0 : Int32)) rfl (by decide) (by decide) et4 (⟨0, rfl, N6, rfl, Or.inr ⟨rfl, fun q => q.elim g fun q => H2 q.2⟩⟩)
    · show Goes p e below _ (Tt1.setTop (mkF m 28 #[.val (.int p0), .val (.int p1), .val (.int it), .val (.int m_), .val (.ref a1), .val (.int lx), .val (.int ly)] [(.int (0 : Int32))]))
      refine gIfY Xt1 hx (hb hby d_method_5_28) (pc' := 47) (XT.i0_eq_t rfl) (by decide) (by decide) ?_
      show Goes p e below _ (Tt1.setTop (mkF m 47 #[.val (.int p0), .val (.int p1), .val (.int it), .val (.int m_), .val (.ref a1), .val (.int lx), .val (.int ly)] []))
      refine gIconst Xt1 hx (hb hby d_method_5_47) (v := (0 : Int32)) rfl ?_
      exact goRetN Xt1 hx (t := .boolean) hret hlocks (by simp) (hb hby d_method_5_48) (z' := (0 : Int32)) rfl (by decide) (by decide) et1 (⟨0, rfl, N3, rfl, Or.inr ⟨rfl, fun q => q.elim g fun q => H1 q.1⟩⟩)
theorem d_method_6_0 : decode method_6_code 0 = .ok (.aload_n 0, 1) := by decide +kernel
theorem d_method_6_1 : decode method_6_code 1 = .ok (.iload_n 1, 1) := by decide +kernel
theorem d_method_6_2 : decode method_6_code 2 = .ok (.iaload, 1) := by decide +kernel
theorem d_method_6_3 : decode method_6_code 3 = .ok (.istore 5, 2) := by decide +kernel
theorem d_method_6_5 : decode method_6_code 5 = .ok (.iload 5, 2) := by decide +kernel
theorem d_method_6_7 : decode method_6_code 7 = .ok (.ifCond .lt 26, 3) := by decide +kernel
theorem d_method_6_10 : decode method_6_code 10 = .ok (.iload 5, 2) := by decide +kernel
theorem d_method_6_12 : decode method_6_code 12 = .ok (.iconst 5, 1) := by decide +kernel
theorem d_method_6_13 : decode method_6_code 13 = .ok (.if_icmp .ge 20, 3) := by decide +kernel
theorem d_method_6_16 : decode method_6_code 16 = .ok (.iload_n 1, 1) := by decide +kernel
theorem d_method_6_17 : decode method_6_code 17 = .ok (.iload 5, 2) := by decide +kernel
theorem d_method_6_19 : decode method_6_code 19 = .ok (.iload_n 2, 1) := by decide +kernel
theorem d_method_6_20 : decode method_6_code 20 = .ok (.iload_n 3, 1) := by decide +kernel
theorem d_method_6_21 : decode method_6_code 21 = .ok (.aload 4, 2) := by decide +kernel
theorem pd_7 : parseMethodDescriptor "(IIII[I)Z" = some ⟨[.int, .int, .int, .int, (.array .int)], some .boolean⟩ := by decide +kernel
theorem d_method_6_23 : decode method_6_code 23 = .ok (.invokestatic 17, 3) := by decide +kernel
theorem d_method_6_26 : decode method_6_code 26 = .ok (.ifCond .eq 7, 3) := by decide +kernel
theorem d_method_6_29 : decode method_6_code 29 = .ok (.iconst 1, 1) := by decide +kernel
theorem d_method_6_30 : decode method_6_code 30 = .ok (.goto 4, 3) := by decide +kernel
theorem d_method_6_34 : decode method_6_code 34 = .ok (.ireturn, 1) := by decide +kernel
theorem ef_rmR (m : MethodId) (x0 : Addr) (x1 : Int32) (x2 : Int32) (x3 : Int32) (x4 : Addr) : entryFrame m #[(.ref x0), (.int x1), (.int x2), (.int x3), (.ref x4)] 6 = mkF m 0 #[.val (.ref x0), .val (.int x1), .val (.int x2), .val (.int x3), .val (.ref x4), .unset] [] := by first | (simp [entryFrame, mkF, argsToLocals, Value.category]; done) | rfl
set_option maxRecDepth 65536 in
set_option maxHeartbeats 40000000 in
theorem rmR (l : Launch) (Z : State) (a0 : Array Value) (hw : ∀ d ∈ tables_1, d.before a0 Z = true) (lx ly li rx x0 x1 x2 x3 x4 y0 y1 y2 y3 y4 : Int32) (a0_ : Addr) (p0 : Int32) (it : Int32) (m_ : Int32) (a1 : Addr) (h0 : Heap) (O0 : Ext Z.heap h0) (Y0 : Ary Z h0 a0_ .int [Value.int y0, Value.int y1, Value.int y2, Value.int y3, Value.int y4]) (Y1 : Ary Z h0 a1 .int [Value.int x0, Value.int x1, Value.int x2, Value.int x3, Value.int x4]) (j1 : ¬ it < 0) (v1 : [Value.int x0, Value.int x1, Value.int x2, Value.int x3, Value.int x4][it.toNatClampNeg]? = some (.int li)) (j2 : ¬ p0 < 0) (v2 : [Value.int x0, Value.int x1, Value.int x2, Value.int x3, Value.int x4][p0.toNatClampNeg]? = some (.int lx)) (v0 : [Value.int y0, Value.int y1, Value.int y2, Value.int y3, Value.int y4][p0.toNatClampNeg]? = some (.int rx)) (j3 : ¬ rx < 0) (j4 : rx < 5) (v3 : [Value.int x0, Value.int x1, Value.int x2, Value.int x3, Value.int x4][rx.toNatClampNeg]? = some (.int ly)) (hS : (own_PS lx ly li m_ x0 x1 x2 x3 x4)) :
    Ctr l Z (⟨"com/example/phal/phal/service/GroupsJoinPinLaw", "rootOk", "([IIII[I)Z"⟩ : MethodName) method_6_code 6 (some .boolean) [] ({ frames := 2, cells := 0, slots := 0, locals := 42 } : Room) #[(.ref a0_), (.int p0), (.int it), (.int m_), (.ref a1)] h0 (fun v h L => v = some (.int 1) ∧ Fr Z.heap.size L ∧ h = h0) := by
  refine ctr (plainFor_of_name pn_4) ?_
  intro p e s m below meth c s₁ hx hby hml hown hnm hret hlocks hZ X0 e0
  have N0 := Fr.nil Z.heap.size
  have hsz : ∀ {Ls : Array Slot}, Ls.size = 6 → Ls.size = c.maxLocals := fun q => q.trans hml.symm
  refine goE (ef_rmR m (a0_) (p0) (it) (m_) (a1)) ?_
  show Goes p e below _ (s₁.setTop (mkF m 0 #[.val (.ref a0_), .val (.int p0), .val (.int it), .val (.int m_), .val (.ref a1), .unset] []))
  refine gAloadN X0 hx (hb hby d_method_6_0) rfl rfl ?_
  refine gIloadN X0 hx (hb hby d_method_6_1) rfl ?_
  refine goIaload X0 hx hZ e0 Y0 (x := rx) (hb hby d_method_6_2) j2 v0 ?_
  show Goes p e below _ (s₁.setTop (mkF m 3 #[.val (.ref a0_), .val (.int p0), .val (.int it), .val (.int m_), .val (.ref a1), .unset] [(.int rx)]))
  refine gIstore X0 hx (hb hby d_method_6_3) (l' := #[.val (.ref a0_), .val (.int p0), .val (.int it), .val (.int m_), .val (.ref a1), .val (.int rx)]) rfl ?_
  refine gIload X0 hx (hb hby d_method_6_5) rfl ?_
  refine gIfN X0 hx (hb hby d_method_6_7) (XT.i0_lt_f j3) ?_
  show Goes p e below _ (s₁.setTop (mkF m 10 #[.val (.ref a0_), .val (.int p0), .val (.int it), .val (.int m_), .val (.ref a1), .val (.int rx)] []))
  refine gIload X0 hx (hb hby d_method_6_10) rfl ?_
  refine gIconst X0 hx (hb hby d_method_6_12) (v := (5 : Int32)) rfl ?_
  refine gIcmpN X0 hx (hb hby d_method_6_13) (XT.ii_ge_f j4) ?_
  show Goes p e below _ (s₁.setTop (mkF m 16 #[.val (.ref a0_), .val (.int p0), .val (.int it), .val (.int m_), .val (.ref a1), .val (.int rx)] []))
  refine gIloadN X0 hx (hb hby d_method_6_16) rfl ?_
  refine gIload X0 hx (hb hby d_method_6_17) rfl ?_
  refine gIloadN X0 hx (hb hby d_method_6_19) rfl ?_
  refine gIloadN X0 hx (hb hby d_method_6_20) rfl ?_
  refine gAload X0 hx (hb hby d_method_6_21) rfl rfl ?_
  refine goCallS X0 hx hZ hown (hw _ (List.mem_of_getElem? (i := 98) rfl)) (hw _ (List.mem_of_getElem? (i := 99) rfl)) (hw _ (List.mem_of_getElem? (i := 90) rfl)) (hw _ (List.mem_of_getElem? (i := 100) rfl)) (by decide) (rmS l Z a0 hw lx ly li x0 x1 x2 x3 x4 p0 rx it m_ a1 h0 O0 Y1 j1 v1 j2 v2 j3 v3) 0 (by decide) (by decide) e0 (hsz rfl) [(.int p0), (.int rx), (.int it), (.int m_), (.ref a1)] [] pd_7 rfl rfl rfl (Nat.le_of_eq rfl) (hb hby d_method_6_23) (by decide) (by decide) (fun Tt1 vt1 Lt1 Xt1 qt1 => ?_)
  obtain ⟨z1, rfl, N2, et1, Hz1⟩ := qt1
  have N3 := Fr.app N0 N2
  show Goes p e below _ (Tt1.setTop (mkF m 26 #[.val (.ref a0_), .val (.int p0), .val (.int it), .val (.int m_), .val (.ref a1), .val (.int rx)] [(.int z1)]))
  rcases Hz1 with ⟨rfl, -⟩ | ⟨rfl, H1⟩
  · show Goes p e below _ (Tt1.setTop (mkF m 26 #[.val (.ref a0_), .val (.int p0), .val (.int it), .val (.int m_), .val (.ref a1), .val (.int rx)] [(.int (1 : Int32))]))
    refine gIfN Xt1 hx (hb hby d_method_6_26) (XT.i0_eq_f (by decide)) ?_
    show Goes p e below _ (Tt1.setTop (mkF m 29 #[.val (.ref a0_), .val (.int p0), .val (.int it), .val (.int m_), .val (.ref a1), .val (.int rx)] []))
    refine gIconst Xt1 hx (hb hby d_method_6_29) (v := (1 : Int32)) rfl ?_
    refine gGoto Xt1 hx (hb hby d_method_6_30) (pc' := 34) (by decide) (by decide) ?_
    show Goes p e below _ (Tt1.setTop (mkF m 34 #[.val (.ref a0_), .val (.int p0), .val (.int it), .val (.int m_), .val (.ref a1), .val (.int rx)] [(.int (1 : Int32))]))
    exact goRetN Xt1 hx (t := .boolean) hret hlocks (by simp) (hb hby d_method_6_34) (z' := (1 : Int32)) rfl (by decide) (by decide) et1 (⟨rfl, N3, rfl⟩)
  · exact absurd hS H1
theorem d_method_7_0 : decode method_7_code 0 = .ok (.aload_n 0, 1) := by decide +kernel
theorem d_method_7_1 : decode method_7_code 1 = .ok (.iload_n 1, 1) := by decide +kernel
theorem d_method_7_2 : decode method_7_code 2 = .ok (.iaload, 1) := by decide +kernel
theorem d_method_7_3 : decode method_7_code 3 = .ok (.aload_n 0, 1) := by decide +kernel
theorem d_method_7_4 : decode method_7_code 4 = .ok (.iload_n 2, 1) := by decide +kernel
theorem d_method_7_5 : decode method_7_code 5 = .ok (.iaload, 1) := by decide +kernel
theorem d_method_7_6 : decode method_7_code 6 = .ok (.if_icmp .ne 7, 3) := by decide +kernel
theorem d_method_7_9 : decode method_7_code 9 = .ok (.iconst 1, 1) := by decide +kernel
theorem d_method_7_10 : decode method_7_code 10 = .ok (.goto 4, 3) := by decide +kernel
theorem d_method_7_14 : decode method_7_code 14 = .ok (.iload_n 1, 1) := by decide +kernel
theorem d_method_7_15 : decode method_7_code 15 = .ok (.iload_n 2, 1) := by decide +kernel
theorem d_method_7_16 : decode method_7_code 16 = .ok (.iload_n 3, 1) := by decide +kernel
theorem d_method_7_17 : decode method_7_code 17 = .ok (.iload 4, 2) := by decide +kernel
theorem d_method_7_19 : decode method_7_code 19 = .ok (.aload 5, 2) := by decide +kernel
theorem d_method_7_21 : decode method_7_code 21 = .ok (.invokestatic 17, 3) := by decide +kernel
theorem d_method_7_24 : decode method_7_code 24 = .ok (.if_icmp .ne 7, 3) := by decide +kernel
theorem d_method_7_27 : decode method_7_code 27 = .ok (.iconst 1, 1) := by decide +kernel
theorem d_method_7_28 : decode method_7_code 28 = .ok (.goto 4, 3) := by decide +kernel
theorem d_method_7_32 : decode method_7_code 32 = .ok (.ireturn, 1) := by decide +kernel
theorem d_method_7_13 : decode method_7_code 13 = .ok (.iconst 0, 1) := by decide +kernel
theorem ef_rmP (m : MethodId) (x0 : Addr) (x1 : Int32) (x2 : Int32) (x3 : Int32) (x4 : Int32) (x5 : Addr) : entryFrame m #[(.ref x0), (.int x1), (.int x2), (.int x3), (.int x4), (.ref x5)] 6 = mkF m 0 #[.val (.ref x0), .val (.int x1), .val (.int x2), .val (.int x3), .val (.int x4), .val (.ref x5)] [] := by first | (simp [entryFrame, mkF, argsToLocals, Value.category]; done) | rfl
set_option maxRecDepth 65536 in
set_option maxHeartbeats 40000000 in
theorem rmP (l : Launch) (Z : State) (a0 : Array Value) (hw : ∀ d ∈ tables_1, d.before a0 Z = true) (lx ly li rx ry x0 x1 x2 x3 x4 y0 y1 y2 y3 y4 : Int32) (a0_ : Addr) (p0 : Int32) (p1 : Int32) (it : Int32) (m_ : Int32) (a1 : Addr) (h0 : Heap) (O0 : Ext Z.heap h0) (Y0 : Ary Z h0 a0_ .int [Value.int y0, Value.int y1, Value.int y2, Value.int y3, Value.int y4]) (Y1 : Ary Z h0 a1 .int [Value.int x0, Value.int x1, Value.int x2, Value.int x3, Value.int x4]) (j1 : ¬ it < 0) (v1 : [Value.int x0, Value.int x1, Value.int x2, Value.int x3, Value.int x4][it.toNatClampNeg]? = some (.int li)) (j2 : ¬ p0 < 0) (v2 : [Value.int x0, Value.int x1, Value.int x2, Value.int x3, Value.int x4][p0.toNatClampNeg]? = some (.int lx)) (v0 : [Value.int y0, Value.int y1, Value.int y2, Value.int y3, Value.int y4][p0.toNatClampNeg]? = some (.int rx)) (j3 : ¬ p1 < 0) (v3 : [Value.int x0, Value.int x1, Value.int x2, Value.int x3, Value.int x4][p1.toNatClampNeg]? = some (.int ly)) (v4 : [Value.int y0, Value.int y1, Value.int y2, Value.int y3, Value.int y4][p1.toNatClampNeg]? = some (.int ry)) (hS : rx = ry ↔ (own_PS lx ly li m_ x0 x1 x2 x3 x4)) :
    Ctr l Z (⟨"com/example/phal/phal/service/GroupsJoinPinLaw", "pair", "([IIIII[I)Z"⟩ : MethodName) method_7_code 6 (some .boolean) [] ({ frames := 2, cells := 0, slots := 0, locals := 43 } : Room) #[(.ref a0_), (.int p0), (.int p1), (.int it), (.int m_), (.ref a1)] h0 (fun v h L => v = some (.int 1) ∧ Fr Z.heap.size L ∧ h = h0) := by
  refine ctr (plainFor_of_name pn_4) ?_
  intro p e s m below meth c s₁ hx hby hml hown hnm hret hlocks hZ X0 e0
  have N0 := Fr.nil Z.heap.size
  have hsz : ∀ {Ls : Array Slot}, Ls.size = 6 → Ls.size = c.maxLocals := fun q => q.trans hml.symm
  refine goE (ef_rmP m (a0_) (p0) (p1) (it) (m_) (a1)) ?_
  show Goes p e below _ (s₁.setTop (mkF m 0 #[.val (.ref a0_), .val (.int p0), .val (.int p1), .val (.int it), .val (.int m_), .val (.ref a1)] []))
  refine gAloadN X0 hx (hb hby d_method_7_0) rfl rfl ?_
  refine gIloadN X0 hx (hb hby d_method_7_1) rfl ?_
  refine goIaload X0 hx hZ e0 Y0 (x := rx) (hb hby d_method_7_2) j2 v0 ?_
  show Goes p e below _ (s₁.setTop (mkF m 3 #[.val (.ref a0_), .val (.int p0), .val (.int p1), .val (.int it), .val (.int m_), .val (.ref a1)] [(.int rx)]))
  refine gAloadN X0 hx (hb hby d_method_7_3) rfl rfl ?_
  refine gIloadN X0 hx (hb hby d_method_7_4) rfl ?_
  refine goIaload X0 hx hZ e0 Y0 (x := ry) (hb hby d_method_7_5) j3 v4 ?_
  show Goes p e below _ (s₁.setTop (mkF m 6 #[.val (.ref a0_), .val (.int p0), .val (.int p1), .val (.int it), .val (.int m_), .val (.ref a1)] [(.int ry), (.int rx)]))
  by_cases g : rx = ry
  · refine gIcmpN X0 hx (hb hby d_method_7_6) (XT.ii_ne_f g) ?_
    show Goes p e below _ (s₁.setTop (mkF m 9 #[.val (.ref a0_), .val (.int p0), .val (.int p1), .val (.int it), .val (.int m_), .val (.ref a1)] []))
    refine gIconst X0 hx (hb hby d_method_7_9) (v := (1 : Int32)) rfl ?_
    refine gGoto X0 hx (hb hby d_method_7_10) (pc' := 14) (by decide) (by decide) ?_
    show Goes p e below _ (s₁.setTop (mkF m 14 #[.val (.ref a0_), .val (.int p0), .val (.int p1), .val (.int it), .val (.int m_), .val (.ref a1)] [(.int (1 : Int32))]))
    refine gIloadN X0 hx (hb hby d_method_7_14) rfl ?_
    refine gIloadN X0 hx (hb hby d_method_7_15) rfl ?_
    refine gIloadN X0 hx (hb hby d_method_7_16) rfl ?_
    refine gIload X0 hx (hb hby d_method_7_17) rfl ?_
    refine gAload X0 hx (hb hby d_method_7_19) rfl rfl ?_
    refine goCallS X0 hx hZ hown (hw _ (List.mem_of_getElem? (i := 98) rfl)) (hw _ (List.mem_of_getElem? (i := 99) rfl)) (hw _ (List.mem_of_getElem? (i := 90) rfl)) (hw _ (List.mem_of_getElem? (i := 100) rfl)) (by decide) (rmS l Z a0 hw lx ly li x0 x1 x2 x3 x4 p0 p1 it m_ a1 h0 O0 Y1 j1 v1 j2 v2 j3 v3) 1 (by decide) (by decide) e0 (hsz rfl) [(.int p0), (.int p1), (.int it), (.int m_), (.ref a1)] [(.int (1 : Int32))] pd_7 rfl rfl rfl (Nat.le_of_eq rfl) (hb hby d_method_7_21) (by decide) (by decide) (fun Tt1 vt1 Lt1 Xt1 qt1 => ?_)
    obtain ⟨z1, rfl, N2, et1, Hz1⟩ := qt1
    have N3 := Fr.app N0 N2
    show Goes p e below _ (Tt1.setTop (mkF m 24 #[.val (.ref a0_), .val (.int p0), .val (.int p1), .val (.int it), .val (.int m_), .val (.ref a1)] [(.int z1), (.int (1 : Int32))]))
    rcases Hz1 with ⟨rfl, H1⟩ | ⟨rfl, H1⟩
    · show Goes p e below _ (Tt1.setTop (mkF m 24 #[.val (.ref a0_), .val (.int p0), .val (.int p1), .val (.int it), .val (.int m_), .val (.ref a1)] [(.int (1 : Int32)), (.int (1 : Int32))]))
      refine gIcmpN Xt1 hx (hb hby d_method_7_24) (XT.ii_ne_f rfl) ?_
      show Goes p e below _ (Tt1.setTop (mkF m 27 #[.val (.ref a0_), .val (.int p0), .val (.int p1), .val (.int it), .val (.int m_), .val (.ref a1)] []))
      refine gIconst Xt1 hx (hb hby d_method_7_27) (v := (1 : Int32)) rfl ?_
      refine gGoto Xt1 hx (hb hby d_method_7_28) (pc' := 32) (by decide) (by decide) ?_
      show Goes p e below _ (Tt1.setTop (mkF m 32 #[.val (.ref a0_), .val (.int p0), .val (.int p1), .val (.int it), .val (.int m_), .val (.ref a1)] [(.int (1 : Int32))]))
      exact goRetN Xt1 hx (t := .boolean) hret hlocks (by simp) (hb hby d_method_7_32) (z' := (1 : Int32)) rfl (by decide) (by decide) et1 (⟨rfl, N3, rfl⟩)
    · exact absurd (hS.mp g) H1
  · refine gIcmpY X0 hx (hb hby d_method_7_6) (pc' := 13) (XT.ii_ne_t g) (by decide) (by decide) ?_
    show Goes p e below _ (s₁.setTop (mkF m 13 #[.val (.ref a0_), .val (.int p0), .val (.int p1), .val (.int it), .val (.int m_), .val (.ref a1)] []))
    refine gIconst X0 hx (hb hby d_method_7_13) (v := (0 : Int32)) rfl ?_
    refine gIloadN X0 hx (hb hby d_method_7_14) rfl ?_
    refine gIloadN X0 hx (hb hby d_method_7_15) rfl ?_
    refine gIloadN X0 hx (hb hby d_method_7_16) rfl ?_
    refine gIload X0 hx (hb hby d_method_7_17) rfl ?_
    refine gAload X0 hx (hb hby d_method_7_19) rfl rfl ?_
    refine goCallS X0 hx hZ hown (hw _ (List.mem_of_getElem? (i := 98) rfl)) (hw _ (List.mem_of_getElem? (i := 99) rfl)) (hw _ (List.mem_of_getElem? (i := 90) rfl)) (hw _ (List.mem_of_getElem? (i := 100) rfl)) (by decide) (rmS l Z a0 hw lx ly li x0 x1 x2 x3 x4 p0 p1 it m_ a1 h0 O0 Y1 j1 v1 j2 v2 j3 v3) 1 (by decide) (by decide) e0 (hsz rfl) [(.int p0), (.int p1), (.int it), (.int m_), (.ref a1)] [(.int (0 : Int32))] pd_7 rfl rfl rfl (Nat.le_of_eq rfl) (hb hby d_method_7_21) (by decide) (by decide) (fun Tt4 vt4 Lt4 Xt4 qt4 => ?_)
    obtain ⟨z1, rfl, N5, et4, Hz1⟩ := qt4
    have N6 := Fr.app N0 N5
    show Goes p e below _ (Tt4.setTop (mkF m 24 #[.val (.ref a0_), .val (.int p0), .val (.int p1), .val (.int it), .val (.int m_), .val (.ref a1)] [(.int z1), (.int (0 : Int32))]))
    rcases Hz1 with ⟨rfl, H1⟩ | ⟨rfl, H1⟩
    · exact absurd (hS.mpr H1) g
    · show Goes p e below _ (Tt4.setTop (mkF m 24 #[.val (.ref a0_), .val (.int p0), .val (.int p1), .val (.int it), .val (.int m_), .val (.ref a1)] [(.int (0 : Int32)), (.int (0 : Int32))]))
      refine gIcmpN Xt4 hx (hb hby d_method_7_24) (XT.ii_ne_f rfl) ?_
      show Goes p e below _ (Tt4.setTop (mkF m 27 #[.val (.ref a0_), .val (.int p0), .val (.int p1), .val (.int it), .val (.int m_), .val (.ref a1)] []))
      refine gIconst Xt4 hx (hb hby d_method_7_27) (v := (1 : Int32)) rfl ?_
      refine gGoto Xt4 hx (hb hby d_method_7_28) (pc' := 32) (by decide) (by decide) ?_
      show Goes p e below _ (Tt4.setTop (mkF m 32 #[.val (.ref a0_), .val (.int p0), .val (.int p1), .val (.int it), .val (.int m_), .val (.ref a1)] [(.int (1 : Int32))]))
      exact goRetN Xt4 hx (t := .boolean) hret hlocks (by simp) (hb hby d_method_7_32) (z' := (1 : Int32)) rfl (by decide) (by decide) et4 (⟨rfl, N6, rfl⟩)
theorem pd_8 : parseMethodDescriptor "(ILjava/util/BitSet;)V" = some ⟨[.int, (.object "java/util/BitSet")], none⟩ := by decide +kernel
theorem pd_9 : parseMethodDescriptor "(IIIII)I" = some ⟨[.int, .int, .int, .int, .int], some .int⟩ := by decide +kernel
theorem pd_10 : parseMethodDescriptor "([IIII[I)Z" = some ⟨[(.array .int), .int, .int, .int, (.array .int)], some .boolean⟩ := by decide +kernel
theorem pd_11 : parseMethodDescriptor "([IIIII[I)Z" = some ⟨[(.array .int), .int, .int, .int, .int, (.array .int)], some .boolean⟩ := by decide +kernel
theorem ef_rm0 (m : MethodId) (x0 : Int32) (x1 : Int32) (x2 : Int32) (x3 : Int32) (x4 : Int32) (x5 : Int32) : entryFrame m #[(.int x0), (.int x1), (.int x2), (.int x3), (.int x4), (.int x5)] maxLocals = mkF m 0 #[.val (.int x0), .val (.int x1), .val (.int x2), .val (.int x3), .val (.int x4), .val (.int x5), .unset, .unset, .unset, .unset, .unset, .unset, .unset, .unset, .unset, .unset, .unset] [] := by first | (simp [entryFrame, mkF, argsToLocals, Value.category, maxLocals]; done) | rfl
set_option maxRecDepth 65536 in
set_option maxHeartbeats 40000000 in
theorem rm0 (l : Launch) (Z : State) (a0 : Array Value) (hw : ∀ d ∈ tables_1, d.before a0 Z = true)  (p0 : Int32) (p1 : Int32) (p2 : Int32) (p3 : Int32) (p4 : Int32) (p5 : Int32) (h0 : Heap) (O0 : Ext Z.heap h0) (S_a : Sta Z Z.heap "java/util/BitSet" "$assertionsDisabled" "Z" (.int (1 : Int32))) :
    Ctr l Z x code maxLocals ret tables_1 room_1 #[(.int p0), (.int p1), (.int p2), (.int p3), (.int p4), (.int p5)] h0 (fun v h L => v = some (.int 1) ∧ Fr Z.heap.size L) := by
  refine ctr (plainFor_of_name pn_4) ?_
  intro p e s m below meth c s₁ hx hby hml hown hnm hret hlocks hZ X0 e0
  have N0 := Fr.nil Z.heap.size
  have hsz : ∀ {Ls : Array Slot}, Ls.size = 17 → Ls.size = c.maxLocals := fun q => q.trans hml.symm
  refine goE (ef_rm0 m (p0) (p1) (p2) (p3) (p4) (p5)) ?_
  show Goes p e below _ (s₁.setTop (mkF m 0 #[.val (.int p0), .val (.int p1), .val (.int p2), .val (.int p3), .val (.int p4), .val (.int p5), .unset, .unset, .unset, .unset, .unset, .unset, .unset, .unset, .unset, .unset, .unset] []))
  refine gIloadN X0 hx (hb hby at_0) rfl ?_
  refine gLdcI X0 hx hZ hown (hw _ (List.mem_of_getElem? (i := 0) rfl)) (hb hby at_1) ?_
  refine gIand X0 hx (hb hby at_3) ?_
  refine gIconst X0 hx (hb hby at_4) (v := (5 : Int32)) rfl ?_
  refine gIrem X0 hx (hb hby at_5) (by decide) ?_
  refine gIstore X0 hx (hb hby at_6) (l' := #[.val (.int p0), .val (.int p1), .val (.int p2), .val (.int p3), .val (.int p4), .val (.int p5), .val (.int ((p0 &&& (2147483647 : Int32)) % (5 : Int32))), .unset, .unset, .unset, .unset, .unset, .unset, .unset, .unset, .unset, .unset]) rfl ?_
  refine gIloadN X0 hx (hb hby at_8) rfl ?_
  show Goes p e below _ (s₁.setTop (mkF m 9 #[.val (.int p0), .val (.int p1), .val (.int p2), .val (.int p3), .val (.int p4), .val (.int p5), .val (.int ((p0 &&& (2147483647 : Int32)) % (5 : Int32))), .unset, .unset, .unset, .unset, .unset, .unset, .unset, .unset, .unset, .unset] [(.int p1)]))
  refine gLdcI X0 hx hZ hown (hw _ (List.mem_of_getElem? (i := 0) rfl)) (hb hby at_9) ?_
  refine gIand X0 hx (hb hby at_11) ?_
  refine gIconst X0 hx (hb hby at_12) (v := (5 : Int32)) rfl ?_
  refine gIrem X0 hx (hb hby at_13) (by decide) ?_
  refine gIstore X0 hx (hb hby at_14) (l' := #[.val (.int p0), .val (.int p1), .val (.int p2), .val (.int p3), .val (.int p4), .val (.int p5), .val (.int ((p0 &&& (2147483647 : Int32)) % (5 : Int32))), .val (.int ((p1 &&& (2147483647 : Int32)) % (5 : Int32))), .unset, .unset, .unset, .unset, .unset, .unset, .unset, .unset, .unset]) rfl ?_
  refine gIloadN X0 hx (hb hby at_16) rfl ?_
  refine gLdcI X0 hx hZ hown (hw _ (List.mem_of_getElem? (i := 0) rfl)) (hb hby at_17) ?_
  show Goes p e below _ (s₁.setTop (mkF m 19 #[.val (.int p0), .val (.int p1), .val (.int p2), .val (.int p3), .val (.int p4), .val (.int p5), .val (.int ((p0 &&& (2147483647 : Int32)) % (5 : Int32))), .val (.int ((p1 &&& (2147483647 : Int32)) % (5 : Int32))), .unset, .unset, .unset, .unset, .unset, .unset, .unset, .unset, .unset] [(.int (2147483647 : Int32)), (.int p2)]))
  refine gIand X0 hx (hb hby at_19) ?_
  refine gIconst X0 hx (hb hby at_20) (v := (5 : Int32)) rfl ?_
  refine gIrem X0 hx (hb hby at_21) (by decide) ?_
  refine gIstore X0 hx (hb hby at_22) (l' := #[.val (.int p0), .val (.int p1), .val (.int p2), .val (.int p3), .val (.int p4), .val (.int p5), .val (.int ((p0 &&& (2147483647 : Int32)) % (5 : Int32))), .val (.int ((p1 &&& (2147483647 : Int32)) % (5 : Int32))), .val (.int ((p2 &&& (2147483647 : Int32)) % (5 : Int32))), .unset, .unset, .unset, .unset, .unset, .unset, .unset, .unset]) rfl ?_
  refine gIloadN X0 hx (hb hby at_24) rfl ?_
  refine gLdcI X0 hx hZ hown (hw _ (List.mem_of_getElem? (i := 0) rfl)) (hb hby at_25) ?_
  refine gIand X0 hx (hb hby at_27) ?_
  show Goes p e below _ (s₁.setTop (mkF m 28 #[.val (.int p0), .val (.int p1), .val (.int p2), .val (.int p3), .val (.int p4), .val (.int p5), .val (.int ((p0 &&& (2147483647 : Int32)) % (5 : Int32))), .val (.int ((p1 &&& (2147483647 : Int32)) % (5 : Int32))), .val (.int ((p2 &&& (2147483647 : Int32)) % (5 : Int32))), .unset, .unset, .unset, .unset, .unset, .unset, .unset, .unset] [(.int (p3 &&& (2147483647 : Int32)))]))
  refine gIconst X0 hx (hb hby at_28) (v := (5 : Int32)) rfl ?_
  refine gIrem X0 hx (hb hby at_29) (by decide) ?_
  refine gIstore X0 hx (hb hby at_30) (l' := #[.val (.int p0), .val (.int p1), .val (.int p2), .val (.int p3), .val (.int p4), .val (.int p5), .val (.int ((p0 &&& (2147483647 : Int32)) % (5 : Int32))), .val (.int ((p1 &&& (2147483647 : Int32)) % (5 : Int32))), .val (.int ((p2 &&& (2147483647 : Int32)) % (5 : Int32))), .val (.int ((p3 &&& (2147483647 : Int32)) % (5 : Int32))), .unset, .unset, .unset, .unset, .unset, .unset, .unset]) rfl ?_
  refine gIload X0 hx (hb hby at_32) rfl ?_
  refine gLdcI X0 hx hZ hown (hw _ (List.mem_of_getElem? (i := 0) rfl)) (hb hby at_34) ?_
  refine gIand X0 hx (hb hby at_36) ?_
  refine gIconst X0 hx (hb hby at_37) (v := (5 : Int32)) rfl ?_
  show Goes p e below _ (s₁.setTop (mkF m 38 #[.val (.int p0), .val (.int p1), .val (.int p2), .val (.int p3), .val (.int p4), .val (.int p5), .val (.int ((p0 &&& (2147483647 : Int32)) % (5 : Int32))), .val (.int ((p1 &&& (2147483647 : Int32)) % (5 : Int32))), .val (.int ((p2 &&& (2147483647 : Int32)) % (5 : Int32))), .val (.int ((p3 &&& (2147483647 : Int32)) % (5 : Int32))), .unset, .unset, .unset, .unset, .unset, .unset, .unset] [(.int (5 : Int32)), (.int (p4 &&& (2147483647 : Int32)))]))
  refine gIrem X0 hx (hb hby at_38) (by decide) ?_
  refine gIstore X0 hx (hb hby at_39) (l' := #[.val (.int p0), .val (.int p1), .val (.int p2), .val (.int p3), .val (.int p4), .val (.int p5), .val (.int ((p0 &&& (2147483647 : Int32)) % (5 : Int32))), .val (.int ((p1 &&& (2147483647 : Int32)) % (5 : Int32))), .val (.int ((p2 &&& (2147483647 : Int32)) % (5 : Int32))), .val (.int ((p3 &&& (2147483647 : Int32)) % (5 : Int32))), .val (.int ((p4 &&& (2147483647 : Int32)) % (5 : Int32))), .unset, .unset, .unset, .unset, .unset, .unset]) rfl ?_
  refine gIload X0 hx (hb hby at_41) rfl ?_
  refine gBipush X0 hx (hb hby at_43) (v := (31 : Int32)) rfl ?_
  refine gIand X0 hx (hb hby at_45) ?_
  refine gIstore X0 hx (hb hby at_46) (l' := #[.val (.int p0), .val (.int p1), .val (.int p2), .val (.int p3), .val (.int p4), .val (.int p5), .val (.int ((p0 &&& (2147483647 : Int32)) % (5 : Int32))), .val (.int ((p1 &&& (2147483647 : Int32)) % (5 : Int32))), .val (.int ((p2 &&& (2147483647 : Int32)) % (5 : Int32))), .val (.int ((p3 &&& (2147483647 : Int32)) % (5 : Int32))), .val (.int ((p4 &&& (2147483647 : Int32)) % (5 : Int32))), .val (.int (p5 &&& (31 : Int32))), .unset, .unset, .unset, .unset, .unset]) rfl ?_
  obtain ⟨ca, lca, qca⟩ := own_m5 p0
  rw [qca]
  show Goes p e below _ (s₁.setTop (mkF m 48 #[.val (.int p0), .val (.int p1), .val (.int p2), .val (.int p3), .val (.int p4), .val (.int p5), .val (.int ca.toInt32), .val (.int ((p1 &&& (2147483647 : Int32)) % (5 : Int32))), .val (.int ((p2 &&& (2147483647 : Int32)) % (5 : Int32))), .val (.int ((p3 &&& (2147483647 : Int32)) % (5 : Int32))), .val (.int ((p4 &&& (2147483647 : Int32)) % (5 : Int32))), .val (.int (p5 &&& (31 : Int32))), .unset, .unset, .unset, .unset, .unset] []))
  obtain ⟨cb, lcb, qcb⟩ := own_m5 p1
  rw [qcb]
  show Goes p e below _ (s₁.setTop (mkF m 48 #[.val (.int p0), .val (.int p1), .val (.int p2), .val (.int p3), .val (.int p4), .val (.int p5), .val (.int ca.toInt32), .val (.int cb.toInt32), .val (.int ((p2 &&& (2147483647 : Int32)) % (5 : Int32))), .val (.int ((p3 &&& (2147483647 : Int32)) % (5 : Int32))), .val (.int ((p4 &&& (2147483647 : Int32)) % (5 : Int32))), .val (.int (p5 &&& (31 : Int32))), .unset, .unset, .unset, .unset, .unset] []))
  obtain ⟨cc, lcc, qcc⟩ := own_m5 p2
  rw [qcc]
  show Goes p e below _ (s₁.setTop (mkF m 48 #[.val (.int p0), .val (.int p1), .val (.int p2), .val (.int p3), .val (.int p4), .val (.int p5), .val (.int ca.toInt32), .val (.int cb.toInt32), .val (.int cc.toInt32), .val (.int ((p3 &&& (2147483647 : Int32)) % (5 : Int32))), .val (.int ((p4 &&& (2147483647 : Int32)) % (5 : Int32))), .val (.int (p5 &&& (31 : Int32))), .unset, .unset, .unset, .unset, .unset] []))
  obtain ⟨cd, lcd, qcd⟩ := own_m5 p3
  rw [qcd]
  show Goes p e below _ (s₁.setTop (mkF m 48 #[.val (.int p0), .val (.int p1), .val (.int p2), .val (.int p3), .val (.int p4), .val (.int p5), .val (.int ca.toInt32), .val (.int cb.toInt32), .val (.int cc.toInt32), .val (.int cd.toInt32), .val (.int ((p4 &&& (2147483647 : Int32)) % (5 : Int32))), .val (.int (p5 &&& (31 : Int32))), .unset, .unset, .unset, .unset, .unset] []))
  obtain ⟨it, lit, qit⟩ := own_m5 p4
  rw [qit]
  show Goes p e below _ (s₁.setTop (mkF m 48 #[.val (.int p0), .val (.int p1), .val (.int p2), .val (.int p3), .val (.int p4), .val (.int p5), .val (.int ca.toInt32), .val (.int cb.toInt32), .val (.int cc.toInt32), .val (.int cd.toInt32), .val (.int it.toInt32), .val (.int (p5 &&& (31 : Int32))), .unset, .unset, .unset, .unset, .unset] []))
  obtain ⟨mk, lmk, qmk⟩ := own_m31 p5
  rw [qmk]
  show Goes p e below _ (s₁.setTop (mkF m 48 #[.val (.int p0), .val (.int p1), .val (.int p2), .val (.int p3), .val (.int p4), .val (.int p5), .val (.int ca.toInt32), .val (.int cb.toInt32), .val (.int cc.toInt32), .val (.int cd.toInt32), .val (.int it.toInt32), .val (.int mk.toInt32), .unset, .unset, .unset, .unset, .unset] []))
  obtain ⟨Tt1, ht1, Xt1, et1, Et1, At1, Dt1, -, stt1⟩ := newO X0 hx hZ hown (hw _ (List.mem_of_getElem? (i := 1) rfl)) (hw _ (List.mem_of_getElem? (i := 2) rfl)) (hw _ (List.mem_of_getElem? (i := 3) rfl)) e0 (g := (mkF m 48 #[.val (.int p0), .val (.int p1), .val (.int p2), .val (.int p3), .val (.int p4), .val (.int p5), .val (.int ca.toInt32), .val (.int cb.toInt32), .val (.int cc.toInt32), .val (.int cd.toInt32), .val (.int it.toInt32), .val (.int mk.toInt32), .unset, .unset, .unset, .unset, .unset] [])) rfl (hb hby at_48) (by decide) (by decide)
  obtain ⟨ob2, gob2⟩ : ∃ z, z = h0.size := ⟨_, rfl⟩
  rw [← gob2] at At1 Dt1 stt1
  refine go stt1 ?_
  have fr_ob2 : Z.heap.size ≤ ob2 := gob2 ▸ O0.1
  have O3 : Ext Z.heap ht1 := extT O0 Et1
  have F_parent_ob2 : Fld Z ht1 ob2 "com/example/phal/phal/service/Groups" "parent" "[I" .null := Dt1 (Or.inr (hw _ (List.mem_of_getElem? (i := 12) rfl))) (ty := (.array .int)) (by decide)
  show Goes p e below _ (Tt1.setTop (mkF m 51 #[.val (.int p0), .val (.int p1), .val (.int p2), .val (.int p3), .val (.int p4), .val (.int p5), .val (.int ca.toInt32), .val (.int cb.toInt32), .val (.int cc.toInt32), .val (.int cd.toInt32), .val (.int it.toInt32), .val (.int mk.toInt32), .unset, .unset, .unset, .unset, .unset] [(.ref ob2)]))
  refine gDup Xt1 hx (hb hby at_51) rfl ?_
  refine gIconst Xt1 hx (hb hby at_52) (v := (5 : Int32)) rfl ?_
  have lt_ob2_t4 := At1.lt
  refine goCallI Xt1 hx hZ rfl hown (hw _ (List.mem_of_getElem? (i := 4) rfl)) (hw _ (List.mem_of_getElem? (i := 5) rfl)) (hw _ (List.mem_of_getElem? (i := 3) rfl)) (hw _ (List.mem_of_getElem? (i := 6) rfl)) (by decide) (rmI l Z a0 hw ob2 ht1 O3 At1 F_parent_ob2 fr_ob2) 1 (by decide) (by decide) et1 (hsz rfl) ob2 [(.int (5 : Int32))] [(.ref ob2)] pd_1 rfl rfl rfl (Nat.le_of_eq rfl) (hb hby at_53) (by decide) (by decide) (fun Tt4 vt4 Lt4 Xt4 qt4 => ?_)
  obtain ⟨ht4, et4⟩ : ∃ z, Tt4.heap = z := ⟨_, rfl⟩
  rw [et4] at qt4
  obtain ⟨rfl, N5, Kct4, u, pu, Fp, Yp⟩ := qt4
  have N6 := Fr.app N0 N5
  replace At1 := At1.keep Kct4
  have O7 : Ext Z.heap ht4 := extK O3 Kct4 (allS fr_ob2 all0)
  have ne_ob2_u : ob2 ≠ u := Nat.ne_of_lt (Nat.lt_of_lt_of_le lt_ob2_t4 pu)
  have fr_u : Z.heap.size ≤ u := Nat.le_trans O3.1 pu
  show Goes p e below _ (Tt4.setTop (mkF m 56 #[.val (.int p0), .val (.int p1), .val (.int p2), .val (.int p3), .val (.int p4), .val (.int p5), .val (.int ca.toInt32), .val (.int cb.toInt32), .val (.int cc.toInt32), .val (.int cd.toInt32), .val (.int it.toInt32), .val (.int mk.toInt32), .unset, .unset, .unset, .unset, .unset] [(.ref ob2)]))
  have I0 := own_Inv0
  refine gAstore Xt4 hx (hb hby at_56) rfl (l' := #[.val (.int p0), .val (.int p1), .val (.int p2), .val (.int p3), .val (.int p4), .val (.int p5), .val (.int ca.toInt32), .val (.int cb.toInt32), .val (.int cc.toInt32), .val (.int cd.toInt32), .val (.int it.toInt32), .val (.int mk.toInt32), .val (.ref ob2), .unset, .unset, .unset, .unset]) rfl ?_
  refine gAload Xt4 hx (hb hby at_58) rfl rfl ?_
  refine gIload Xt4 hx (hb hby at_60) rfl ?_
  refine gIload Xt4 hx (hb hby at_62) rfl ?_
  refine goCallV Xt4 hx hZ hown (hw _ (List.mem_of_getElem? (i := 13) rfl)) (hw _ (List.mem_of_getElem? (i := 14) rfl)) (hw _ (List.mem_of_getElem? (i := 16) rfl)) (hw _ (List.mem_of_getElem? (i := 15) rfl)) (hw _ (List.mem_of_getElem? (i := 3) rfl)) (hw _ (List.mem_of_getElem? (i := 17) rfl)) (by decide) (rmJ l Z a0 hw ob2 u ca cb 5 (fun i => i) (fun _ => 0) (List.range 5) ht4 O7 At1 Fp Yp I0 lca lcb (by decide) ne_ob2_u fr_u) 0 (by decide) (by decide) et4 At1 (hsz rfl) [(.int ca.toInt32), (.int cb.toInt32)] [] pd_4 rfl rfl rfl (Nat.le_of_eq rfl) (hb hby at_64) (by decide) (by decide) (fun Tt8 vt8 Lt8 Xt8 qt8 => ?_)
  obtain ⟨ht8, et8⟩ : ∃ z, Tt8.heap = z := ⟨_, rfl⟩
  rw [et8] at qt8
  obtain ⟨rfl, N9, Kct8, Pj0, dj0, Yp, Ij0⟩ := qt8
  have N10 := Fr.app N6 N9
  replace At1 := At1.keep Kct8
  replace Fp := Fp.keep Kct8 (ninS ne_ob2_u nin0)
  have O11 : Ext Z.heap ht8 := extK O7 Kct8 (allS fr_u all0)
  show Goes p e below _ (Tt8.setTop (mkF m 67 #[.val (.int p0), .val (.int p1), .val (.int p2), .val (.int p3), .val (.int p4), .val (.int p5), .val (.int ca.toInt32), .val (.int cb.toInt32), .val (.int cc.toInt32), .val (.int cd.toInt32), .val (.int it.toInt32), .val (.int mk.toInt32), .val (.ref ob2), .unset, .unset, .unset, .unset] []))
  obtain ⟨r1, hr1⟩ : ∃ z : Nat → Nat, z = own_j (fun i => i) ca cb := ⟨_, rfl⟩
  replace Ij0 : own_Inv 5 Pj0 r1 dj0 := by rw [hr1]; exact Ij0
  refine gAload Xt8 hx (hb hby at_67) rfl rfl ?_
  refine gIload Xt8 hx (hb hby at_69) rfl ?_
  refine gIload Xt8 hx (hb hby at_71) rfl ?_
  refine goCallV Xt8 hx hZ hown (hw _ (List.mem_of_getElem? (i := 13) rfl)) (hw _ (List.mem_of_getElem? (i := 14) rfl)) (hw _ (List.mem_of_getElem? (i := 16) rfl)) (hw _ (List.mem_of_getElem? (i := 15) rfl)) (hw _ (List.mem_of_getElem? (i := 3) rfl)) (hw _ (List.mem_of_getElem? (i := 17) rfl)) (by decide) (rmJ l Z a0 hw ob2 u cc cd 5 r1 dj0 Pj0 ht8 O11 At1 Fp Yp Ij0 lcc lcd (by decide) ne_ob2_u fr_u) 0 (by decide) (by decide) et8 At1 (hsz rfl) [(.int cc.toInt32), (.int cd.toInt32)] [] pd_4 rfl rfl rfl (Nat.le_of_eq rfl) (hb hby at_73) (by decide) (by decide) (fun Tt12 vt12 Lt12 Xt12 qt12 => ?_)
  obtain ⟨ht12, et12⟩ : ∃ z, Tt12.heap = z := ⟨_, rfl⟩
  rw [et12] at qt12
  obtain ⟨rfl, N13, Kct12, Pj1, dj1, Yp, Ij1⟩ := qt12
  have N14 := Fr.app N10 N13
  replace At1 := At1.keep Kct12
  replace Fp := Fp.keep Kct12 (ninS ne_ob2_u nin0)
  have O15 : Ext Z.heap ht12 := extK O11 Kct12 (allS fr_u all0)
  show Goes p e below _ (Tt12.setTop (mkF m 76 #[.val (.int p0), .val (.int p1), .val (.int p2), .val (.int p3), .val (.int p4), .val (.int p5), .val (.int ca.toInt32), .val (.int cb.toInt32), .val (.int cc.toInt32), .val (.int cd.toInt32), .val (.int it.toInt32), .val (.int mk.toInt32), .val (.ref ob2), .unset, .unset, .unset, .unset] []))
  obtain ⟨r2, hr2⟩ : ∃ z : Nat → Nat, z = own_j r1 cc cd := ⟨_, rfl⟩
  replace Ij1 : own_Inv 5 Pj1 r2 dj1 := by rw [hr2]; exact Ij1
  obtain ⟨Tt16, ht16, Xt16, et16, Et16, At16, Dt16, -, stt16⟩ := newO Xt12 hx hZ hown (hw _ (List.mem_of_getElem? (i := 23) rfl)) (hw _ (List.mem_of_getElem? (i := 24) rfl)) (hw _ (List.mem_of_getElem? (i := 25) rfl)) et12 (g := (mkF m 76 #[.val (.int p0), .val (.int p1), .val (.int p2), .val (.int p3), .val (.int p4), .val (.int p5), .val (.int ca.toInt32), .val (.int cb.toInt32), .val (.int cc.toInt32), .val (.int cd.toInt32), .val (.int it.toInt32), .val (.int mk.toInt32), .val (.ref ob2), .unset, .unset, .unset, .unset] [])) rfl (hb hby at_76) (by decide) (by decide)
  obtain ⟨ob17, gob17⟩ : ∃ z, z = ht12.size := ⟨_, rfl⟩
  rw [← gob17] at At16 Dt16 stt16
  refine go stt16 ?_
  have ne_ob2_ob17 : ob2 ≠ ob17 := Nat.ne_of_lt (gob17 ▸ At1.lt)
  have ne_u_ob17 : u ≠ ob17 := Nat.ne_of_lt (gob17 ▸ Yp.lt)
  have fr_ob17 : Z.heap.size ≤ ob17 := gob17 ▸ O15.1
  replace At1 := At1.ext Et16
  replace Fp := Fp.ext Et16
  replace Yp := Yp.ext Et16
  have O18 : Ext Z.heap ht16 := extT O15 Et16
  have F_wordsInUse_ob17 : Fld Z ht16 ob17 "java/util/BitSet" "wordsInUse" "I" (.int (0 : Int32)) := Dt16 (Or.inl (hw _ (List.mem_of_getElem? (i := 31) rfl))) (ty := .int) (by decide)
  have F_sizeIsSticky_ob17 : Fld Z ht16 ob17 "java/util/BitSet" "sizeIsSticky" "Z" (.int (0 : Int32)) := Dt16 (Or.inl (hw _ (List.mem_of_getElem? (i := 33) rfl))) (ty := .boolean) (by decide)
  have F_words_ob17 : Fld Z ht16 ob17 "java/util/BitSet" "words" "[J" .null := Dt16 (Or.inl (hw _ (List.mem_of_getElem? (i := 44) rfl))) (ty := (.array .long)) (by decide)
  show Goes p e below _ (Tt16.setTop (mkF m 79 #[.val (.int p0), .val (.int p1), .val (.int p2), .val (.int p3), .val (.int p4), .val (.int p5), .val (.int ca.toInt32), .val (.int cb.toInt32), .val (.int cc.toInt32), .val (.int cd.toInt32), .val (.int it.toInt32), .val (.int mk.toInt32), .val (.ref ob2), .unset, .unset, .unset, .unset] [(.ref ob17)]))
  refine gDup Xt16 hx (hb hby at_79) rfl ?_
  have lt_ob2_t19 := At1.lt
  have lt_u_t19 := Yp.lt
  have lt_ob17_t19 := At16.lt
  refine goCallI Xt16 hx hZ rfl hown (hw _ (List.mem_of_getElem? (i := 26) rfl)) (hw _ (List.mem_of_getElem? (i := 27) rfl)) (hw _ (List.mem_of_getElem? (i := 25) rfl)) (hw _ (List.mem_of_getElem? (i := 28) rfl)) (by decide) (rmBi l Z a0 hw ob17 ht16 O18 At16 F_words_ob17 F_wordsInUse_ob17 F_sizeIsSticky_ob17 fr_ob17) 1 (by decide) (by decide) et16 (hsz rfl) ob17 [] [(.ref ob17)] pd_2 rfl rfl rfl (Nat.le_of_eq rfl) (hb hby at_80) (by decide) (by decide) (fun Tt19 vt19 Lt19 Xt19 qt19 => ?_)
  obtain ⟨ht19, et19⟩ : ∃ z, Tt19.heap = z := ⟨_, rfl⟩
  rw [et19] at qt19
  obtain ⟨rfl, N20, Kct19, ua, pua, Fw, Fu, Yw⟩ := qt19
  have N21 := Fr.app N14 N20
  replace At1 := At1.keep Kct19
  replace Fp := Fp.keep Kct19 (ninS ne_ob2_ob17 nin0)
  replace Yp := Yp.keep Kct19 (ninS ne_u_ob17 nin0)
  replace At16 := At16.keep Kct19
  have O22 : Ext Z.heap ht19 := extK O18 Kct19 (allS fr_ob17 all0)
  have ne_ob2_ua : ob2 ≠ ua := Nat.ne_of_lt (Nat.lt_of_lt_of_le lt_ob2_t19 pua)
  have ne_u_ua : u ≠ ua := Nat.ne_of_lt (Nat.lt_of_lt_of_le lt_u_t19 pua)
  have ne_ob17_ua : ob17 ≠ ua := Nat.ne_of_lt (Nat.lt_of_lt_of_le lt_ob17_t19 pua)
  have fr_ua : Z.heap.size ≤ ua := Nat.le_trans O18.1 pua
  show Goes p e below _ (Tt19.setTop (mkF m 83 #[.val (.int p0), .val (.int p1), .val (.int p2), .val (.int p3), .val (.int p4), .val (.int p5), .val (.int ca.toInt32), .val (.int cb.toInt32), .val (.int cc.toInt32), .val (.int cd.toInt32), .val (.int it.toInt32), .val (.int mk.toInt32), .val (.ref ob2), .unset, .unset, .unset, .unset] [(.ref ob17)]))
  replace Fu : Fld Z ht19 ob17 "java/util/BitSet" "wordsInUse" "I" (.int (own_uu (mk % 2 ^ 0))) := by rw [Nat.pow_zero, Nat.mod_one]; exact Fu
  replace Yw : Ary Z ht19 ua .long [.long (mk % 2 ^ 0).toInt64] := by rw [Nat.pow_zero, Nat.mod_one]; exact Yw
  refine gAstore Xt19 hx (hb hby at_83) rfl (l' := #[.val (.int p0), .val (.int p1), .val (.int p2), .val (.int p3), .val (.int p4), .val (.int p5), .val (.int ca.toInt32), .val (.int cb.toInt32), .val (.int cc.toInt32), .val (.int cd.toInt32), .val (.int it.toInt32), .val (.int mk.toInt32), .val (.ref ob2), .val (.ref ob17), .unset, .unset, .unset]) rfl ?_
  have at152 : ∀  (T_ : State) (h_ : Heap) (lc_ : List Loc), (Stand p l e room_1 s m #[(.int p0), (.int p1), (.int p2), (.int p3), (.int p4), (.int p5)] below meth c T_ lc_ 4 10) → (T_.heap = h_) → (Fr Z.heap.size lc_) → (Ext Z.heap h_) → (Exa Z h_ ob2 "com/example/phal/phal/service/Groups") → (Fld Z h_ ob2 "com/example/phal/phal/service/Groups" "parent" "[I" (.ref u)) → (Ary Z h_ u .int (own_vs Pj1)) → (Exa Z h_ ob17 "java/util/BitSet") → (Fld Z h_ ob17 "java/util/BitSet" "words" "[J" (.ref ua)) → (Fld Z h_ ob17 "java/util/BitSet" "wordsInUse" "I" (.int (own_uu (mk % 2 ^ 5)))) → (Ary Z h_ ua .long [(.long (mk % 2 ^ 5).toInt64)]) → Goes p e below (EndN s (fun v h L => v = some (.int 1) ∧ Fr Z.heap.size L) room_1.cells room_1.slots) (T_.setTop (mkF m 152 #[.val (.int p0), .val (.int p1), .val (.int p2), .val (.int p3), .val (.int p4), .val (.int p5), .val (.int ca.toInt32), .val (.int cb.toInt32), .val (.int cc.toInt32), .val (.int cd.toInt32), .val (.int it.toInt32), .val (.int mk.toInt32), .val (.ref ob2), .val (.ref ob17), .unset, .unset, .unset] [])) := by
    intro T_ h_ lc_ X_ e_ N_ O_ At1 Fp Yp At16 Fw Fu Yw
    rw [show mk % 2 ^ 5 = mk from Nat.mod_eq_of_lt (by omega)] at Fu Yw
    refine gAload X_ hx (hb hby at_152) rfl rfl ?_
    refine gIload X_ hx (hb hby at_154) rfl ?_
    refine gAload X_ hx (hb hby at_156) rfl rfl ?_
    refine goCallV X_ hx hZ hown (hw _ (List.mem_of_getElem? (i := 66) rfl)) (hw _ (List.mem_of_getElem? (i := 67) rfl)) (hw _ (List.mem_of_getElem? (i := 69) rfl)) (hw _ (List.mem_of_getElem? (i := 68) rfl)) (hw _ (List.mem_of_getElem? (i := 3) rfl)) (hw _ (List.mem_of_getElem? (i := 70) rfl)) (by decide) (rmJb l Z a0 hw ob2 ob17 u ua it mk r2 dj1 Pj1 h_ O_ S_a At1 Fp Yp Ij1 lit lmk ne_ob2_u (Ne.symm ne_u_ob17) (Ne.symm ne_u_ua) fr_u At16 Fw Fu Yw) 0 (by decide) (by decide) e_ At1 (hsz rfl) [(.int it.toInt32), (.ref ob17)] [] pd_8 rfl rfl rfl (Nat.le_of_eq rfl) (hb hby at_158) (by decide) (by decide) (fun Tt43 vt43 Lt43 Xt43 qt43 => ?_)
    obtain ⟨ht43, et43⟩ : ∃ z, Tt43.heap = z := ⟨_, rfl⟩
    rw [et43] at qt43
    obtain ⟨rfl, N44, Kct43, P9, d9, Yp, I9⟩ := qt43
    have N45 := Fr.app N_ N44
    replace At1 := At1.keep Kct43
    replace Fp := Fp.keep Kct43 (ninS ne_ob2_u nin0)
    replace At16 := At16.keep Kct43
    replace Fw := Fw.keep Kct43 (ninS (Ne.symm ne_u_ob17) nin0)
    replace Fu := Fu.keep Kct43 (ninS (Ne.symm ne_u_ob17) nin0)
    replace Yw := Yw.keep Kct43 (ninS (Ne.symm ne_u_ua) nin0)
    have O46 : Ext Z.heap ht43 := extK O_ Kct43 (allS fr_u all0)
    show Goes p e below _ (Tt43.setTop (mkF m 161 #[.val (.int p0), .val (.int p1), .val (.int p2), .val (.int p3), .val (.int p4), .val (.int p5), .val (.int ca.toInt32), .val (.int cb.toInt32), .val (.int cc.toInt32), .val (.int cd.toInt32), .val (.int it.toInt32), .val (.int mk.toInt32), .val (.ref ob2), .val (.ref ob17), .unset, .unset, .unset] []))
    obtain ⟨R, hR⟩ : ∃ z : Nat → Nat, z = own_rs it (own_os mk 0) r2 := ⟨_, rfl⟩
    rw [← hR] at I9
    refine gIconst Xt43 hx (hb hby at_161) (v := (5 : Int32)) rfl ?_
    obtain ⟨Tt47, ht47, kt47, Xt47, et47, Et47, At47, stt47⟩ := newP Xt43 hx hZ (hw _ (List.mem_of_getElem? (i := 10) rfl)) et43 (g := (mkF m 162 #[.val (.int p0), .val (.int p1), .val (.int p2), .val (.int p3), .val (.int p4), .val (.int p5), .val (.int ca.toInt32), .val (.int cb.toInt32), .val (.int cc.toInt32), .val (.int cd.toInt32), .val (.int it.toInt32), .val (.int mk.toInt32), .val (.ref ob2), .val (.ref ob17), .unset, .unset, .unset] [(.int (5 : Int32))])) rfl (hb hby at_162) rfl (by decide) (cap := 5) (by decide) (by decide) (by decide) (by decide)
    obtain ⟨ob48, gob48⟩ : ∃ z, z = ht43.size := ⟨_, rfl⟩
    rw [← gob48] at At47 stt47
    refine go stt47 ?_
    have ne_ob2_ob48 : ob2 ≠ ob48 := Nat.ne_of_lt (gob48 ▸ At1.lt)
    have ne_ob17_ob48 : ob17 ≠ ob48 := Nat.ne_of_lt (gob48 ▸ At16.lt)
    have ne_ua_ob48 : ua ≠ ob48 := Nat.ne_of_lt (gob48 ▸ Yw.lt)
    have ne_u_ob48 : u ≠ ob48 := Nat.ne_of_lt (gob48 ▸ Yp.lt)
    have fr_ob48 : Z.heap.size ≤ ob48 := gob48 ▸ O46.1
    replace At1 := At1.ext Et47
    replace Fp := Fp.ext Et47
    replace At16 := At16.ext Et47
    replace Fw := Fw.ext Et47
    replace Fu := Fu.ext Et47
    replace Yw := Yw.ext Et47
    replace Yp := Yp.ext Et47
    have O49 : Ext Z.heap ht47 := extT O46 Et47
    have Y_ob48 : Ary Z ht47 ob48 .int [(.int (0 : Int32)), (.int (0 : Int32)), (.int (0 : Int32)), (.int (0 : Int32)), (.int (0 : Int32))] := Ary.new At47 rfl (by decide)
    show Goes p e below _ (Tt47.setTop (mkF m 164 #[.val (.int p0), .val (.int p1), .val (.int p2), .val (.int p3), .val (.int p4), .val (.int p5), .val (.int ca.toInt32), .val (.int cb.toInt32), .val (.int cc.toInt32), .val (.int cd.toInt32), .val (.int it.toInt32), .val (.int mk.toInt32), .val (.ref ob2), .val (.ref ob17), .unset, .unset, .unset] [(.ref ob48)]))
    refine gAstore Xt47 hx (hb hby at_164) rfl (l' := #[.val (.int p0), .val (.int p1), .val (.int p2), .val (.int p3), .val (.int p4), .val (.int p5), .val (.int ca.toInt32), .val (.int cb.toInt32), .val (.int cc.toInt32), .val (.int cd.toInt32), .val (.int it.toInt32), .val (.int mk.toInt32), .val (.ref ob2), .val (.ref ob17), .val (.ref ob48), .unset, .unset]) rfl ?_
    refine gAload Xt47 hx (hb hby at_166) rfl rfl ?_
    refine gIconst Xt47 hx (hb hby at_168) (v := (0 : Int32)) rfl ?_
    refine gAload Xt47 hx (hb hby at_169) rfl rfl ?_
    refine gIconst Xt47 hx (hb hby at_171) (v := (0 : Int32)) rfl ?_
    show Goes p e below _ (Tt47.setTop (mkF m 172 #[.val (.int p0), .val (.int p1), .val (.int p2), .val (.int p3), .val (.int p4), .val (.int p5), .val (.int ca.toInt32), .val (.int cb.toInt32), .val (.int cc.toInt32), .val (.int cd.toInt32), .val (.int it.toInt32), .val (.int mk.toInt32), .val (.ref ob2), .val (.ref ob17), .val (.ref ob48), .unset, .unset] [(.int (0 : Nat).toInt32), (.ref ob2), (.int (0 : Int32)), (.ref ob48)]))
    refine goCallV Xt47 hx hZ hown (hw _ (List.mem_of_getElem? (i := 87) rfl)) (hw _ (List.mem_of_getElem? (i := 19) rfl)) (hw _ (List.mem_of_getElem? (i := 21) rfl)) (hw _ (List.mem_of_getElem? (i := 20) rfl)) (hw _ (List.mem_of_getElem? (i := 3) rfl)) (hw _ (List.mem_of_getElem? (i := 22) rfl)) (by decide) (rmT l Z a0 hw ob2 u 0 5 R d9 P9 ht47 O49 Fp Yp I9 (by decide) (by decide) ne_ob2_u fr_u) 2 (by decide) (by decide) et47 At1 (hsz rfl) [(.int (0 : Nat).toInt32)] [(.int (0 : Int32)), (.ref ob48)] pd_0 rfl rfl rfl (Nat.le_of_eq rfl) (hb hby at_172) (by decide) (by decide) (fun Tt50 vt50 Lt50 Xt50 qt50 => ?_)
    obtain ⟨ht50, et50⟩ : ∃ z, Tt50.heap = z := ⟨_, rfl⟩
    rw [et50] at qt50
    obtain ⟨rfl, N51, Kct50, P10_, Y10_, I10_⟩ := qt50
    have N52 := Fr.app N45 N51
    replace At1 := At1.keep Kct50
    replace Fp := Fp.keep Kct50 (ninS ne_ob2_u nin0)
    replace At16 := At16.keep Kct50
    replace Fw := Fw.keep Kct50 (ninS (Ne.symm ne_u_ob17) nin0)
    replace Fu := Fu.keep Kct50 (ninS (Ne.symm ne_u_ob17) nin0)
    replace Yw := Yw.keep Kct50 (ninS (Ne.symm ne_u_ua) nin0)
    replace Y_ob48 := Y_ob48.keep Kct50 (ninS (Ne.symm ne_u_ob48) nin0)
    have O53 : Ext Z.heap ht50 := extK O49 Kct50 (allS fr_u all0)
    show Goes p e below _ (Tt50.setTop (mkF m 175 #[.val (.int p0), .val (.int p1), .val (.int p2), .val (.int p3), .val (.int p4), .val (.int p5), .val (.int ca.toInt32), .val (.int cb.toInt32), .val (.int cc.toInt32), .val (.int cd.toInt32), .val (.int it.toInt32), .val (.int mk.toInt32), .val (.ref ob2), .val (.ref ob17), .val (.ref ob48), .unset, .unset] [(.int (R 0).toInt32), (.int (0 : Int32)), (.ref ob48)]))
    refine goIastore Xt50 hx hZ et50 Y_ob48 (hb hby at_175) (by decide) rfl (fun Tt54 ht54 Xt54 et54 Wt54 => ?_)
    have N55 := Fr.snoc Xt54 N52 fr_ob48
    replace Y_ob48 : Ary Z ht54 ob48 .int [(.int (R 0).toInt32), (.int (0 : Int32)), (.int (0 : Int32)), (.int (0 : Int32)), (.int (0 : Int32))] := Y_ob48.set Wt54 rfl
    replace At1 := At1.wr Wt54
    replace Fp := Fp.other Wt54 (Or.inl ne_ob2_ob48)
    replace At16 := At16.wr Wt54
    replace Fw := Fw.other Wt54 (Or.inl ne_ob17_ob48)
    replace Fu := Fu.other Wt54 (Or.inl ne_ob17_ob48)
    replace Yw := Yw.other Wt54 ne_ua_ob48
    replace Y10_ := Y10_.other Wt54 ne_u_ob48
    have O56 : Ext Z.heap ht54 := extW O53 Wt54 fr_ob48
    show Goes p e below _ (Tt54.setTop (mkF m 176 #[.val (.int p0), .val (.int p1), .val (.int p2), .val (.int p3), .val (.int p4), .val (.int p5), .val (.int ca.toInt32), .val (.int cb.toInt32), .val (.int cc.toInt32), .val (.int cd.toInt32), .val (.int it.toInt32), .val (.int mk.toInt32), .val (.ref ob2), .val (.ref ob17), .val (.ref ob48), .unset, .unset] []))
    refine gAload Xt54 hx (hb hby at_176) rfl rfl ?_
    refine gIconst Xt54 hx (hb hby at_178) (v := (1 : Int32)) rfl ?_
    refine gAload Xt54 hx (hb hby at_179) rfl rfl ?_
    refine gIconst Xt54 hx (hb hby at_181) (v := (1 : Int32)) rfl ?_
    show Goes p e below _ (Tt54.setTop (mkF m 182 #[.val (.int p0), .val (.int p1), .val (.int p2), .val (.int p3), .val (.int p4), .val (.int p5), .val (.int ca.toInt32), .val (.int cb.toInt32), .val (.int cc.toInt32), .val (.int cd.toInt32), .val (.int it.toInt32), .val (.int mk.toInt32), .val (.ref ob2), .val (.ref ob17), .val (.ref ob48), .unset, .unset] [(.int (1 : Nat).toInt32), (.ref ob2), (.int (1 : Int32)), (.ref ob48)]))
    refine goCallV Xt54 hx hZ hown (hw _ (List.mem_of_getElem? (i := 87) rfl)) (hw _ (List.mem_of_getElem? (i := 19) rfl)) (hw _ (List.mem_of_getElem? (i := 21) rfl)) (hw _ (List.mem_of_getElem? (i := 20) rfl)) (hw _ (List.mem_of_getElem? (i := 3) rfl)) (hw _ (List.mem_of_getElem? (i := 22) rfl)) (by decide) (rmT l Z a0 hw ob2 u 1 5 R d9 P10_ ht54 O56 Fp Y10_ I10_ (by decide) (by decide) ne_ob2_u fr_u) 2 (by decide) (by decide) et54 At1 (hsz rfl) [(.int (1 : Nat).toInt32)] [(.int (1 : Int32)), (.ref ob48)] pd_0 rfl rfl rfl (Nat.le_of_eq rfl) (hb hby at_182) (by decide) (by decide) (fun Tt57 vt57 Lt57 Xt57 qt57 => ?_)
    obtain ⟨ht57, et57⟩ : ∃ z, Tt57.heap = z := ⟨_, rfl⟩
    rw [et57] at qt57
    obtain ⟨rfl, N58, Kct57, P11_, Y11_, I11_⟩ := qt57
    have N59 := Fr.app N55 N58
    replace At1 := At1.keep Kct57
    replace Fp := Fp.keep Kct57 (ninS ne_ob2_u nin0)
    replace At16 := At16.keep Kct57
    replace Fw := Fw.keep Kct57 (ninS (Ne.symm ne_u_ob17) nin0)
    replace Fu := Fu.keep Kct57 (ninS (Ne.symm ne_u_ob17) nin0)
    replace Yw := Yw.keep Kct57 (ninS (Ne.symm ne_u_ua) nin0)
    replace Y_ob48 := Y_ob48.keep Kct57 (ninS (Ne.symm ne_u_ob48) nin0)
    have O60 : Ext Z.heap ht57 := extK O56 Kct57 (allS fr_u all0)
    show Goes p e below _ (Tt57.setTop (mkF m 185 #[.val (.int p0), .val (.int p1), .val (.int p2), .val (.int p3), .val (.int p4), .val (.int p5), .val (.int ca.toInt32), .val (.int cb.toInt32), .val (.int cc.toInt32), .val (.int cd.toInt32), .val (.int it.toInt32), .val (.int mk.toInt32), .val (.ref ob2), .val (.ref ob17), .val (.ref ob48), .unset, .unset] [(.int (R 1).toInt32), (.int (1 : Int32)), (.ref ob48)]))
    refine goIastore Xt57 hx hZ et57 Y_ob48 (hb hby at_185) (by decide) rfl (fun Tt61 ht61 Xt61 et61 Wt61 => ?_)
    have N62 := Fr.snoc Xt61 N59 fr_ob48
    replace Y_ob48 : Ary Z ht61 ob48 .int [(.int (R 0).toInt32), (.int (R 1).toInt32), (.int (0 : Int32)), (.int (0 : Int32)), (.int (0 : Int32))] := Y_ob48.set Wt61 rfl
    replace At1 := At1.wr Wt61
    replace Fp := Fp.other Wt61 (Or.inl ne_ob2_ob48)
    replace At16 := At16.wr Wt61
    replace Fw := Fw.other Wt61 (Or.inl ne_ob17_ob48)
    replace Fu := Fu.other Wt61 (Or.inl ne_ob17_ob48)
    replace Yw := Yw.other Wt61 ne_ua_ob48
    replace Y11_ := Y11_.other Wt61 ne_u_ob48
    have O63 : Ext Z.heap ht61 := extW O60 Wt61 fr_ob48
    show Goes p e below _ (Tt61.setTop (mkF m 186 #[.val (.int p0), .val (.int p1), .val (.int p2), .val (.int p3), .val (.int p4), .val (.int p5), .val (.int ca.toInt32), .val (.int cb.toInt32), .val (.int cc.toInt32), .val (.int cd.toInt32), .val (.int it.toInt32), .val (.int mk.toInt32), .val (.ref ob2), .val (.ref ob17), .val (.ref ob48), .unset, .unset] []))
    refine gAload Xt61 hx (hb hby at_186) rfl rfl ?_
    refine gIconst Xt61 hx (hb hby at_188) (v := (2 : Int32)) rfl ?_
    refine gAload Xt61 hx (hb hby at_189) rfl rfl ?_
    refine gIconst Xt61 hx (hb hby at_191) (v := (2 : Int32)) rfl ?_
    show Goes p e below _ (Tt61.setTop (mkF m 192 #[.val (.int p0), .val (.int p1), .val (.int p2), .val (.int p3), .val (.int p4), .val (.int p5), .val (.int ca.toInt32), .val (.int cb.toInt32), .val (.int cc.toInt32), .val (.int cd.toInt32), .val (.int it.toInt32), .val (.int mk.toInt32), .val (.ref ob2), .val (.ref ob17), .val (.ref ob48), .unset, .unset] [(.int (2 : Nat).toInt32), (.ref ob2), (.int (2 : Int32)), (.ref ob48)]))
    refine goCallV Xt61 hx hZ hown (hw _ (List.mem_of_getElem? (i := 87) rfl)) (hw _ (List.mem_of_getElem? (i := 19) rfl)) (hw _ (List.mem_of_getElem? (i := 21) rfl)) (hw _ (List.mem_of_getElem? (i := 20) rfl)) (hw _ (List.mem_of_getElem? (i := 3) rfl)) (hw _ (List.mem_of_getElem? (i := 22) rfl)) (by decide) (rmT l Z a0 hw ob2 u 2 5 R d9 P11_ ht61 O63 Fp Y11_ I11_ (by decide) (by decide) ne_ob2_u fr_u) 2 (by decide) (by decide) et61 At1 (hsz rfl) [(.int (2 : Nat).toInt32)] [(.int (2 : Int32)), (.ref ob48)] pd_0 rfl rfl rfl (Nat.le_of_eq rfl) (hb hby at_192) (by decide) (by decide) (fun Tt64 vt64 Lt64 Xt64 qt64 => ?_)
    obtain ⟨ht64, et64⟩ : ∃ z, Tt64.heap = z := ⟨_, rfl⟩
    rw [et64] at qt64
    obtain ⟨rfl, N65, Kct64, P12_, Y12_, I12_⟩ := qt64
    have N66 := Fr.app N62 N65
    replace At1 := At1.keep Kct64
    replace Fp := Fp.keep Kct64 (ninS ne_ob2_u nin0)
    replace At16 := At16.keep Kct64
    replace Fw := Fw.keep Kct64 (ninS (Ne.symm ne_u_ob17) nin0)
    replace Fu := Fu.keep Kct64 (ninS (Ne.symm ne_u_ob17) nin0)
    replace Yw := Yw.keep Kct64 (ninS (Ne.symm ne_u_ua) nin0)
    replace Y_ob48 := Y_ob48.keep Kct64 (ninS (Ne.symm ne_u_ob48) nin0)
    have O67 : Ext Z.heap ht64 := extK O63 Kct64 (allS fr_u all0)
    show Goes p e below _ (Tt64.setTop (mkF m 195 #[.val (.int p0), .val (.int p1), .val (.int p2), .val (.int p3), .val (.int p4), .val (.int p5), .val (.int ca.toInt32), .val (.int cb.toInt32), .val (.int cc.toInt32), .val (.int cd.toInt32), .val (.int it.toInt32), .val (.int mk.toInt32), .val (.ref ob2), .val (.ref ob17), .val (.ref ob48), .unset, .unset] [(.int (R 2).toInt32), (.int (2 : Int32)), (.ref ob48)]))
    refine goIastore Xt64 hx hZ et64 Y_ob48 (hb hby at_195) (by decide) rfl (fun Tt68 ht68 Xt68 et68 Wt68 => ?_)
    have N69 := Fr.snoc Xt68 N66 fr_ob48
    replace Y_ob48 : Ary Z ht68 ob48 .int [(.int (R 0).toInt32), (.int (R 1).toInt32), (.int (R 2).toInt32), (.int (0 : Int32)), (.int (0 : Int32))] := Y_ob48.set Wt68 rfl
    replace At1 := At1.wr Wt68
    replace Fp := Fp.other Wt68 (Or.inl ne_ob2_ob48)
    replace At16 := At16.wr Wt68
    replace Fw := Fw.other Wt68 (Or.inl ne_ob17_ob48)
    replace Fu := Fu.other Wt68 (Or.inl ne_ob17_ob48)
    replace Yw := Yw.other Wt68 ne_ua_ob48
    replace Y12_ := Y12_.other Wt68 ne_u_ob48
    have O70 : Ext Z.heap ht68 := extW O67 Wt68 fr_ob48
    show Goes p e below _ (Tt68.setTop (mkF m 196 #[.val (.int p0), .val (.int p1), .val (.int p2), .val (.int p3), .val (.int p4), .val (.int p5), .val (.int ca.toInt32), .val (.int cb.toInt32), .val (.int cc.toInt32), .val (.int cd.toInt32), .val (.int it.toInt32), .val (.int mk.toInt32), .val (.ref ob2), .val (.ref ob17), .val (.ref ob48), .unset, .unset] []))
    refine gAload Xt68 hx (hb hby at_196) rfl rfl ?_
    refine gIconst Xt68 hx (hb hby at_198) (v := (3 : Int32)) rfl ?_
    refine gAload Xt68 hx (hb hby at_199) rfl rfl ?_
    refine gIconst Xt68 hx (hb hby at_201) (v := (3 : Int32)) rfl ?_
    show Goes p e below _ (Tt68.setTop (mkF m 202 #[.val (.int p0), .val (.int p1), .val (.int p2), .val (.int p3), .val (.int p4), .val (.int p5), .val (.int ca.toInt32), .val (.int cb.toInt32), .val (.int cc.toInt32), .val (.int cd.toInt32), .val (.int it.toInt32), .val (.int mk.toInt32), .val (.ref ob2), .val (.ref ob17), .val (.ref ob48), .unset, .unset] [(.int (3 : Nat).toInt32), (.ref ob2), (.int (3 : Int32)), (.ref ob48)]))
    refine goCallV Xt68 hx hZ hown (hw _ (List.mem_of_getElem? (i := 87) rfl)) (hw _ (List.mem_of_getElem? (i := 19) rfl)) (hw _ (List.mem_of_getElem? (i := 21) rfl)) (hw _ (List.mem_of_getElem? (i := 20) rfl)) (hw _ (List.mem_of_getElem? (i := 3) rfl)) (hw _ (List.mem_of_getElem? (i := 22) rfl)) (by decide) (rmT l Z a0 hw ob2 u 3 5 R d9 P12_ ht68 O70 Fp Y12_ I12_ (by decide) (by decide) ne_ob2_u fr_u) 2 (by decide) (by decide) et68 At1 (hsz rfl) [(.int (3 : Nat).toInt32)] [(.int (3 : Int32)), (.ref ob48)] pd_0 rfl rfl rfl (Nat.le_of_eq rfl) (hb hby at_202) (by decide) (by decide) (fun Tt71 vt71 Lt71 Xt71 qt71 => ?_)
    obtain ⟨ht71, et71⟩ : ∃ z, Tt71.heap = z := ⟨_, rfl⟩
    rw [et71] at qt71
    obtain ⟨rfl, N72, Kct71, P13_, Y13_, I13_⟩ := qt71
    have N73 := Fr.app N69 N72
    replace At1 := At1.keep Kct71
    replace Fp := Fp.keep Kct71 (ninS ne_ob2_u nin0)
    replace At16 := At16.keep Kct71
    replace Fw := Fw.keep Kct71 (ninS (Ne.symm ne_u_ob17) nin0)
    replace Fu := Fu.keep Kct71 (ninS (Ne.symm ne_u_ob17) nin0)
    replace Yw := Yw.keep Kct71 (ninS (Ne.symm ne_u_ua) nin0)
    replace Y_ob48 := Y_ob48.keep Kct71 (ninS (Ne.symm ne_u_ob48) nin0)
    have O74 : Ext Z.heap ht71 := extK O70 Kct71 (allS fr_u all0)
    show Goes p e below _ (Tt71.setTop (mkF m 205 #[.val (.int p0), .val (.int p1), .val (.int p2), .val (.int p3), .val (.int p4), .val (.int p5), .val (.int ca.toInt32), .val (.int cb.toInt32), .val (.int cc.toInt32), .val (.int cd.toInt32), .val (.int it.toInt32), .val (.int mk.toInt32), .val (.ref ob2), .val (.ref ob17), .val (.ref ob48), .unset, .unset] [(.int (R 3).toInt32), (.int (3 : Int32)), (.ref ob48)]))
    refine goIastore Xt71 hx hZ et71 Y_ob48 (hb hby at_205) (by decide) rfl (fun Tt75 ht75 Xt75 et75 Wt75 => ?_)
    have N76 := Fr.snoc Xt75 N73 fr_ob48
    replace Y_ob48 : Ary Z ht75 ob48 .int [(.int (R 0).toInt32), (.int (R 1).toInt32), (.int (R 2).toInt32), (.int (R 3).toInt32), (.int (0 : Int32))] := Y_ob48.set Wt75 rfl
    replace At1 := At1.wr Wt75
    replace Fp := Fp.other Wt75 (Or.inl ne_ob2_ob48)
    replace At16 := At16.wr Wt75
    replace Fw := Fw.other Wt75 (Or.inl ne_ob17_ob48)
    replace Fu := Fu.other Wt75 (Or.inl ne_ob17_ob48)
    replace Yw := Yw.other Wt75 ne_ua_ob48
    replace Y13_ := Y13_.other Wt75 ne_u_ob48
    have O77 : Ext Z.heap ht75 := extW O74 Wt75 fr_ob48
    show Goes p e below _ (Tt75.setTop (mkF m 206 #[.val (.int p0), .val (.int p1), .val (.int p2), .val (.int p3), .val (.int p4), .val (.int p5), .val (.int ca.toInt32), .val (.int cb.toInt32), .val (.int cc.toInt32), .val (.int cd.toInt32), .val (.int it.toInt32), .val (.int mk.toInt32), .val (.ref ob2), .val (.ref ob17), .val (.ref ob48), .unset, .unset] []))
    refine gAload Xt75 hx (hb hby at_206) rfl rfl ?_
    refine gIconst Xt75 hx (hb hby at_208) (v := (4 : Int32)) rfl ?_
    refine gAload Xt75 hx (hb hby at_209) rfl rfl ?_
    refine gIconst Xt75 hx (hb hby at_211) (v := (4 : Int32)) rfl ?_
    show Goes p e below _ (Tt75.setTop (mkF m 212 #[.val (.int p0), .val (.int p1), .val (.int p2), .val (.int p3), .val (.int p4), .val (.int p5), .val (.int ca.toInt32), .val (.int cb.toInt32), .val (.int cc.toInt32), .val (.int cd.toInt32), .val (.int it.toInt32), .val (.int mk.toInt32), .val (.ref ob2), .val (.ref ob17), .val (.ref ob48), .unset, .unset] [(.int (4 : Nat).toInt32), (.ref ob2), (.int (4 : Int32)), (.ref ob48)]))
    refine goCallV Xt75 hx hZ hown (hw _ (List.mem_of_getElem? (i := 87) rfl)) (hw _ (List.mem_of_getElem? (i := 19) rfl)) (hw _ (List.mem_of_getElem? (i := 21) rfl)) (hw _ (List.mem_of_getElem? (i := 20) rfl)) (hw _ (List.mem_of_getElem? (i := 3) rfl)) (hw _ (List.mem_of_getElem? (i := 22) rfl)) (by decide) (rmT l Z a0 hw ob2 u 4 5 R d9 P13_ ht75 O77 Fp Y13_ I13_ (by decide) (by decide) ne_ob2_u fr_u) 2 (by decide) (by decide) et75 At1 (hsz rfl) [(.int (4 : Nat).toInt32)] [(.int (4 : Int32)), (.ref ob48)] pd_0 rfl rfl rfl (Nat.le_of_eq rfl) (hb hby at_212) (by decide) (by decide) (fun Tt78 vt78 Lt78 Xt78 qt78 => ?_)
    obtain ⟨ht78, et78⟩ : ∃ z, Tt78.heap = z := ⟨_, rfl⟩
    rw [et78] at qt78
    obtain ⟨rfl, N79, Kct78, P14_, Y14_, I14_⟩ := qt78
    have N80 := Fr.app N76 N79
    replace At1 := At1.keep Kct78
    replace Fp := Fp.keep Kct78 (ninS ne_ob2_u nin0)
    replace At16 := At16.keep Kct78
    replace Fw := Fw.keep Kct78 (ninS (Ne.symm ne_u_ob17) nin0)
    replace Fu := Fu.keep Kct78 (ninS (Ne.symm ne_u_ob17) nin0)
    replace Yw := Yw.keep Kct78 (ninS (Ne.symm ne_u_ua) nin0)
    replace Y_ob48 := Y_ob48.keep Kct78 (ninS (Ne.symm ne_u_ob48) nin0)
    have O81 : Ext Z.heap ht78 := extK O77 Kct78 (allS fr_u all0)
    show Goes p e below _ (Tt78.setTop (mkF m 215 #[.val (.int p0), .val (.int p1), .val (.int p2), .val (.int p3), .val (.int p4), .val (.int p5), .val (.int ca.toInt32), .val (.int cb.toInt32), .val (.int cc.toInt32), .val (.int cd.toInt32), .val (.int it.toInt32), .val (.int mk.toInt32), .val (.ref ob2), .val (.ref ob17), .val (.ref ob48), .unset, .unset] [(.int (R 4).toInt32), (.int (4 : Int32)), (.ref ob48)]))
    refine goIastore Xt78 hx hZ et78 Y_ob48 (hb hby at_215) (by decide) rfl (fun Tt82 ht82 Xt82 et82 Wt82 => ?_)
    have N83 := Fr.snoc Xt82 N80 fr_ob48
    replace Y_ob48 : Ary Z ht82 ob48 .int [(.int (R 0).toInt32), (.int (R 1).toInt32), (.int (R 2).toInt32), (.int (R 3).toInt32), (.int (R 4).toInt32)] := Y_ob48.set Wt82 rfl
    replace At1 := At1.wr Wt82
    replace Fp := Fp.other Wt82 (Or.inl ne_ob2_ob48)
    replace At16 := At16.wr Wt82
    replace Fw := Fw.other Wt82 (Or.inl ne_ob17_ob48)
    replace Fu := Fu.other Wt82 (Or.inl ne_ob17_ob48)
    replace Yw := Yw.other Wt82 ne_ua_ob48
    replace Y14_ := Y14_.other Wt82 ne_u_ob48
    have O84 : Ext Z.heap ht82 := extW O81 Wt82 fr_ob48
    show Goes p e below _ (Tt82.setTop (mkF m 216 #[.val (.int p0), .val (.int p1), .val (.int p2), .val (.int p3), .val (.int p4), .val (.int p5), .val (.int ca.toInt32), .val (.int cb.toInt32), .val (.int cc.toInt32), .val (.int cd.toInt32), .val (.int it.toInt32), .val (.int mk.toInt32), .val (.ref ob2), .val (.ref ob17), .val (.ref ob48), .unset, .unset] []))
    refine gIconst Xt82 hx (hb hby at_216) (v := (5 : Int32)) rfl ?_
    obtain ⟨Tt85, ht85, kt85, Xt85, et85, Et85, At85, stt85⟩ := newP Xt82 hx hZ (hw _ (List.mem_of_getElem? (i := 10) rfl)) et82 (g := (mkF m 217 #[.val (.int p0), .val (.int p1), .val (.int p2), .val (.int p3), .val (.int p4), .val (.int p5), .val (.int ca.toInt32), .val (.int cb.toInt32), .val (.int cc.toInt32), .val (.int cd.toInt32), .val (.int it.toInt32), .val (.int mk.toInt32), .val (.ref ob2), .val (.ref ob17), .val (.ref ob48), .unset, .unset] [(.int (5 : Int32))])) rfl (hb hby at_217) rfl (by decide) (cap := 5) (by decide) (by decide) (by decide) (by decide)
    obtain ⟨ob86, gob86⟩ : ∃ z, z = ht82.size := ⟨_, rfl⟩
    rw [← gob86] at At85 stt85
    refine go stt85 ?_
    have ne_ob2_ob86 : ob2 ≠ ob86 := Nat.ne_of_lt (gob86 ▸ At1.lt)
    have ne_ob17_ob86 : ob17 ≠ ob86 := Nat.ne_of_lt (gob86 ▸ At16.lt)
    have ne_ua_ob86 : ua ≠ ob86 := Nat.ne_of_lt (gob86 ▸ Yw.lt)
    have ne_ob48_ob86 : ob48 ≠ ob86 := Nat.ne_of_lt (gob86 ▸ Y_ob48.lt)
    have ne_u_ob86 : u ≠ ob86 := Nat.ne_of_lt (gob86 ▸ Y14_.lt)
    have fr_ob86 : Z.heap.size ≤ ob86 := gob86 ▸ O84.1
    replace At1 := At1.ext Et85
    replace Fp := Fp.ext Et85
    replace At16 := At16.ext Et85
    replace Fw := Fw.ext Et85
    replace Fu := Fu.ext Et85
    replace Yw := Yw.ext Et85
    replace Y_ob48 := Y_ob48.ext Et85
    replace Y14_ := Y14_.ext Et85
    have O87 : Ext Z.heap ht85 := extT O84 Et85
    have Y_ob86 : Ary Z ht85 ob86 .int [(.int (0 : Int32)), (.int (0 : Int32)), (.int (0 : Int32)), (.int (0 : Int32)), (.int (0 : Int32))] := Ary.new At85 rfl (by decide)
    show Goes p e below _ (Tt85.setTop (mkF m 219 #[.val (.int p0), .val (.int p1), .val (.int p2), .val (.int p3), .val (.int p4), .val (.int p5), .val (.int ca.toInt32), .val (.int cb.toInt32), .val (.int cc.toInt32), .val (.int cd.toInt32), .val (.int it.toInt32), .val (.int mk.toInt32), .val (.ref ob2), .val (.ref ob17), .val (.ref ob48), .unset, .unset] [(.ref ob86)]))
    refine gAstore Xt85 hx (hb hby at_219) rfl (l' := #[.val (.int p0), .val (.int p1), .val (.int p2), .val (.int p3), .val (.int p4), .val (.int p5), .val (.int ca.toInt32), .val (.int cb.toInt32), .val (.int cc.toInt32), .val (.int cd.toInt32), .val (.int it.toInt32), .val (.int mk.toInt32), .val (.ref ob2), .val (.ref ob17), .val (.ref ob48), .val (.ref ob86), .unset]) rfl ?_
    refine gAload Xt85 hx (hb hby at_221) rfl rfl ?_
    refine gIconst Xt85 hx (hb hby at_223) (v := (0 : Int32)) rfl ?_
    refine gIconst Xt85 hx (hb hby at_224) (v := (0 : Int32)) rfl ?_
    refine gIload Xt85 hx (hb hby at_225) rfl ?_
    refine gIload Xt85 hx (hb hby at_227) rfl ?_
    refine gIload Xt85 hx (hb hby at_229) rfl ?_
    show Goes p e below _ (Tt85.setTop (mkF m 231 #[.val (.int p0), .val (.int p1), .val (.int p2), .val (.int p3), .val (.int p4), .val (.int p5), .val (.int ca.toInt32), .val (.int cb.toInt32), .val (.int cc.toInt32), .val (.int cd.toInt32), .val (.int it.toInt32), .val (.int mk.toInt32), .val (.ref ob2), .val (.ref ob17), .val (.ref ob48), .val (.ref ob86), .unset] [(.int cc.toInt32), (.int cb.toInt32), (.int ca.toInt32), (.int (0 : Int32)), (.int (0 : Int32)), (.ref ob86)]))
    refine gIload Xt85 hx (hb hby at_231) rfl ?_
    have El : ∀ x, x < 5 → own_l2 x.toInt32 ca.toInt32 cb.toInt32 cc.toInt32 cd.toInt32 = (r2 x).toInt32 := fun x hx => by rw [hr2, hr1]; exact own_l2_eq hx lca lcb lcc lcd
    show Goes p e below _ (Tt85.setTop (mkF m 233 #[.val (.int p0), .val (.int p1), .val (.int p2), .val (.int p3), .val (.int p4), .val (.int p5), .val (.int ca.toInt32), .val (.int cb.toInt32), .val (.int cc.toInt32), .val (.int cd.toInt32), .val (.int it.toInt32), .val (.int mk.toInt32), .val (.ref ob2), .val (.ref ob17), .val (.ref ob48), .val (.ref ob86), .unset] [(.int cd.toInt32), (.int cc.toInt32), (.int cb.toInt32), (.int ca.toInt32), (.int (0 : Nat).toInt32), (.int (0 : Int32)), (.ref ob86)]))
    refine goCallS Xt85 hx hZ hown (hw _ (List.mem_of_getElem? (i := 88) rfl)) (hw _ (List.mem_of_getElem? (i := 89) rfl)) (hw _ (List.mem_of_getElem? (i := 90) rfl)) (hw _ (List.mem_of_getElem? (i := 91) rfl)) (by decide) (rmB l Z a0 hw (0 : Nat).toInt32 ca.toInt32 cb.toInt32 cc.toInt32 cd.toInt32 ht85 O87) 2 (by decide) (by decide) et85 (hsz rfl) [(.int (0 : Nat).toInt32), (.int ca.toInt32), (.int cb.toInt32), (.int cc.toInt32), (.int cd.toInt32)] [(.int (0 : Int32)), (.ref ob86)] pd_9 rfl rfl rfl (Nat.le_of_eq rfl) (hb hby at_233) (by decide) (by decide) (fun Tt88 vt88 Lt88 Xt88 qt88 => ?_)
    obtain ⟨rfl, N89, et88⟩ := qt88
    have N90 := Fr.app N83 N89
    show Goes p e below _ (Tt88.setTop (mkF m 236 #[.val (.int p0), .val (.int p1), .val (.int p2), .val (.int p3), .val (.int p4), .val (.int p5), .val (.int ca.toInt32), .val (.int cb.toInt32), .val (.int cc.toInt32), .val (.int cd.toInt32), .val (.int it.toInt32), .val (.int mk.toInt32), .val (.ref ob2), .val (.ref ob17), .val (.ref ob48), .val (.ref ob86), .unset] [(.int (own_l2 (0 : Nat).toInt32 ca.toInt32 cb.toInt32 cc.toInt32 cd.toInt32)), (.int (0 : Int32)), (.ref ob86)]))
    rw [El 0 (by decide)]
    show Goes p e below _ (Tt88.setTop (mkF m 236 #[.val (.int p0), .val (.int p1), .val (.int p2), .val (.int p3), .val (.int p4), .val (.int p5), .val (.int ca.toInt32), .val (.int cb.toInt32), .val (.int cc.toInt32), .val (.int cd.toInt32), .val (.int it.toInt32), .val (.int mk.toInt32), .val (.ref ob2), .val (.ref ob17), .val (.ref ob48), .val (.ref ob86), .unset] [(.int (r2 0).toInt32), (.int (0 : Int32)), (.ref ob86)]))
    refine goIastore Xt88 hx hZ et88 Y_ob86 (hb hby at_236) (by decide) rfl (fun Tt91 ht91 Xt91 et91 Wt91 => ?_)
    have N92 := Fr.snoc Xt91 N90 fr_ob86
    replace Y_ob86 : Ary Z ht91 ob86 .int [(.int (r2 0).toInt32), (.int (0 : Int32)), (.int (0 : Int32)), (.int (0 : Int32)), (.int (0 : Int32))] := Y_ob86.set Wt91 rfl
    replace At1 := At1.wr Wt91
    replace Fp := Fp.other Wt91 (Or.inl ne_ob2_ob86)
    replace At16 := At16.wr Wt91
    replace Fw := Fw.other Wt91 (Or.inl ne_ob17_ob86)
    replace Fu := Fu.other Wt91 (Or.inl ne_ob17_ob86)
    replace Yw := Yw.other Wt91 ne_ua_ob86
    replace Y_ob48 := Y_ob48.other Wt91 ne_ob48_ob86
    replace Y14_ := Y14_.other Wt91 ne_u_ob86
    have O93 : Ext Z.heap ht91 := extW O87 Wt91 fr_ob86
    show Goes p e below _ (Tt91.setTop (mkF m 237 #[.val (.int p0), .val (.int p1), .val (.int p2), .val (.int p3), .val (.int p4), .val (.int p5), .val (.int ca.toInt32), .val (.int cb.toInt32), .val (.int cc.toInt32), .val (.int cd.toInt32), .val (.int it.toInt32), .val (.int mk.toInt32), .val (.ref ob2), .val (.ref ob17), .val (.ref ob48), .val (.ref ob86), .unset] []))
    refine gAload Xt91 hx (hb hby at_237) rfl rfl ?_
    refine gIconst Xt91 hx (hb hby at_239) (v := (1 : Int32)) rfl ?_
    refine gIconst Xt91 hx (hb hby at_240) (v := (1 : Int32)) rfl ?_
    refine gIload Xt91 hx (hb hby at_241) rfl ?_
    refine gIload Xt91 hx (hb hby at_243) rfl ?_
    refine gIload Xt91 hx (hb hby at_245) rfl ?_
    refine gIload Xt91 hx (hb hby at_247) rfl ?_
    show Goes p e below _ (Tt91.setTop (mkF m 249 #[.val (.int p0), .val (.int p1), .val (.int p2), .val (.int p3), .val (.int p4), .val (.int p5), .val (.int ca.toInt32), .val (.int cb.toInt32), .val (.int cc.toInt32), .val (.int cd.toInt32), .val (.int it.toInt32), .val (.int mk.toInt32), .val (.ref ob2), .val (.ref ob17), .val (.ref ob48), .val (.ref ob86), .unset] [(.int cd.toInt32), (.int cc.toInt32), (.int cb.toInt32), (.int ca.toInt32), (.int (1 : Int32)), (.int (1 : Int32)), (.ref ob86)]))
    show Goes p e below _ (Tt91.setTop (mkF m 249 #[.val (.int p0), .val (.int p1), .val (.int p2), .val (.int p3), .val (.int p4), .val (.int p5), .val (.int ca.toInt32), .val (.int cb.toInt32), .val (.int cc.toInt32), .val (.int cd.toInt32), .val (.int it.toInt32), .val (.int mk.toInt32), .val (.ref ob2), .val (.ref ob17), .val (.ref ob48), .val (.ref ob86), .unset] [(.int cd.toInt32), (.int cc.toInt32), (.int cb.toInt32), (.int ca.toInt32), (.int (1 : Nat).toInt32), (.int (1 : Int32)), (.ref ob86)]))
    refine goCallS Xt91 hx hZ hown (hw _ (List.mem_of_getElem? (i := 88) rfl)) (hw _ (List.mem_of_getElem? (i := 89) rfl)) (hw _ (List.mem_of_getElem? (i := 90) rfl)) (hw _ (List.mem_of_getElem? (i := 91) rfl)) (by decide) (rmB l Z a0 hw (1 : Nat).toInt32 ca.toInt32 cb.toInt32 cc.toInt32 cd.toInt32 ht91 O93) 2 (by decide) (by decide) et91 (hsz rfl) [(.int (1 : Nat).toInt32), (.int ca.toInt32), (.int cb.toInt32), (.int cc.toInt32), (.int cd.toInt32)] [(.int (1 : Int32)), (.ref ob86)] pd_9 rfl rfl rfl (Nat.le_of_eq rfl) (hb hby at_249) (by decide) (by decide) (fun Tt94 vt94 Lt94 Xt94 qt94 => ?_)
    obtain ⟨rfl, N95, et94⟩ := qt94
    have N96 := Fr.app N92 N95
    show Goes p e below _ (Tt94.setTop (mkF m 252 #[.val (.int p0), .val (.int p1), .val (.int p2), .val (.int p3), .val (.int p4), .val (.int p5), .val (.int ca.toInt32), .val (.int cb.toInt32), .val (.int cc.toInt32), .val (.int cd.toInt32), .val (.int it.toInt32), .val (.int mk.toInt32), .val (.ref ob2), .val (.ref ob17), .val (.ref ob48), .val (.ref ob86), .unset] [(.int (own_l2 (1 : Nat).toInt32 ca.toInt32 cb.toInt32 cc.toInt32 cd.toInt32)), (.int (1 : Int32)), (.ref ob86)]))
    rw [El 1 (by decide)]
    show Goes p e below _ (Tt94.setTop (mkF m 252 #[.val (.int p0), .val (.int p1), .val (.int p2), .val (.int p3), .val (.int p4), .val (.int p5), .val (.int ca.toInt32), .val (.int cb.toInt32), .val (.int cc.toInt32), .val (.int cd.toInt32), .val (.int it.toInt32), .val (.int mk.toInt32), .val (.ref ob2), .val (.ref ob17), .val (.ref ob48), .val (.ref ob86), .unset] [(.int (r2 1).toInt32), (.int (1 : Int32)), (.ref ob86)]))
    refine goIastore Xt94 hx hZ et94 Y_ob86 (hb hby at_252) (by decide) rfl (fun Tt97 ht97 Xt97 et97 Wt97 => ?_)
    have N98 := Fr.snoc Xt97 N96 fr_ob86
    replace Y_ob86 : Ary Z ht97 ob86 .int [(.int (r2 0).toInt32), (.int (r2 1).toInt32), (.int (0 : Int32)), (.int (0 : Int32)), (.int (0 : Int32))] := Y_ob86.set Wt97 rfl
    replace At1 := At1.wr Wt97
    replace Fp := Fp.other Wt97 (Or.inl ne_ob2_ob86)
    replace At16 := At16.wr Wt97
    replace Fw := Fw.other Wt97 (Or.inl ne_ob17_ob86)
    replace Fu := Fu.other Wt97 (Or.inl ne_ob17_ob86)
    replace Yw := Yw.other Wt97 ne_ua_ob86
    replace Y_ob48 := Y_ob48.other Wt97 ne_ob48_ob86
    replace Y14_ := Y14_.other Wt97 ne_u_ob86
    have O99 : Ext Z.heap ht97 := extW O93 Wt97 fr_ob86
    show Goes p e below _ (Tt97.setTop (mkF m 253 #[.val (.int p0), .val (.int p1), .val (.int p2), .val (.int p3), .val (.int p4), .val (.int p5), .val (.int ca.toInt32), .val (.int cb.toInt32), .val (.int cc.toInt32), .val (.int cd.toInt32), .val (.int it.toInt32), .val (.int mk.toInt32), .val (.ref ob2), .val (.ref ob17), .val (.ref ob48), .val (.ref ob86), .unset] []))
    refine gAload Xt97 hx (hb hby at_253) rfl rfl ?_
    refine gIconst Xt97 hx (hb hby at_255) (v := (2 : Int32)) rfl ?_
    refine gIconst Xt97 hx (hb hby at_256) (v := (2 : Int32)) rfl ?_
    refine gIload Xt97 hx (hb hby at_257) rfl ?_
    refine gIload Xt97 hx (hb hby at_259) rfl ?_
    refine gIload Xt97 hx (hb hby at_261) rfl ?_
    refine gIload Xt97 hx (hb hby at_263) rfl ?_
    show Goes p e below _ (Tt97.setTop (mkF m 265 #[.val (.int p0), .val (.int p1), .val (.int p2), .val (.int p3), .val (.int p4), .val (.int p5), .val (.int ca.toInt32), .val (.int cb.toInt32), .val (.int cc.toInt32), .val (.int cd.toInt32), .val (.int it.toInt32), .val (.int mk.toInt32), .val (.ref ob2), .val (.ref ob17), .val (.ref ob48), .val (.ref ob86), .unset] [(.int cd.toInt32), (.int cc.toInt32), (.int cb.toInt32), (.int ca.toInt32), (.int (2 : Int32)), (.int (2 : Int32)), (.ref ob86)]))
    show Goes p e below _ (Tt97.setTop (mkF m 265 #[.val (.int p0), .val (.int p1), .val (.int p2), .val (.int p3), .val (.int p4), .val (.int p5), .val (.int ca.toInt32), .val (.int cb.toInt32), .val (.int cc.toInt32), .val (.int cd.toInt32), .val (.int it.toInt32), .val (.int mk.toInt32), .val (.ref ob2), .val (.ref ob17), .val (.ref ob48), .val (.ref ob86), .unset] [(.int cd.toInt32), (.int cc.toInt32), (.int cb.toInt32), (.int ca.toInt32), (.int (2 : Nat).toInt32), (.int (2 : Int32)), (.ref ob86)]))
    refine goCallS Xt97 hx hZ hown (hw _ (List.mem_of_getElem? (i := 88) rfl)) (hw _ (List.mem_of_getElem? (i := 89) rfl)) (hw _ (List.mem_of_getElem? (i := 90) rfl)) (hw _ (List.mem_of_getElem? (i := 91) rfl)) (by decide) (rmB l Z a0 hw (2 : Nat).toInt32 ca.toInt32 cb.toInt32 cc.toInt32 cd.toInt32 ht97 O99) 2 (by decide) (by decide) et97 (hsz rfl) [(.int (2 : Nat).toInt32), (.int ca.toInt32), (.int cb.toInt32), (.int cc.toInt32), (.int cd.toInt32)] [(.int (2 : Int32)), (.ref ob86)] pd_9 rfl rfl rfl (Nat.le_of_eq rfl) (hb hby at_265) (by decide) (by decide) (fun Tt100 vt100 Lt100 Xt100 qt100 => ?_)
    obtain ⟨rfl, N101, et100⟩ := qt100
    have N102 := Fr.app N98 N101
    show Goes p e below _ (Tt100.setTop (mkF m 268 #[.val (.int p0), .val (.int p1), .val (.int p2), .val (.int p3), .val (.int p4), .val (.int p5), .val (.int ca.toInt32), .val (.int cb.toInt32), .val (.int cc.toInt32), .val (.int cd.toInt32), .val (.int it.toInt32), .val (.int mk.toInt32), .val (.ref ob2), .val (.ref ob17), .val (.ref ob48), .val (.ref ob86), .unset] [(.int (own_l2 (2 : Nat).toInt32 ca.toInt32 cb.toInt32 cc.toInt32 cd.toInt32)), (.int (2 : Int32)), (.ref ob86)]))
    rw [El 2 (by decide)]
    show Goes p e below _ (Tt100.setTop (mkF m 268 #[.val (.int p0), .val (.int p1), .val (.int p2), .val (.int p3), .val (.int p4), .val (.int p5), .val (.int ca.toInt32), .val (.int cb.toInt32), .val (.int cc.toInt32), .val (.int cd.toInt32), .val (.int it.toInt32), .val (.int mk.toInt32), .val (.ref ob2), .val (.ref ob17), .val (.ref ob48), .val (.ref ob86), .unset] [(.int (r2 2).toInt32), (.int (2 : Int32)), (.ref ob86)]))
    refine goIastore Xt100 hx hZ et100 Y_ob86 (hb hby at_268) (by decide) rfl (fun Tt103 ht103 Xt103 et103 Wt103 => ?_)
    have N104 := Fr.snoc Xt103 N102 fr_ob86
    replace Y_ob86 : Ary Z ht103 ob86 .int [(.int (r2 0).toInt32), (.int (r2 1).toInt32), (.int (r2 2).toInt32), (.int (0 : Int32)), (.int (0 : Int32))] := Y_ob86.set Wt103 rfl
    replace At1 := At1.wr Wt103
    replace Fp := Fp.other Wt103 (Or.inl ne_ob2_ob86)
    replace At16 := At16.wr Wt103
    replace Fw := Fw.other Wt103 (Or.inl ne_ob17_ob86)
    replace Fu := Fu.other Wt103 (Or.inl ne_ob17_ob86)
    replace Yw := Yw.other Wt103 ne_ua_ob86
    replace Y_ob48 := Y_ob48.other Wt103 ne_ob48_ob86
    replace Y14_ := Y14_.other Wt103 ne_u_ob86
    have O105 : Ext Z.heap ht103 := extW O99 Wt103 fr_ob86
    show Goes p e below _ (Tt103.setTop (mkF m 269 #[.val (.int p0), .val (.int p1), .val (.int p2), .val (.int p3), .val (.int p4), .val (.int p5), .val (.int ca.toInt32), .val (.int cb.toInt32), .val (.int cc.toInt32), .val (.int cd.toInt32), .val (.int it.toInt32), .val (.int mk.toInt32), .val (.ref ob2), .val (.ref ob17), .val (.ref ob48), .val (.ref ob86), .unset] []))
    refine gAload Xt103 hx (hb hby at_269) rfl rfl ?_
    refine gIconst Xt103 hx (hb hby at_271) (v := (3 : Int32)) rfl ?_
    refine gIconst Xt103 hx (hb hby at_272) (v := (3 : Int32)) rfl ?_
    refine gIload Xt103 hx (hb hby at_273) rfl ?_
    refine gIload Xt103 hx (hb hby at_275) rfl ?_
    refine gIload Xt103 hx (hb hby at_277) rfl ?_
    refine gIload Xt103 hx (hb hby at_279) rfl ?_
    show Goes p e below _ (Tt103.setTop (mkF m 281 #[.val (.int p0), .val (.int p1), .val (.int p2), .val (.int p3), .val (.int p4), .val (.int p5), .val (.int ca.toInt32), .val (.int cb.toInt32), .val (.int cc.toInt32), .val (.int cd.toInt32), .val (.int it.toInt32), .val (.int mk.toInt32), .val (.ref ob2), .val (.ref ob17), .val (.ref ob48), .val (.ref ob86), .unset] [(.int cd.toInt32), (.int cc.toInt32), (.int cb.toInt32), (.int ca.toInt32), (.int (3 : Int32)), (.int (3 : Int32)), (.ref ob86)]))
    show Goes p e below _ (Tt103.setTop (mkF m 281 #[.val (.int p0), .val (.int p1), .val (.int p2), .val (.int p3), .val (.int p4), .val (.int p5), .val (.int ca.toInt32), .val (.int cb.toInt32), .val (.int cc.toInt32), .val (.int cd.toInt32), .val (.int it.toInt32), .val (.int mk.toInt32), .val (.ref ob2), .val (.ref ob17), .val (.ref ob48), .val (.ref ob86), .unset] [(.int cd.toInt32), (.int cc.toInt32), (.int cb.toInt32), (.int ca.toInt32), (.int (3 : Nat).toInt32), (.int (3 : Int32)), (.ref ob86)]))
    refine goCallS Xt103 hx hZ hown (hw _ (List.mem_of_getElem? (i := 88) rfl)) (hw _ (List.mem_of_getElem? (i := 89) rfl)) (hw _ (List.mem_of_getElem? (i := 90) rfl)) (hw _ (List.mem_of_getElem? (i := 91) rfl)) (by decide) (rmB l Z a0 hw (3 : Nat).toInt32 ca.toInt32 cb.toInt32 cc.toInt32 cd.toInt32 ht103 O105) 2 (by decide) (by decide) et103 (hsz rfl) [(.int (3 : Nat).toInt32), (.int ca.toInt32), (.int cb.toInt32), (.int cc.toInt32), (.int cd.toInt32)] [(.int (3 : Int32)), (.ref ob86)] pd_9 rfl rfl rfl (Nat.le_of_eq rfl) (hb hby at_281) (by decide) (by decide) (fun Tt106 vt106 Lt106 Xt106 qt106 => ?_)
    obtain ⟨rfl, N107, et106⟩ := qt106
    have N108 := Fr.app N104 N107
    show Goes p e below _ (Tt106.setTop (mkF m 284 #[.val (.int p0), .val (.int p1), .val (.int p2), .val (.int p3), .val (.int p4), .val (.int p5), .val (.int ca.toInt32), .val (.int cb.toInt32), .val (.int cc.toInt32), .val (.int cd.toInt32), .val (.int it.toInt32), .val (.int mk.toInt32), .val (.ref ob2), .val (.ref ob17), .val (.ref ob48), .val (.ref ob86), .unset] [(.int (own_l2 (3 : Nat).toInt32 ca.toInt32 cb.toInt32 cc.toInt32 cd.toInt32)), (.int (3 : Int32)), (.ref ob86)]))
    rw [El 3 (by decide)]
    show Goes p e below _ (Tt106.setTop (mkF m 284 #[.val (.int p0), .val (.int p1), .val (.int p2), .val (.int p3), .val (.int p4), .val (.int p5), .val (.int ca.toInt32), .val (.int cb.toInt32), .val (.int cc.toInt32), .val (.int cd.toInt32), .val (.int it.toInt32), .val (.int mk.toInt32), .val (.ref ob2), .val (.ref ob17), .val (.ref ob48), .val (.ref ob86), .unset] [(.int (r2 3).toInt32), (.int (3 : Int32)), (.ref ob86)]))
    refine goIastore Xt106 hx hZ et106 Y_ob86 (hb hby at_284) (by decide) rfl (fun Tt109 ht109 Xt109 et109 Wt109 => ?_)
    have N110 := Fr.snoc Xt109 N108 fr_ob86
    replace Y_ob86 : Ary Z ht109 ob86 .int [(.int (r2 0).toInt32), (.int (r2 1).toInt32), (.int (r2 2).toInt32), (.int (r2 3).toInt32), (.int (0 : Int32))] := Y_ob86.set Wt109 rfl
    replace At1 := At1.wr Wt109
    replace Fp := Fp.other Wt109 (Or.inl ne_ob2_ob86)
    replace At16 := At16.wr Wt109
    replace Fw := Fw.other Wt109 (Or.inl ne_ob17_ob86)
    replace Fu := Fu.other Wt109 (Or.inl ne_ob17_ob86)
    replace Yw := Yw.other Wt109 ne_ua_ob86
    replace Y_ob48 := Y_ob48.other Wt109 ne_ob48_ob86
    replace Y14_ := Y14_.other Wt109 ne_u_ob86
    have O111 : Ext Z.heap ht109 := extW O105 Wt109 fr_ob86
    show Goes p e below _ (Tt109.setTop (mkF m 285 #[.val (.int p0), .val (.int p1), .val (.int p2), .val (.int p3), .val (.int p4), .val (.int p5), .val (.int ca.toInt32), .val (.int cb.toInt32), .val (.int cc.toInt32), .val (.int cd.toInt32), .val (.int it.toInt32), .val (.int mk.toInt32), .val (.ref ob2), .val (.ref ob17), .val (.ref ob48), .val (.ref ob86), .unset] []))
    refine gAload Xt109 hx (hb hby at_285) rfl rfl ?_
    refine gIconst Xt109 hx (hb hby at_287) (v := (4 : Int32)) rfl ?_
    refine gIconst Xt109 hx (hb hby at_288) (v := (4 : Int32)) rfl ?_
    refine gIload Xt109 hx (hb hby at_289) rfl ?_
    refine gIload Xt109 hx (hb hby at_291) rfl ?_
    refine gIload Xt109 hx (hb hby at_293) rfl ?_
    refine gIload Xt109 hx (hb hby at_295) rfl ?_
    show Goes p e below _ (Tt109.setTop (mkF m 297 #[.val (.int p0), .val (.int p1), .val (.int p2), .val (.int p3), .val (.int p4), .val (.int p5), .val (.int ca.toInt32), .val (.int cb.toInt32), .val (.int cc.toInt32), .val (.int cd.toInt32), .val (.int it.toInt32), .val (.int mk.toInt32), .val (.ref ob2), .val (.ref ob17), .val (.ref ob48), .val (.ref ob86), .unset] [(.int cd.toInt32), (.int cc.toInt32), (.int cb.toInt32), (.int ca.toInt32), (.int (4 : Int32)), (.int (4 : Int32)), (.ref ob86)]))
    show Goes p e below _ (Tt109.setTop (mkF m 297 #[.val (.int p0), .val (.int p1), .val (.int p2), .val (.int p3), .val (.int p4), .val (.int p5), .val (.int ca.toInt32), .val (.int cb.toInt32), .val (.int cc.toInt32), .val (.int cd.toInt32), .val (.int it.toInt32), .val (.int mk.toInt32), .val (.ref ob2), .val (.ref ob17), .val (.ref ob48), .val (.ref ob86), .unset] [(.int cd.toInt32), (.int cc.toInt32), (.int cb.toInt32), (.int ca.toInt32), (.int (4 : Nat).toInt32), (.int (4 : Int32)), (.ref ob86)]))
    refine goCallS Xt109 hx hZ hown (hw _ (List.mem_of_getElem? (i := 88) rfl)) (hw _ (List.mem_of_getElem? (i := 89) rfl)) (hw _ (List.mem_of_getElem? (i := 90) rfl)) (hw _ (List.mem_of_getElem? (i := 91) rfl)) (by decide) (rmB l Z a0 hw (4 : Nat).toInt32 ca.toInt32 cb.toInt32 cc.toInt32 cd.toInt32 ht109 O111) 2 (by decide) (by decide) et109 (hsz rfl) [(.int (4 : Nat).toInt32), (.int ca.toInt32), (.int cb.toInt32), (.int cc.toInt32), (.int cd.toInt32)] [(.int (4 : Int32)), (.ref ob86)] pd_9 rfl rfl rfl (Nat.le_of_eq rfl) (hb hby at_297) (by decide) (by decide) (fun Tt112 vt112 Lt112 Xt112 qt112 => ?_)
    obtain ⟨rfl, N113, et112⟩ := qt112
    have N114 := Fr.app N110 N113
    show Goes p e below _ (Tt112.setTop (mkF m 300 #[.val (.int p0), .val (.int p1), .val (.int p2), .val (.int p3), .val (.int p4), .val (.int p5), .val (.int ca.toInt32), .val (.int cb.toInt32), .val (.int cc.toInt32), .val (.int cd.toInt32), .val (.int it.toInt32), .val (.int mk.toInt32), .val (.ref ob2), .val (.ref ob17), .val (.ref ob48), .val (.ref ob86), .unset] [(.int (own_l2 (4 : Nat).toInt32 ca.toInt32 cb.toInt32 cc.toInt32 cd.toInt32)), (.int (4 : Int32)), (.ref ob86)]))
    rw [El 4 (by decide)]
    show Goes p e below _ (Tt112.setTop (mkF m 300 #[.val (.int p0), .val (.int p1), .val (.int p2), .val (.int p3), .val (.int p4), .val (.int p5), .val (.int ca.toInt32), .val (.int cb.toInt32), .val (.int cc.toInt32), .val (.int cd.toInt32), .val (.int it.toInt32), .val (.int mk.toInt32), .val (.ref ob2), .val (.ref ob17), .val (.ref ob48), .val (.ref ob86), .unset] [(.int (r2 4).toInt32), (.int (4 : Int32)), (.ref ob86)]))
    refine goIastore Xt112 hx hZ et112 Y_ob86 (hb hby at_300) (by decide) rfl (fun Tt115 ht115 Xt115 et115 Wt115 => ?_)
    have N116 := Fr.snoc Xt115 N114 fr_ob86
    replace Y_ob86 : Ary Z ht115 ob86 .int [(.int (r2 0).toInt32), (.int (r2 1).toInt32), (.int (r2 2).toInt32), (.int (r2 3).toInt32), (.int (r2 4).toInt32)] := Y_ob86.set Wt115 rfl
    replace At1 := At1.wr Wt115
    replace Fp := Fp.other Wt115 (Or.inl ne_ob2_ob86)
    replace At16 := At16.wr Wt115
    replace Fw := Fw.other Wt115 (Or.inl ne_ob17_ob86)
    replace Fu := Fu.other Wt115 (Or.inl ne_ob17_ob86)
    replace Yw := Yw.other Wt115 ne_ua_ob86
    replace Y_ob48 := Y_ob48.other Wt115 ne_ob48_ob86
    replace Y14_ := Y14_.other Wt115 ne_u_ob86
    have O117 : Ext Z.heap ht115 := extW O111 Wt115 fr_ob86
    show Goes p e below _ (Tt115.setTop (mkF m 301 #[.val (.int p0), .val (.int p1), .val (.int p2), .val (.int p3), .val (.int p4), .val (.int p5), .val (.int ca.toInt32), .val (.int cb.toInt32), .val (.int cc.toInt32), .val (.int cd.toInt32), .val (.int it.toInt32), .val (.int mk.toInt32), .val (.ref ob2), .val (.ref ob17), .val (.ref ob48), .val (.ref ob86), .unset] []))
    refine gAload Xt115 hx (hb hby at_301) rfl rfl ?_
    refine gIconst Xt115 hx (hb hby at_303) (v := (0 : Int32)) rfl ?_
    refine gIload Xt115 hx (hb hby at_304) rfl ?_
    refine gIload Xt115 hx (hb hby at_306) rfl ?_
    refine gAload Xt115 hx (hb hby at_308) rfl rfl ?_
    have hl : ∀ x, x < 5 → r2 x < 5 := fun x hx => (Ij1.2 x hx).1
    have hl2 : ∀ x, x < 5 → r2 (r2 x) = r2 x := fun x hx => (Ij1.2 x hx).2.1
    have hRl : ∀ x, x < 5 → R x < 5 := fun x hx => (I9.2 x hx).1
    have vl : ∀ x, x < 5 → [Value.int (r2 0).toInt32, .int (r2 1).toInt32, .int (r2 2).toInt32, .int (r2 3).toInt32, .int (r2 4).toInt32][x.toInt32.toNatClampNeg]? = some (.int (r2 x).toInt32) := fun x hx => own_at5 (fun i => Value.int (r2 i).toInt32) hx
    have vR : ∀ x, x < 5 → [Value.int (R 0).toInt32, .int (R 1).toInt32, .int (R 2).toInt32, .int (R 3).toInt32, .int (R 4).toInt32][x.toInt32.toNatClampNeg]? = some (.int (R x).toInt32) := fun x hx => own_at5 (fun i => Value.int (R i).toInt32) hx
    have nn : ∀ x, x < 5 → ¬ x.toInt32 < 0 := fun x hx => own_nn (by omega)
    have lt5 : ∀ x, x < 5 → x.toInt32 < 5 := fun x hx => by
      rw [Int32.lt_iff_toInt_lt, len_toInt (by omega)]
      show (x : Int) < 5
      omega
    have hSr : ∀ x, x < 5 → own_PS (r2 x).toInt32 (r2 (R x)).toInt32 (r2 it).toInt32 mk.toInt32 (r2 0).toInt32 (r2 1).toInt32 (r2 2).toInt32 (r2 3).toInt32 (r2 4).toInt32 := fun x hx => (own_PSS hl lit lmk hx (hRl x hx)).mpr (by rw [hR]; exact own_rootS hl2 lit hx)
    have hSp : ∀ x y, x < 5 → y < 5 → ((R x).toInt32 = (R y).toInt32 ↔ own_PS (r2 x).toInt32 (r2 y).toInt32 (r2 it).toInt32 mk.toInt32 (r2 0).toInt32 (r2 1).toInt32 (r2 2).toInt32 (r2 3).toInt32 (r2 4).toInt32) := fun x y hx hy => by
      rw [own_inj (by have := hRl x hx; omega) (by have := hRl y hy; omega), own_PSS hl lit lmk hx hy, hR]
      exact own_pairS
    show Goes p e below _ (Tt115.setTop (mkF m 310 #[.val (.int p0), .val (.int p1), .val (.int p2), .val (.int p3), .val (.int p4), .val (.int p5), .val (.int ca.toInt32), .val (.int cb.toInt32), .val (.int cc.toInt32), .val (.int cd.toInt32), .val (.int it.toInt32), .val (.int mk.toInt32), .val (.ref ob2), .val (.ref ob17), .val (.ref ob48), .val (.ref ob86), .unset] [(.ref ob86), (.int mk.toInt32), (.int it.toInt32), (.int (0 : Nat).toInt32), (.ref ob48)]))
    refine goCallS Xt115 hx hZ hown (hw _ (List.mem_of_getElem? (i := 95) rfl)) (hw _ (List.mem_of_getElem? (i := 96) rfl)) (hw _ (List.mem_of_getElem? (i := 90) rfl)) (hw _ (List.mem_of_getElem? (i := 97) rfl)) (by decide) (rmR l Z a0 hw (r2 0).toInt32 (r2 (R 0)).toInt32 (r2 it).toInt32 (R 0).toInt32 (r2 0).toInt32 (r2 1).toInt32 (r2 2).toInt32 (r2 3).toInt32 (r2 4).toInt32 (R 0).toInt32 (R 1).toInt32 (R 2).toInt32 (R 3).toInt32 (R 4).toInt32 ob48 (0 : Nat).toInt32 it.toInt32 mk.toInt32 ob86 ht115 O117 Y_ob48 Y_ob86 (nn it lit) (vl it lit) (nn 0 (by decide)) (vl 0 (by decide)) (vR 0 (by decide)) (nn _ (hRl 0 (by decide))) (lt5 _ (hRl 0 (by decide))) (vl _ (hRl 0 (by decide))) (hSr 0 (by decide))) 0 (by decide) (by decide) et115 (hsz rfl) [(.ref ob48), (.int (0 : Nat).toInt32), (.int it.toInt32), (.int mk.toInt32), (.ref ob86)] [] pd_10 rfl rfl rfl (Nat.le_of_eq rfl) (hb hby at_310) (by decide) (by decide) (fun Tt118 vt118 Lt118 Xt118 qt118 => ?_)
    obtain ⟨rfl, N119, et118⟩ := qt118
    have N120 := Fr.app N116 N119
    show Goes p e below _ (Tt118.setTop (mkF m 313 #[.val (.int p0), .val (.int p1), .val (.int p2), .val (.int p3), .val (.int p4), .val (.int p5), .val (.int ca.toInt32), .val (.int cb.toInt32), .val (.int cc.toInt32), .val (.int cd.toInt32), .val (.int it.toInt32), .val (.int mk.toInt32), .val (.ref ob2), .val (.ref ob17), .val (.ref ob48), .val (.ref ob86), .unset] [(.int (1 : Int32))]))
    refine gIfN Xt118 hx (hb hby at_313) (XT.i0_eq_f (by decide)) ?_
    show Goes p e below _ (Tt118.setTop (mkF m 316 #[.val (.int p0), .val (.int p1), .val (.int p2), .val (.int p3), .val (.int p4), .val (.int p5), .val (.int ca.toInt32), .val (.int cb.toInt32), .val (.int cc.toInt32), .val (.int cd.toInt32), .val (.int it.toInt32), .val (.int mk.toInt32), .val (.ref ob2), .val (.ref ob17), .val (.ref ob48), .val (.ref ob86), .unset] []))
    refine gAload Xt118 hx (hb hby at_316) rfl rfl ?_
    refine gIconst Xt118 hx (hb hby at_318) (v := (1 : Int32)) rfl ?_
    refine gIload Xt118 hx (hb hby at_319) rfl ?_
    refine gIload Xt118 hx (hb hby at_321) rfl ?_
    refine gAload Xt118 hx (hb hby at_323) rfl rfl ?_
    show Goes p e below _ (Tt118.setTop (mkF m 325 #[.val (.int p0), .val (.int p1), .val (.int p2), .val (.int p3), .val (.int p4), .val (.int p5), .val (.int ca.toInt32), .val (.int cb.toInt32), .val (.int cc.toInt32), .val (.int cd.toInt32), .val (.int it.toInt32), .val (.int mk.toInt32), .val (.ref ob2), .val (.ref ob17), .val (.ref ob48), .val (.ref ob86), .unset] [(.ref ob86), (.int mk.toInt32), (.int it.toInt32), (.int (1 : Nat).toInt32), (.ref ob48)]))
    refine goCallS Xt118 hx hZ hown (hw _ (List.mem_of_getElem? (i := 95) rfl)) (hw _ (List.mem_of_getElem? (i := 96) rfl)) (hw _ (List.mem_of_getElem? (i := 90) rfl)) (hw _ (List.mem_of_getElem? (i := 97) rfl)) (by decide) (rmR l Z a0 hw (r2 1).toInt32 (r2 (R 1)).toInt32 (r2 it).toInt32 (R 1).toInt32 (r2 0).toInt32 (r2 1).toInt32 (r2 2).toInt32 (r2 3).toInt32 (r2 4).toInt32 (R 0).toInt32 (R 1).toInt32 (R 2).toInt32 (R 3).toInt32 (R 4).toInt32 ob48 (1 : Nat).toInt32 it.toInt32 mk.toInt32 ob86 ht115 O117 Y_ob48 Y_ob86 (nn it lit) (vl it lit) (nn 1 (by decide)) (vl 1 (by decide)) (vR 1 (by decide)) (nn _ (hRl 1 (by decide))) (lt5 _ (hRl 1 (by decide))) (vl _ (hRl 1 (by decide))) (hSr 1 (by decide))) 0 (by decide) (by decide) et118 (hsz rfl) [(.ref ob48), (.int (1 : Nat).toInt32), (.int it.toInt32), (.int mk.toInt32), (.ref ob86)] [] pd_10 rfl rfl rfl (Nat.le_of_eq rfl) (hb hby at_325) (by decide) (by decide) (fun Tt121 vt121 Lt121 Xt121 qt121 => ?_)
    obtain ⟨rfl, N122, et121⟩ := qt121
    have N123 := Fr.app N120 N122
    show Goes p e below _ (Tt121.setTop (mkF m 328 #[.val (.int p0), .val (.int p1), .val (.int p2), .val (.int p3), .val (.int p4), .val (.int p5), .val (.int ca.toInt32), .val (.int cb.toInt32), .val (.int cc.toInt32), .val (.int cd.toInt32), .val (.int it.toInt32), .val (.int mk.toInt32), .val (.ref ob2), .val (.ref ob17), .val (.ref ob48), .val (.ref ob86), .unset] [(.int (1 : Int32))]))
    refine gIfN Xt121 hx (hb hby at_328) (XT.i0_eq_f (by decide)) ?_
    show Goes p e below _ (Tt121.setTop (mkF m 331 #[.val (.int p0), .val (.int p1), .val (.int p2), .val (.int p3), .val (.int p4), .val (.int p5), .val (.int ca.toInt32), .val (.int cb.toInt32), .val (.int cc.toInt32), .val (.int cd.toInt32), .val (.int it.toInt32), .val (.int mk.toInt32), .val (.ref ob2), .val (.ref ob17), .val (.ref ob48), .val (.ref ob86), .unset] []))
    refine gAload Xt121 hx (hb hby at_331) rfl rfl ?_
    refine gIconst Xt121 hx (hb hby at_333) (v := (2 : Int32)) rfl ?_
    refine gIload Xt121 hx (hb hby at_334) rfl ?_
    refine gIload Xt121 hx (hb hby at_336) rfl ?_
    refine gAload Xt121 hx (hb hby at_338) rfl rfl ?_
    show Goes p e below _ (Tt121.setTop (mkF m 340 #[.val (.int p0), .val (.int p1), .val (.int p2), .val (.int p3), .val (.int p4), .val (.int p5), .val (.int ca.toInt32), .val (.int cb.toInt32), .val (.int cc.toInt32), .val (.int cd.toInt32), .val (.int it.toInt32), .val (.int mk.toInt32), .val (.ref ob2), .val (.ref ob17), .val (.ref ob48), .val (.ref ob86), .unset] [(.ref ob86), (.int mk.toInt32), (.int it.toInt32), (.int (2 : Nat).toInt32), (.ref ob48)]))
    refine goCallS Xt121 hx hZ hown (hw _ (List.mem_of_getElem? (i := 95) rfl)) (hw _ (List.mem_of_getElem? (i := 96) rfl)) (hw _ (List.mem_of_getElem? (i := 90) rfl)) (hw _ (List.mem_of_getElem? (i := 97) rfl)) (by decide) (rmR l Z a0 hw (r2 2).toInt32 (r2 (R 2)).toInt32 (r2 it).toInt32 (R 2).toInt32 (r2 0).toInt32 (r2 1).toInt32 (r2 2).toInt32 (r2 3).toInt32 (r2 4).toInt32 (R 0).toInt32 (R 1).toInt32 (R 2).toInt32 (R 3).toInt32 (R 4).toInt32 ob48 (2 : Nat).toInt32 it.toInt32 mk.toInt32 ob86 ht115 O117 Y_ob48 Y_ob86 (nn it lit) (vl it lit) (nn 2 (by decide)) (vl 2 (by decide)) (vR 2 (by decide)) (nn _ (hRl 2 (by decide))) (lt5 _ (hRl 2 (by decide))) (vl _ (hRl 2 (by decide))) (hSr 2 (by decide))) 0 (by decide) (by decide) et121 (hsz rfl) [(.ref ob48), (.int (2 : Nat).toInt32), (.int it.toInt32), (.int mk.toInt32), (.ref ob86)] [] pd_10 rfl rfl rfl (Nat.le_of_eq rfl) (hb hby at_340) (by decide) (by decide) (fun Tt124 vt124 Lt124 Xt124 qt124 => ?_)
    obtain ⟨rfl, N125, et124⟩ := qt124
    have N126 := Fr.app N123 N125
    show Goes p e below _ (Tt124.setTop (mkF m 343 #[.val (.int p0), .val (.int p1), .val (.int p2), .val (.int p3), .val (.int p4), .val (.int p5), .val (.int ca.toInt32), .val (.int cb.toInt32), .val (.int cc.toInt32), .val (.int cd.toInt32), .val (.int it.toInt32), .val (.int mk.toInt32), .val (.ref ob2), .val (.ref ob17), .val (.ref ob48), .val (.ref ob86), .unset] [(.int (1 : Int32))]))
    refine gIfN Xt124 hx (hb hby at_343) (XT.i0_eq_f (by decide)) ?_
    show Goes p e below _ (Tt124.setTop (mkF m 346 #[.val (.int p0), .val (.int p1), .val (.int p2), .val (.int p3), .val (.int p4), .val (.int p5), .val (.int ca.toInt32), .val (.int cb.toInt32), .val (.int cc.toInt32), .val (.int cd.toInt32), .val (.int it.toInt32), .val (.int mk.toInt32), .val (.ref ob2), .val (.ref ob17), .val (.ref ob48), .val (.ref ob86), .unset] []))
    refine gAload Xt124 hx (hb hby at_346) rfl rfl ?_
    refine gIconst Xt124 hx (hb hby at_348) (v := (3 : Int32)) rfl ?_
    refine gIload Xt124 hx (hb hby at_349) rfl ?_
    refine gIload Xt124 hx (hb hby at_351) rfl ?_
    refine gAload Xt124 hx (hb hby at_353) rfl rfl ?_
    show Goes p e below _ (Tt124.setTop (mkF m 355 #[.val (.int p0), .val (.int p1), .val (.int p2), .val (.int p3), .val (.int p4), .val (.int p5), .val (.int ca.toInt32), .val (.int cb.toInt32), .val (.int cc.toInt32), .val (.int cd.toInt32), .val (.int it.toInt32), .val (.int mk.toInt32), .val (.ref ob2), .val (.ref ob17), .val (.ref ob48), .val (.ref ob86), .unset] [(.ref ob86), (.int mk.toInt32), (.int it.toInt32), (.int (3 : Nat).toInt32), (.ref ob48)]))
    refine goCallS Xt124 hx hZ hown (hw _ (List.mem_of_getElem? (i := 95) rfl)) (hw _ (List.mem_of_getElem? (i := 96) rfl)) (hw _ (List.mem_of_getElem? (i := 90) rfl)) (hw _ (List.mem_of_getElem? (i := 97) rfl)) (by decide) (rmR l Z a0 hw (r2 3).toInt32 (r2 (R 3)).toInt32 (r2 it).toInt32 (R 3).toInt32 (r2 0).toInt32 (r2 1).toInt32 (r2 2).toInt32 (r2 3).toInt32 (r2 4).toInt32 (R 0).toInt32 (R 1).toInt32 (R 2).toInt32 (R 3).toInt32 (R 4).toInt32 ob48 (3 : Nat).toInt32 it.toInt32 mk.toInt32 ob86 ht115 O117 Y_ob48 Y_ob86 (nn it lit) (vl it lit) (nn 3 (by decide)) (vl 3 (by decide)) (vR 3 (by decide)) (nn _ (hRl 3 (by decide))) (lt5 _ (hRl 3 (by decide))) (vl _ (hRl 3 (by decide))) (hSr 3 (by decide))) 0 (by decide) (by decide) et124 (hsz rfl) [(.ref ob48), (.int (3 : Nat).toInt32), (.int it.toInt32), (.int mk.toInt32), (.ref ob86)] [] pd_10 rfl rfl rfl (Nat.le_of_eq rfl) (hb hby at_355) (by decide) (by decide) (fun Tt127 vt127 Lt127 Xt127 qt127 => ?_)
    obtain ⟨rfl, N128, et127⟩ := qt127
    have N129 := Fr.app N126 N128
    show Goes p e below _ (Tt127.setTop (mkF m 358 #[.val (.int p0), .val (.int p1), .val (.int p2), .val (.int p3), .val (.int p4), .val (.int p5), .val (.int ca.toInt32), .val (.int cb.toInt32), .val (.int cc.toInt32), .val (.int cd.toInt32), .val (.int it.toInt32), .val (.int mk.toInt32), .val (.ref ob2), .val (.ref ob17), .val (.ref ob48), .val (.ref ob86), .unset] [(.int (1 : Int32))]))
    refine gIfN Xt127 hx (hb hby at_358) (XT.i0_eq_f (by decide)) ?_
    show Goes p e below _ (Tt127.setTop (mkF m 361 #[.val (.int p0), .val (.int p1), .val (.int p2), .val (.int p3), .val (.int p4), .val (.int p5), .val (.int ca.toInt32), .val (.int cb.toInt32), .val (.int cc.toInt32), .val (.int cd.toInt32), .val (.int it.toInt32), .val (.int mk.toInt32), .val (.ref ob2), .val (.ref ob17), .val (.ref ob48), .val (.ref ob86), .unset] []))
    refine gAload Xt127 hx (hb hby at_361) rfl rfl ?_
    refine gIconst Xt127 hx (hb hby at_363) (v := (4 : Int32)) rfl ?_
    refine gIload Xt127 hx (hb hby at_364) rfl ?_
    refine gIload Xt127 hx (hb hby at_366) rfl ?_
    refine gAload Xt127 hx (hb hby at_368) rfl rfl ?_
    show Goes p e below _ (Tt127.setTop (mkF m 370 #[.val (.int p0), .val (.int p1), .val (.int p2), .val (.int p3), .val (.int p4), .val (.int p5), .val (.int ca.toInt32), .val (.int cb.toInt32), .val (.int cc.toInt32), .val (.int cd.toInt32), .val (.int it.toInt32), .val (.int mk.toInt32), .val (.ref ob2), .val (.ref ob17), .val (.ref ob48), .val (.ref ob86), .unset] [(.ref ob86), (.int mk.toInt32), (.int it.toInt32), (.int (4 : Nat).toInt32), (.ref ob48)]))
    refine goCallS Xt127 hx hZ hown (hw _ (List.mem_of_getElem? (i := 95) rfl)) (hw _ (List.mem_of_getElem? (i := 96) rfl)) (hw _ (List.mem_of_getElem? (i := 90) rfl)) (hw _ (List.mem_of_getElem? (i := 97) rfl)) (by decide) (rmR l Z a0 hw (r2 4).toInt32 (r2 (R 4)).toInt32 (r2 it).toInt32 (R 4).toInt32 (r2 0).toInt32 (r2 1).toInt32 (r2 2).toInt32 (r2 3).toInt32 (r2 4).toInt32 (R 0).toInt32 (R 1).toInt32 (R 2).toInt32 (R 3).toInt32 (R 4).toInt32 ob48 (4 : Nat).toInt32 it.toInt32 mk.toInt32 ob86 ht115 O117 Y_ob48 Y_ob86 (nn it lit) (vl it lit) (nn 4 (by decide)) (vl 4 (by decide)) (vR 4 (by decide)) (nn _ (hRl 4 (by decide))) (lt5 _ (hRl 4 (by decide))) (vl _ (hRl 4 (by decide))) (hSr 4 (by decide))) 0 (by decide) (by decide) et127 (hsz rfl) [(.ref ob48), (.int (4 : Nat).toInt32), (.int it.toInt32), (.int mk.toInt32), (.ref ob86)] [] pd_10 rfl rfl rfl (Nat.le_of_eq rfl) (hb hby at_370) (by decide) (by decide) (fun Tt130 vt130 Lt130 Xt130 qt130 => ?_)
    obtain ⟨rfl, N131, et130⟩ := qt130
    have N132 := Fr.app N129 N131
    show Goes p e below _ (Tt130.setTop (mkF m 373 #[.val (.int p0), .val (.int p1), .val (.int p2), .val (.int p3), .val (.int p4), .val (.int p5), .val (.int ca.toInt32), .val (.int cb.toInt32), .val (.int cc.toInt32), .val (.int cd.toInt32), .val (.int it.toInt32), .val (.int mk.toInt32), .val (.ref ob2), .val (.ref ob17), .val (.ref ob48), .val (.ref ob86), .unset] [(.int (1 : Int32))]))
    refine gIfN Xt130 hx (hb hby at_373) (XT.i0_eq_f (by decide)) ?_
    show Goes p e below _ (Tt130.setTop (mkF m 376 #[.val (.int p0), .val (.int p1), .val (.int p2), .val (.int p3), .val (.int p4), .val (.int p5), .val (.int ca.toInt32), .val (.int cb.toInt32), .val (.int cc.toInt32), .val (.int cd.toInt32), .val (.int it.toInt32), .val (.int mk.toInt32), .val (.ref ob2), .val (.ref ob17), .val (.ref ob48), .val (.ref ob86), .unset] []))
    refine gIconst Xt130 hx (hb hby at_376) (v := (1 : Int32)) rfl ?_
    refine gGoto Xt130 hx (hb hby at_377) (pc' := 381) (by decide) (by decide) ?_
    show Goes p e below _ (Tt130.setTop (mkF m 381 #[.val (.int p0), .val (.int p1), .val (.int p2), .val (.int p3), .val (.int p4), .val (.int p5), .val (.int ca.toInt32), .val (.int cb.toInt32), .val (.int cc.toInt32), .val (.int cd.toInt32), .val (.int it.toInt32), .val (.int mk.toInt32), .val (.ref ob2), .val (.ref ob17), .val (.ref ob48), .val (.ref ob86), .unset] [(.int (1 : Int32))]))
    refine gIstore Xt130 hx (hb hby at_381) (l' := #[.val (.int p0), .val (.int p1), .val (.int p2), .val (.int p3), .val (.int p4), .val (.int p5), .val (.int ca.toInt32), .val (.int cb.toInt32), .val (.int cc.toInt32), .val (.int cd.toInt32), .val (.int it.toInt32), .val (.int mk.toInt32), .val (.ref ob2), .val (.ref ob17), .val (.ref ob48), .val (.ref ob86), .val (.int (1 : Int32))]) rfl ?_
    refine gIload Xt130 hx (hb hby at_383) rfl ?_
    refine gIfY Xt130 hx (hb hby at_385) (pc' := 390) (XT.i0_ne_t (by decide)) (by decide) (by decide) ?_
    show Goes p e below _ (Tt130.setTop (mkF m 390 #[.val (.int p0), .val (.int p1), .val (.int p2), .val (.int p3), .val (.int p4), .val (.int p5), .val (.int ca.toInt32), .val (.int cb.toInt32), .val (.int cc.toInt32), .val (.int cd.toInt32), .val (.int it.toInt32), .val (.int mk.toInt32), .val (.ref ob2), .val (.ref ob17), .val (.ref ob48), .val (.ref ob86), .val (.int (1 : Int32))] []))
    refine gAload Xt130 hx (hb hby at_390) rfl rfl ?_
    refine gIconst Xt130 hx (hb hby at_392) (v := (0 : Int32)) rfl ?_
    refine gIconst Xt130 hx (hb hby at_393) (v := (1 : Int32)) rfl ?_
    refine gIload Xt130 hx (hb hby at_394) rfl ?_
    refine gIload Xt130 hx (hb hby at_396) rfl ?_
    refine gAload Xt130 hx (hb hby at_398) rfl rfl ?_
    show Goes p e below _ (Tt130.setTop (mkF m 400 #[.val (.int p0), .val (.int p1), .val (.int p2), .val (.int p3), .val (.int p4), .val (.int p5), .val (.int ca.toInt32), .val (.int cb.toInt32), .val (.int cc.toInt32), .val (.int cd.toInt32), .val (.int it.toInt32), .val (.int mk.toInt32), .val (.ref ob2), .val (.ref ob17), .val (.ref ob48), .val (.ref ob86), .val (.int (1 : Int32))] [(.ref ob86), (.int mk.toInt32), (.int it.toInt32), (.int (1 : Nat).toInt32), (.int (0 : Nat).toInt32), (.ref ob48)]))
    refine goCallS Xt130 hx hZ hown (hw _ (List.mem_of_getElem? (i := 104) rfl)) (hw _ (List.mem_of_getElem? (i := 105) rfl)) (hw _ (List.mem_of_getElem? (i := 90) rfl)) (hw _ (List.mem_of_getElem? (i := 106) rfl)) (by decide) (rmP l Z a0 hw (r2 0).toInt32 (r2 1).toInt32 (r2 it).toInt32 (R 0).toInt32 (R 1).toInt32 (r2 0).toInt32 (r2 1).toInt32 (r2 2).toInt32 (r2 3).toInt32 (r2 4).toInt32 (R 0).toInt32 (R 1).toInt32 (R 2).toInt32 (R 3).toInt32 (R 4).toInt32 ob48 (0 : Nat).toInt32 (1 : Nat).toInt32 it.toInt32 mk.toInt32 ob86 ht115 O117 Y_ob48 Y_ob86 (nn it lit) (vl it lit) (nn 0 (by decide)) (vl 0 (by decide)) (vR 0 (by decide)) (nn 1 (by decide)) (vl 1 (by decide)) (vR 1 (by decide)) (hSp 0 1 (by decide) (by decide))) 0 (by decide) (by decide) et130 (hsz rfl) [(.ref ob48), (.int (0 : Nat).toInt32), (.int (1 : Nat).toInt32), (.int it.toInt32), (.int mk.toInt32), (.ref ob86)] [] pd_11 rfl rfl rfl (Nat.le_of_eq rfl) (hb hby at_400) (by decide) (by decide) (fun Tt133 vt133 Lt133 Xt133 qt133 => ?_)
    obtain ⟨rfl, N134, et133⟩ := qt133
    have N135 := Fr.app N132 N134
    show Goes p e below _ (Tt133.setTop (mkF m 403 #[.val (.int p0), .val (.int p1), .val (.int p2), .val (.int p3), .val (.int p4), .val (.int p5), .val (.int ca.toInt32), .val (.int cb.toInt32), .val (.int cc.toInt32), .val (.int cd.toInt32), .val (.int it.toInt32), .val (.int mk.toInt32), .val (.ref ob2), .val (.ref ob17), .val (.ref ob48), .val (.ref ob86), .val (.int (1 : Int32))] [(.int (1 : Int32))]))
    refine gIfN Xt133 hx (hb hby at_403) (XT.i0_eq_f (by decide)) ?_
    show Goes p e below _ (Tt133.setTop (mkF m 406 #[.val (.int p0), .val (.int p1), .val (.int p2), .val (.int p3), .val (.int p4), .val (.int p5), .val (.int ca.toInt32), .val (.int cb.toInt32), .val (.int cc.toInt32), .val (.int cd.toInt32), .val (.int it.toInt32), .val (.int mk.toInt32), .val (.ref ob2), .val (.ref ob17), .val (.ref ob48), .val (.ref ob86), .val (.int (1 : Int32))] []))
    refine gAload Xt133 hx (hb hby at_406) rfl rfl ?_
    refine gIconst Xt133 hx (hb hby at_408) (v := (0 : Int32)) rfl ?_
    refine gIconst Xt133 hx (hb hby at_409) (v := (2 : Int32)) rfl ?_
    refine gIload Xt133 hx (hb hby at_410) rfl ?_
    refine gIload Xt133 hx (hb hby at_412) rfl ?_
    refine gAload Xt133 hx (hb hby at_414) rfl rfl ?_
    show Goes p e below _ (Tt133.setTop (mkF m 416 #[.val (.int p0), .val (.int p1), .val (.int p2), .val (.int p3), .val (.int p4), .val (.int p5), .val (.int ca.toInt32), .val (.int cb.toInt32), .val (.int cc.toInt32), .val (.int cd.toInt32), .val (.int it.toInt32), .val (.int mk.toInt32), .val (.ref ob2), .val (.ref ob17), .val (.ref ob48), .val (.ref ob86), .val (.int (1 : Int32))] [(.ref ob86), (.int mk.toInt32), (.int it.toInt32), (.int (2 : Nat).toInt32), (.int (0 : Nat).toInt32), (.ref ob48)]))
    refine goCallS Xt133 hx hZ hown (hw _ (List.mem_of_getElem? (i := 104) rfl)) (hw _ (List.mem_of_getElem? (i := 105) rfl)) (hw _ (List.mem_of_getElem? (i := 90) rfl)) (hw _ (List.mem_of_getElem? (i := 106) rfl)) (by decide) (rmP l Z a0 hw (r2 0).toInt32 (r2 2).toInt32 (r2 it).toInt32 (R 0).toInt32 (R 2).toInt32 (r2 0).toInt32 (r2 1).toInt32 (r2 2).toInt32 (r2 3).toInt32 (r2 4).toInt32 (R 0).toInt32 (R 1).toInt32 (R 2).toInt32 (R 3).toInt32 (R 4).toInt32 ob48 (0 : Nat).toInt32 (2 : Nat).toInt32 it.toInt32 mk.toInt32 ob86 ht115 O117 Y_ob48 Y_ob86 (nn it lit) (vl it lit) (nn 0 (by decide)) (vl 0 (by decide)) (vR 0 (by decide)) (nn 2 (by decide)) (vl 2 (by decide)) (vR 2 (by decide)) (hSp 0 2 (by decide) (by decide))) 0 (by decide) (by decide) et133 (hsz rfl) [(.ref ob48), (.int (0 : Nat).toInt32), (.int (2 : Nat).toInt32), (.int it.toInt32), (.int mk.toInt32), (.ref ob86)] [] pd_11 rfl rfl rfl (Nat.le_of_eq rfl) (hb hby at_416) (by decide) (by decide) (fun Tt136 vt136 Lt136 Xt136 qt136 => ?_)
    obtain ⟨rfl, N137, et136⟩ := qt136
    have N138 := Fr.app N135 N137
    show Goes p e below _ (Tt136.setTop (mkF m 419 #[.val (.int p0), .val (.int p1), .val (.int p2), .val (.int p3), .val (.int p4), .val (.int p5), .val (.int ca.toInt32), .val (.int cb.toInt32), .val (.int cc.toInt32), .val (.int cd.toInt32), .val (.int it.toInt32), .val (.int mk.toInt32), .val (.ref ob2), .val (.ref ob17), .val (.ref ob48), .val (.ref ob86), .val (.int (1 : Int32))] [(.int (1 : Int32))]))
    refine gIfN Xt136 hx (hb hby at_419) (XT.i0_eq_f (by decide)) ?_
    show Goes p e below _ (Tt136.setTop (mkF m 422 #[.val (.int p0), .val (.int p1), .val (.int p2), .val (.int p3), .val (.int p4), .val (.int p5), .val (.int ca.toInt32), .val (.int cb.toInt32), .val (.int cc.toInt32), .val (.int cd.toInt32), .val (.int it.toInt32), .val (.int mk.toInt32), .val (.ref ob2), .val (.ref ob17), .val (.ref ob48), .val (.ref ob86), .val (.int (1 : Int32))] []))
    refine gAload Xt136 hx (hb hby at_422) rfl rfl ?_
    refine gIconst Xt136 hx (hb hby at_424) (v := (0 : Int32)) rfl ?_
    refine gIconst Xt136 hx (hb hby at_425) (v := (3 : Int32)) rfl ?_
    refine gIload Xt136 hx (hb hby at_426) rfl ?_
    refine gIload Xt136 hx (hb hby at_428) rfl ?_
    refine gAload Xt136 hx (hb hby at_430) rfl rfl ?_
    show Goes p e below _ (Tt136.setTop (mkF m 432 #[.val (.int p0), .val (.int p1), .val (.int p2), .val (.int p3), .val (.int p4), .val (.int p5), .val (.int ca.toInt32), .val (.int cb.toInt32), .val (.int cc.toInt32), .val (.int cd.toInt32), .val (.int it.toInt32), .val (.int mk.toInt32), .val (.ref ob2), .val (.ref ob17), .val (.ref ob48), .val (.ref ob86), .val (.int (1 : Int32))] [(.ref ob86), (.int mk.toInt32), (.int it.toInt32), (.int (3 : Nat).toInt32), (.int (0 : Nat).toInt32), (.ref ob48)]))
    refine goCallS Xt136 hx hZ hown (hw _ (List.mem_of_getElem? (i := 104) rfl)) (hw _ (List.mem_of_getElem? (i := 105) rfl)) (hw _ (List.mem_of_getElem? (i := 90) rfl)) (hw _ (List.mem_of_getElem? (i := 106) rfl)) (by decide) (rmP l Z a0 hw (r2 0).toInt32 (r2 3).toInt32 (r2 it).toInt32 (R 0).toInt32 (R 3).toInt32 (r2 0).toInt32 (r2 1).toInt32 (r2 2).toInt32 (r2 3).toInt32 (r2 4).toInt32 (R 0).toInt32 (R 1).toInt32 (R 2).toInt32 (R 3).toInt32 (R 4).toInt32 ob48 (0 : Nat).toInt32 (3 : Nat).toInt32 it.toInt32 mk.toInt32 ob86 ht115 O117 Y_ob48 Y_ob86 (nn it lit) (vl it lit) (nn 0 (by decide)) (vl 0 (by decide)) (vR 0 (by decide)) (nn 3 (by decide)) (vl 3 (by decide)) (vR 3 (by decide)) (hSp 0 3 (by decide) (by decide))) 0 (by decide) (by decide) et136 (hsz rfl) [(.ref ob48), (.int (0 : Nat).toInt32), (.int (3 : Nat).toInt32), (.int it.toInt32), (.int mk.toInt32), (.ref ob86)] [] pd_11 rfl rfl rfl (Nat.le_of_eq rfl) (hb hby at_432) (by decide) (by decide) (fun Tt139 vt139 Lt139 Xt139 qt139 => ?_)
    obtain ⟨rfl, N140, et139⟩ := qt139
    have N141 := Fr.app N138 N140
    show Goes p e below _ (Tt139.setTop (mkF m 435 #[.val (.int p0), .val (.int p1), .val (.int p2), .val (.int p3), .val (.int p4), .val (.int p5), .val (.int ca.toInt32), .val (.int cb.toInt32), .val (.int cc.toInt32), .val (.int cd.toInt32), .val (.int it.toInt32), .val (.int mk.toInt32), .val (.ref ob2), .val (.ref ob17), .val (.ref ob48), .val (.ref ob86), .val (.int (1 : Int32))] [(.int (1 : Int32))]))
    refine gIfN Xt139 hx (hb hby at_435) (XT.i0_eq_f (by decide)) ?_
    show Goes p e below _ (Tt139.setTop (mkF m 438 #[.val (.int p0), .val (.int p1), .val (.int p2), .val (.int p3), .val (.int p4), .val (.int p5), .val (.int ca.toInt32), .val (.int cb.toInt32), .val (.int cc.toInt32), .val (.int cd.toInt32), .val (.int it.toInt32), .val (.int mk.toInt32), .val (.ref ob2), .val (.ref ob17), .val (.ref ob48), .val (.ref ob86), .val (.int (1 : Int32))] []))
    refine gAload Xt139 hx (hb hby at_438) rfl rfl ?_
    refine gIconst Xt139 hx (hb hby at_440) (v := (0 : Int32)) rfl ?_
    refine gIconst Xt139 hx (hb hby at_441) (v := (4 : Int32)) rfl ?_
    refine gIload Xt139 hx (hb hby at_442) rfl ?_
    refine gIload Xt139 hx (hb hby at_444) rfl ?_
    refine gAload Xt139 hx (hb hby at_446) rfl rfl ?_
    show Goes p e below _ (Tt139.setTop (mkF m 448 #[.val (.int p0), .val (.int p1), .val (.int p2), .val (.int p3), .val (.int p4), .val (.int p5), .val (.int ca.toInt32), .val (.int cb.toInt32), .val (.int cc.toInt32), .val (.int cd.toInt32), .val (.int it.toInt32), .val (.int mk.toInt32), .val (.ref ob2), .val (.ref ob17), .val (.ref ob48), .val (.ref ob86), .val (.int (1 : Int32))] [(.ref ob86), (.int mk.toInt32), (.int it.toInt32), (.int (4 : Nat).toInt32), (.int (0 : Nat).toInt32), (.ref ob48)]))
    refine goCallS Xt139 hx hZ hown (hw _ (List.mem_of_getElem? (i := 104) rfl)) (hw _ (List.mem_of_getElem? (i := 105) rfl)) (hw _ (List.mem_of_getElem? (i := 90) rfl)) (hw _ (List.mem_of_getElem? (i := 106) rfl)) (by decide) (rmP l Z a0 hw (r2 0).toInt32 (r2 4).toInt32 (r2 it).toInt32 (R 0).toInt32 (R 4).toInt32 (r2 0).toInt32 (r2 1).toInt32 (r2 2).toInt32 (r2 3).toInt32 (r2 4).toInt32 (R 0).toInt32 (R 1).toInt32 (R 2).toInt32 (R 3).toInt32 (R 4).toInt32 ob48 (0 : Nat).toInt32 (4 : Nat).toInt32 it.toInt32 mk.toInt32 ob86 ht115 O117 Y_ob48 Y_ob86 (nn it lit) (vl it lit) (nn 0 (by decide)) (vl 0 (by decide)) (vR 0 (by decide)) (nn 4 (by decide)) (vl 4 (by decide)) (vR 4 (by decide)) (hSp 0 4 (by decide) (by decide))) 0 (by decide) (by decide) et139 (hsz rfl) [(.ref ob48), (.int (0 : Nat).toInt32), (.int (4 : Nat).toInt32), (.int it.toInt32), (.int mk.toInt32), (.ref ob86)] [] pd_11 rfl rfl rfl (Nat.le_of_eq rfl) (hb hby at_448) (by decide) (by decide) (fun Tt142 vt142 Lt142 Xt142 qt142 => ?_)
    obtain ⟨rfl, N143, et142⟩ := qt142
    have N144 := Fr.app N141 N143
    show Goes p e below _ (Tt142.setTop (mkF m 451 #[.val (.int p0), .val (.int p1), .val (.int p2), .val (.int p3), .val (.int p4), .val (.int p5), .val (.int ca.toInt32), .val (.int cb.toInt32), .val (.int cc.toInt32), .val (.int cd.toInt32), .val (.int it.toInt32), .val (.int mk.toInt32), .val (.ref ob2), .val (.ref ob17), .val (.ref ob48), .val (.ref ob86), .val (.int (1 : Int32))] [(.int (1 : Int32))]))
    refine gIfN Xt142 hx (hb hby at_451) (XT.i0_eq_f (by decide)) ?_
    show Goes p e below _ (Tt142.setTop (mkF m 454 #[.val (.int p0), .val (.int p1), .val (.int p2), .val (.int p3), .val (.int p4), .val (.int p5), .val (.int ca.toInt32), .val (.int cb.toInt32), .val (.int cc.toInt32), .val (.int cd.toInt32), .val (.int it.toInt32), .val (.int mk.toInt32), .val (.ref ob2), .val (.ref ob17), .val (.ref ob48), .val (.ref ob86), .val (.int (1 : Int32))] []))
    refine gAload Xt142 hx (hb hby at_454) rfl rfl ?_
    refine gIconst Xt142 hx (hb hby at_456) (v := (1 : Int32)) rfl ?_
    refine gIconst Xt142 hx (hb hby at_457) (v := (2 : Int32)) rfl ?_
    refine gIload Xt142 hx (hb hby at_458) rfl ?_
    refine gIload Xt142 hx (hb hby at_460) rfl ?_
    refine gAload Xt142 hx (hb hby at_462) rfl rfl ?_
    show Goes p e below _ (Tt142.setTop (mkF m 464 #[.val (.int p0), .val (.int p1), .val (.int p2), .val (.int p3), .val (.int p4), .val (.int p5), .val (.int ca.toInt32), .val (.int cb.toInt32), .val (.int cc.toInt32), .val (.int cd.toInt32), .val (.int it.toInt32), .val (.int mk.toInt32), .val (.ref ob2), .val (.ref ob17), .val (.ref ob48), .val (.ref ob86), .val (.int (1 : Int32))] [(.ref ob86), (.int mk.toInt32), (.int it.toInt32), (.int (2 : Nat).toInt32), (.int (1 : Nat).toInt32), (.ref ob48)]))
    refine goCallS Xt142 hx hZ hown (hw _ (List.mem_of_getElem? (i := 104) rfl)) (hw _ (List.mem_of_getElem? (i := 105) rfl)) (hw _ (List.mem_of_getElem? (i := 90) rfl)) (hw _ (List.mem_of_getElem? (i := 106) rfl)) (by decide) (rmP l Z a0 hw (r2 1).toInt32 (r2 2).toInt32 (r2 it).toInt32 (R 1).toInt32 (R 2).toInt32 (r2 0).toInt32 (r2 1).toInt32 (r2 2).toInt32 (r2 3).toInt32 (r2 4).toInt32 (R 0).toInt32 (R 1).toInt32 (R 2).toInt32 (R 3).toInt32 (R 4).toInt32 ob48 (1 : Nat).toInt32 (2 : Nat).toInt32 it.toInt32 mk.toInt32 ob86 ht115 O117 Y_ob48 Y_ob86 (nn it lit) (vl it lit) (nn 1 (by decide)) (vl 1 (by decide)) (vR 1 (by decide)) (nn 2 (by decide)) (vl 2 (by decide)) (vR 2 (by decide)) (hSp 1 2 (by decide) (by decide))) 0 (by decide) (by decide) et142 (hsz rfl) [(.ref ob48), (.int (1 : Nat).toInt32), (.int (2 : Nat).toInt32), (.int it.toInt32), (.int mk.toInt32), (.ref ob86)] [] pd_11 rfl rfl rfl (Nat.le_of_eq rfl) (hb hby at_464) (by decide) (by decide) (fun Tt145 vt145 Lt145 Xt145 qt145 => ?_)
    obtain ⟨rfl, N146, et145⟩ := qt145
    have N147 := Fr.app N144 N146
    show Goes p e below _ (Tt145.setTop (mkF m 467 #[.val (.int p0), .val (.int p1), .val (.int p2), .val (.int p3), .val (.int p4), .val (.int p5), .val (.int ca.toInt32), .val (.int cb.toInt32), .val (.int cc.toInt32), .val (.int cd.toInt32), .val (.int it.toInt32), .val (.int mk.toInt32), .val (.ref ob2), .val (.ref ob17), .val (.ref ob48), .val (.ref ob86), .val (.int (1 : Int32))] [(.int (1 : Int32))]))
    refine gIfN Xt145 hx (hb hby at_467) (XT.i0_eq_f (by decide)) ?_
    show Goes p e below _ (Tt145.setTop (mkF m 470 #[.val (.int p0), .val (.int p1), .val (.int p2), .val (.int p3), .val (.int p4), .val (.int p5), .val (.int ca.toInt32), .val (.int cb.toInt32), .val (.int cc.toInt32), .val (.int cd.toInt32), .val (.int it.toInt32), .val (.int mk.toInt32), .val (.ref ob2), .val (.ref ob17), .val (.ref ob48), .val (.ref ob86), .val (.int (1 : Int32))] []))
    refine gAload Xt145 hx (hb hby at_470) rfl rfl ?_
    refine gIconst Xt145 hx (hb hby at_472) (v := (1 : Int32)) rfl ?_
    refine gIconst Xt145 hx (hb hby at_473) (v := (3 : Int32)) rfl ?_
    refine gIload Xt145 hx (hb hby at_474) rfl ?_
    refine gIload Xt145 hx (hb hby at_476) rfl ?_
    refine gAload Xt145 hx (hb hby at_478) rfl rfl ?_
    show Goes p e below _ (Tt145.setTop (mkF m 480 #[.val (.int p0), .val (.int p1), .val (.int p2), .val (.int p3), .val (.int p4), .val (.int p5), .val (.int ca.toInt32), .val (.int cb.toInt32), .val (.int cc.toInt32), .val (.int cd.toInt32), .val (.int it.toInt32), .val (.int mk.toInt32), .val (.ref ob2), .val (.ref ob17), .val (.ref ob48), .val (.ref ob86), .val (.int (1 : Int32))] [(.ref ob86), (.int mk.toInt32), (.int it.toInt32), (.int (3 : Nat).toInt32), (.int (1 : Nat).toInt32), (.ref ob48)]))
    refine goCallS Xt145 hx hZ hown (hw _ (List.mem_of_getElem? (i := 104) rfl)) (hw _ (List.mem_of_getElem? (i := 105) rfl)) (hw _ (List.mem_of_getElem? (i := 90) rfl)) (hw _ (List.mem_of_getElem? (i := 106) rfl)) (by decide) (rmP l Z a0 hw (r2 1).toInt32 (r2 3).toInt32 (r2 it).toInt32 (R 1).toInt32 (R 3).toInt32 (r2 0).toInt32 (r2 1).toInt32 (r2 2).toInt32 (r2 3).toInt32 (r2 4).toInt32 (R 0).toInt32 (R 1).toInt32 (R 2).toInt32 (R 3).toInt32 (R 4).toInt32 ob48 (1 : Nat).toInt32 (3 : Nat).toInt32 it.toInt32 mk.toInt32 ob86 ht115 O117 Y_ob48 Y_ob86 (nn it lit) (vl it lit) (nn 1 (by decide)) (vl 1 (by decide)) (vR 1 (by decide)) (nn 3 (by decide)) (vl 3 (by decide)) (vR 3 (by decide)) (hSp 1 3 (by decide) (by decide))) 0 (by decide) (by decide) et145 (hsz rfl) [(.ref ob48), (.int (1 : Nat).toInt32), (.int (3 : Nat).toInt32), (.int it.toInt32), (.int mk.toInt32), (.ref ob86)] [] pd_11 rfl rfl rfl (Nat.le_of_eq rfl) (hb hby at_480) (by decide) (by decide) (fun Tt148 vt148 Lt148 Xt148 qt148 => ?_)
    obtain ⟨rfl, N149, et148⟩ := qt148
    have N150 := Fr.app N147 N149
    show Goes p e below _ (Tt148.setTop (mkF m 483 #[.val (.int p0), .val (.int p1), .val (.int p2), .val (.int p3), .val (.int p4), .val (.int p5), .val (.int ca.toInt32), .val (.int cb.toInt32), .val (.int cc.toInt32), .val (.int cd.toInt32), .val (.int it.toInt32), .val (.int mk.toInt32), .val (.ref ob2), .val (.ref ob17), .val (.ref ob48), .val (.ref ob86), .val (.int (1 : Int32))] [(.int (1 : Int32))]))
    refine gIfN Xt148 hx (hb hby at_483) (XT.i0_eq_f (by decide)) ?_
    show Goes p e below _ (Tt148.setTop (mkF m 486 #[.val (.int p0), .val (.int p1), .val (.int p2), .val (.int p3), .val (.int p4), .val (.int p5), .val (.int ca.toInt32), .val (.int cb.toInt32), .val (.int cc.toInt32), .val (.int cd.toInt32), .val (.int it.toInt32), .val (.int mk.toInt32), .val (.ref ob2), .val (.ref ob17), .val (.ref ob48), .val (.ref ob86), .val (.int (1 : Int32))] []))
    refine gAload Xt148 hx (hb hby at_486) rfl rfl ?_
    refine gIconst Xt148 hx (hb hby at_488) (v := (1 : Int32)) rfl ?_
    refine gIconst Xt148 hx (hb hby at_489) (v := (4 : Int32)) rfl ?_
    refine gIload Xt148 hx (hb hby at_490) rfl ?_
    refine gIload Xt148 hx (hb hby at_492) rfl ?_
    refine gAload Xt148 hx (hb hby at_494) rfl rfl ?_
    show Goes p e below _ (Tt148.setTop (mkF m 496 #[.val (.int p0), .val (.int p1), .val (.int p2), .val (.int p3), .val (.int p4), .val (.int p5), .val (.int ca.toInt32), .val (.int cb.toInt32), .val (.int cc.toInt32), .val (.int cd.toInt32), .val (.int it.toInt32), .val (.int mk.toInt32), .val (.ref ob2), .val (.ref ob17), .val (.ref ob48), .val (.ref ob86), .val (.int (1 : Int32))] [(.ref ob86), (.int mk.toInt32), (.int it.toInt32), (.int (4 : Nat).toInt32), (.int (1 : Nat).toInt32), (.ref ob48)]))
    refine goCallS Xt148 hx hZ hown (hw _ (List.mem_of_getElem? (i := 104) rfl)) (hw _ (List.mem_of_getElem? (i := 105) rfl)) (hw _ (List.mem_of_getElem? (i := 90) rfl)) (hw _ (List.mem_of_getElem? (i := 106) rfl)) (by decide) (rmP l Z a0 hw (r2 1).toInt32 (r2 4).toInt32 (r2 it).toInt32 (R 1).toInt32 (R 4).toInt32 (r2 0).toInt32 (r2 1).toInt32 (r2 2).toInt32 (r2 3).toInt32 (r2 4).toInt32 (R 0).toInt32 (R 1).toInt32 (R 2).toInt32 (R 3).toInt32 (R 4).toInt32 ob48 (1 : Nat).toInt32 (4 : Nat).toInt32 it.toInt32 mk.toInt32 ob86 ht115 O117 Y_ob48 Y_ob86 (nn it lit) (vl it lit) (nn 1 (by decide)) (vl 1 (by decide)) (vR 1 (by decide)) (nn 4 (by decide)) (vl 4 (by decide)) (vR 4 (by decide)) (hSp 1 4 (by decide) (by decide))) 0 (by decide) (by decide) et148 (hsz rfl) [(.ref ob48), (.int (1 : Nat).toInt32), (.int (4 : Nat).toInt32), (.int it.toInt32), (.int mk.toInt32), (.ref ob86)] [] pd_11 rfl rfl rfl (Nat.le_of_eq rfl) (hb hby at_496) (by decide) (by decide) (fun Tt151 vt151 Lt151 Xt151 qt151 => ?_)
    obtain ⟨rfl, N152, et151⟩ := qt151
    have N153 := Fr.app N150 N152
    show Goes p e below _ (Tt151.setTop (mkF m 499 #[.val (.int p0), .val (.int p1), .val (.int p2), .val (.int p3), .val (.int p4), .val (.int p5), .val (.int ca.toInt32), .val (.int cb.toInt32), .val (.int cc.toInt32), .val (.int cd.toInt32), .val (.int it.toInt32), .val (.int mk.toInt32), .val (.ref ob2), .val (.ref ob17), .val (.ref ob48), .val (.ref ob86), .val (.int (1 : Int32))] [(.int (1 : Int32))]))
    refine gIfN Xt151 hx (hb hby at_499) (XT.i0_eq_f (by decide)) ?_
    show Goes p e below _ (Tt151.setTop (mkF m 502 #[.val (.int p0), .val (.int p1), .val (.int p2), .val (.int p3), .val (.int p4), .val (.int p5), .val (.int ca.toInt32), .val (.int cb.toInt32), .val (.int cc.toInt32), .val (.int cd.toInt32), .val (.int it.toInt32), .val (.int mk.toInt32), .val (.ref ob2), .val (.ref ob17), .val (.ref ob48), .val (.ref ob86), .val (.int (1 : Int32))] []))
    refine gAload Xt151 hx (hb hby at_502) rfl rfl ?_
    refine gIconst Xt151 hx (hb hby at_504) (v := (2 : Int32)) rfl ?_
    refine gIconst Xt151 hx (hb hby at_505) (v := (3 : Int32)) rfl ?_
    refine gIload Xt151 hx (hb hby at_506) rfl ?_
    refine gIload Xt151 hx (hb hby at_508) rfl ?_
    refine gAload Xt151 hx (hb hby at_510) rfl rfl ?_
    show Goes p e below _ (Tt151.setTop (mkF m 512 #[.val (.int p0), .val (.int p1), .val (.int p2), .val (.int p3), .val (.int p4), .val (.int p5), .val (.int ca.toInt32), .val (.int cb.toInt32), .val (.int cc.toInt32), .val (.int cd.toInt32), .val (.int it.toInt32), .val (.int mk.toInt32), .val (.ref ob2), .val (.ref ob17), .val (.ref ob48), .val (.ref ob86), .val (.int (1 : Int32))] [(.ref ob86), (.int mk.toInt32), (.int it.toInt32), (.int (3 : Nat).toInt32), (.int (2 : Nat).toInt32), (.ref ob48)]))
    refine goCallS Xt151 hx hZ hown (hw _ (List.mem_of_getElem? (i := 104) rfl)) (hw _ (List.mem_of_getElem? (i := 105) rfl)) (hw _ (List.mem_of_getElem? (i := 90) rfl)) (hw _ (List.mem_of_getElem? (i := 106) rfl)) (by decide) (rmP l Z a0 hw (r2 2).toInt32 (r2 3).toInt32 (r2 it).toInt32 (R 2).toInt32 (R 3).toInt32 (r2 0).toInt32 (r2 1).toInt32 (r2 2).toInt32 (r2 3).toInt32 (r2 4).toInt32 (R 0).toInt32 (R 1).toInt32 (R 2).toInt32 (R 3).toInt32 (R 4).toInt32 ob48 (2 : Nat).toInt32 (3 : Nat).toInt32 it.toInt32 mk.toInt32 ob86 ht115 O117 Y_ob48 Y_ob86 (nn it lit) (vl it lit) (nn 2 (by decide)) (vl 2 (by decide)) (vR 2 (by decide)) (nn 3 (by decide)) (vl 3 (by decide)) (vR 3 (by decide)) (hSp 2 3 (by decide) (by decide))) 0 (by decide) (by decide) et151 (hsz rfl) [(.ref ob48), (.int (2 : Nat).toInt32), (.int (3 : Nat).toInt32), (.int it.toInt32), (.int mk.toInt32), (.ref ob86)] [] pd_11 rfl rfl rfl (Nat.le_of_eq rfl) (hb hby at_512) (by decide) (by decide) (fun Tt154 vt154 Lt154 Xt154 qt154 => ?_)
    obtain ⟨rfl, N155, et154⟩ := qt154
    have N156 := Fr.app N153 N155
    show Goes p e below _ (Tt154.setTop (mkF m 515 #[.val (.int p0), .val (.int p1), .val (.int p2), .val (.int p3), .val (.int p4), .val (.int p5), .val (.int ca.toInt32), .val (.int cb.toInt32), .val (.int cc.toInt32), .val (.int cd.toInt32), .val (.int it.toInt32), .val (.int mk.toInt32), .val (.ref ob2), .val (.ref ob17), .val (.ref ob48), .val (.ref ob86), .val (.int (1 : Int32))] [(.int (1 : Int32))]))
    refine gIfN Xt154 hx (hb hby at_515) (XT.i0_eq_f (by decide)) ?_
    show Goes p e below _ (Tt154.setTop (mkF m 518 #[.val (.int p0), .val (.int p1), .val (.int p2), .val (.int p3), .val (.int p4), .val (.int p5), .val (.int ca.toInt32), .val (.int cb.toInt32), .val (.int cc.toInt32), .val (.int cd.toInt32), .val (.int it.toInt32), .val (.int mk.toInt32), .val (.ref ob2), .val (.ref ob17), .val (.ref ob48), .val (.ref ob86), .val (.int (1 : Int32))] []))
    refine gAload Xt154 hx (hb hby at_518) rfl rfl ?_
    refine gIconst Xt154 hx (hb hby at_520) (v := (2 : Int32)) rfl ?_
    refine gIconst Xt154 hx (hb hby at_521) (v := (4 : Int32)) rfl ?_
    refine gIload Xt154 hx (hb hby at_522) rfl ?_
    refine gIload Xt154 hx (hb hby at_524) rfl ?_
    refine gAload Xt154 hx (hb hby at_526) rfl rfl ?_
    show Goes p e below _ (Tt154.setTop (mkF m 528 #[.val (.int p0), .val (.int p1), .val (.int p2), .val (.int p3), .val (.int p4), .val (.int p5), .val (.int ca.toInt32), .val (.int cb.toInt32), .val (.int cc.toInt32), .val (.int cd.toInt32), .val (.int it.toInt32), .val (.int mk.toInt32), .val (.ref ob2), .val (.ref ob17), .val (.ref ob48), .val (.ref ob86), .val (.int (1 : Int32))] [(.ref ob86), (.int mk.toInt32), (.int it.toInt32), (.int (4 : Nat).toInt32), (.int (2 : Nat).toInt32), (.ref ob48)]))
    refine goCallS Xt154 hx hZ hown (hw _ (List.mem_of_getElem? (i := 104) rfl)) (hw _ (List.mem_of_getElem? (i := 105) rfl)) (hw _ (List.mem_of_getElem? (i := 90) rfl)) (hw _ (List.mem_of_getElem? (i := 106) rfl)) (by decide) (rmP l Z a0 hw (r2 2).toInt32 (r2 4).toInt32 (r2 it).toInt32 (R 2).toInt32 (R 4).toInt32 (r2 0).toInt32 (r2 1).toInt32 (r2 2).toInt32 (r2 3).toInt32 (r2 4).toInt32 (R 0).toInt32 (R 1).toInt32 (R 2).toInt32 (R 3).toInt32 (R 4).toInt32 ob48 (2 : Nat).toInt32 (4 : Nat).toInt32 it.toInt32 mk.toInt32 ob86 ht115 O117 Y_ob48 Y_ob86 (nn it lit) (vl it lit) (nn 2 (by decide)) (vl 2 (by decide)) (vR 2 (by decide)) (nn 4 (by decide)) (vl 4 (by decide)) (vR 4 (by decide)) (hSp 2 4 (by decide) (by decide))) 0 (by decide) (by decide) et154 (hsz rfl) [(.ref ob48), (.int (2 : Nat).toInt32), (.int (4 : Nat).toInt32), (.int it.toInt32), (.int mk.toInt32), (.ref ob86)] [] pd_11 rfl rfl rfl (Nat.le_of_eq rfl) (hb hby at_528) (by decide) (by decide) (fun Tt157 vt157 Lt157 Xt157 qt157 => ?_)
    obtain ⟨rfl, N158, et157⟩ := qt157
    have N159 := Fr.app N156 N158
    show Goes p e below _ (Tt157.setTop (mkF m 531 #[.val (.int p0), .val (.int p1), .val (.int p2), .val (.int p3), .val (.int p4), .val (.int p5), .val (.int ca.toInt32), .val (.int cb.toInt32), .val (.int cc.toInt32), .val (.int cd.toInt32), .val (.int it.toInt32), .val (.int mk.toInt32), .val (.ref ob2), .val (.ref ob17), .val (.ref ob48), .val (.ref ob86), .val (.int (1 : Int32))] [(.int (1 : Int32))]))
    refine gIfN Xt157 hx (hb hby at_531) (XT.i0_eq_f (by decide)) ?_
    show Goes p e below _ (Tt157.setTop (mkF m 534 #[.val (.int p0), .val (.int p1), .val (.int p2), .val (.int p3), .val (.int p4), .val (.int p5), .val (.int ca.toInt32), .val (.int cb.toInt32), .val (.int cc.toInt32), .val (.int cd.toInt32), .val (.int it.toInt32), .val (.int mk.toInt32), .val (.ref ob2), .val (.ref ob17), .val (.ref ob48), .val (.ref ob86), .val (.int (1 : Int32))] []))
    refine gAload Xt157 hx (hb hby at_534) rfl rfl ?_
    refine gIconst Xt157 hx (hb hby at_536) (v := (3 : Int32)) rfl ?_
    refine gIconst Xt157 hx (hb hby at_537) (v := (4 : Int32)) rfl ?_
    refine gIload Xt157 hx (hb hby at_538) rfl ?_
    refine gIload Xt157 hx (hb hby at_540) rfl ?_
    refine gAload Xt157 hx (hb hby at_542) rfl rfl ?_
    show Goes p e below _ (Tt157.setTop (mkF m 544 #[.val (.int p0), .val (.int p1), .val (.int p2), .val (.int p3), .val (.int p4), .val (.int p5), .val (.int ca.toInt32), .val (.int cb.toInt32), .val (.int cc.toInt32), .val (.int cd.toInt32), .val (.int it.toInt32), .val (.int mk.toInt32), .val (.ref ob2), .val (.ref ob17), .val (.ref ob48), .val (.ref ob86), .val (.int (1 : Int32))] [(.ref ob86), (.int mk.toInt32), (.int it.toInt32), (.int (4 : Nat).toInt32), (.int (3 : Nat).toInt32), (.ref ob48)]))
    refine goCallS Xt157 hx hZ hown (hw _ (List.mem_of_getElem? (i := 104) rfl)) (hw _ (List.mem_of_getElem? (i := 105) rfl)) (hw _ (List.mem_of_getElem? (i := 90) rfl)) (hw _ (List.mem_of_getElem? (i := 106) rfl)) (by decide) (rmP l Z a0 hw (r2 3).toInt32 (r2 4).toInt32 (r2 it).toInt32 (R 3).toInt32 (R 4).toInt32 (r2 0).toInt32 (r2 1).toInt32 (r2 2).toInt32 (r2 3).toInt32 (r2 4).toInt32 (R 0).toInt32 (R 1).toInt32 (R 2).toInt32 (R 3).toInt32 (R 4).toInt32 ob48 (3 : Nat).toInt32 (4 : Nat).toInt32 it.toInt32 mk.toInt32 ob86 ht115 O117 Y_ob48 Y_ob86 (nn it lit) (vl it lit) (nn 3 (by decide)) (vl 3 (by decide)) (vR 3 (by decide)) (nn 4 (by decide)) (vl 4 (by decide)) (vR 4 (by decide)) (hSp 3 4 (by decide) (by decide))) 0 (by decide) (by decide) et157 (hsz rfl) [(.ref ob48), (.int (3 : Nat).toInt32), (.int (4 : Nat).toInt32), (.int it.toInt32), (.int mk.toInt32), (.ref ob86)] [] pd_11 rfl rfl rfl (Nat.le_of_eq rfl) (hb hby at_544) (by decide) (by decide) (fun Tt160 vt160 Lt160 Xt160 qt160 => ?_)
    obtain ⟨rfl, N161, et160⟩ := qt160
    have N162 := Fr.app N159 N161
    show Goes p e below _ (Tt160.setTop (mkF m 547 #[.val (.int p0), .val (.int p1), .val (.int p2), .val (.int p3), .val (.int p4), .val (.int p5), .val (.int ca.toInt32), .val (.int cb.toInt32), .val (.int cc.toInt32), .val (.int cd.toInt32), .val (.int it.toInt32), .val (.int mk.toInt32), .val (.ref ob2), .val (.ref ob17), .val (.ref ob48), .val (.ref ob86), .val (.int (1 : Int32))] [(.int (1 : Int32))]))
    refine gIfN Xt160 hx (hb hby at_547) (XT.i0_eq_f (by decide)) ?_
    show Goes p e below _ (Tt160.setTop (mkF m 550 #[.val (.int p0), .val (.int p1), .val (.int p2), .val (.int p3), .val (.int p4), .val (.int p5), .val (.int ca.toInt32), .val (.int cb.toInt32), .val (.int cc.toInt32), .val (.int cd.toInt32), .val (.int it.toInt32), .val (.int mk.toInt32), .val (.ref ob2), .val (.ref ob17), .val (.ref ob48), .val (.ref ob86), .val (.int (1 : Int32))] []))
    refine gIconst Xt160 hx (hb hby at_550) (v := (1 : Int32)) rfl ?_
    refine gGoto Xt160 hx (hb hby at_551) (pc' := 555) (by decide) (by decide) ?_
    show Goes p e below _ (Tt160.setTop (mkF m 555 #[.val (.int p0), .val (.int p1), .val (.int p2), .val (.int p3), .val (.int p4), .val (.int p5), .val (.int ca.toInt32), .val (.int cb.toInt32), .val (.int cc.toInt32), .val (.int cd.toInt32), .val (.int it.toInt32), .val (.int mk.toInt32), .val (.ref ob2), .val (.ref ob17), .val (.ref ob48), .val (.ref ob86), .val (.int (1 : Int32))] [(.int (1 : Int32))]))
    exact goRetN Xt160 hx (t := .boolean) hret hlocks (by simp) (hb hby at_555) (z' := (1 : Int32)) rfl (by decide) (by decide) et160 (⟨rfl, N162⟩)
  have at138 : ∀  (T_ : State) (h_ : Heap) (lc_ : List Loc), (Stand p l e room_1 s m #[(.int p0), (.int p1), (.int p2), (.int p3), (.int p4), (.int p5)] below meth c T_ lc_ 4 10) → (T_.heap = h_) → (Fr Z.heap.size lc_) → (Ext Z.heap h_) → (Exa Z h_ ob2 "com/example/phal/phal/service/Groups") → (Fld Z h_ ob2 "com/example/phal/phal/service/Groups" "parent" "[I" (.ref u)) → (Ary Z h_ u .int (own_vs Pj1)) → (Exa Z h_ ob17 "java/util/BitSet") → (Fld Z h_ ob17 "java/util/BitSet" "words" "[J" (.ref ua)) → (Fld Z h_ ob17 "java/util/BitSet" "wordsInUse" "I" (.int (own_uu (mk % 2 ^ 4)))) → (Ary Z h_ ua .long [(.long (mk % 2 ^ 4).toInt64)]) → Goes p e below (EndN s (fun v h L => v = some (.int 1) ∧ Fr Z.heap.size L) room_1.cells room_1.slots) (T_.setTop (mkF m 138 #[.val (.int p0), .val (.int p1), .val (.int p2), .val (.int p3), .val (.int p4), .val (.int p5), .val (.int ca.toInt32), .val (.int cb.toInt32), .val (.int cc.toInt32), .val (.int cd.toInt32), .val (.int it.toInt32), .val (.int mk.toInt32), .val (.ref ob2), .val (.ref ob17), .unset, .unset, .unset] [])) := by
    intro T_ h_ lc_ X_ e_ N_ O_ At1 Fp Yp At16 Fw Fu Yw
    refine gIload X_ hx (hb hby at_138) rfl ?_
    refine gBipush X_ hx (hb hby at_140) (v := (16 : Int32)) rfl ?_
    refine gIand X_ hx (hb hby at_142) ?_
    by_cases g : (mk.toInt32 &&& (16 : Int32)) = 0
    · refine gIfY X_ hx (hb hby at_143) (pc' := 152) (XT.i0_eq_t g) (by decide) (by decide) ?_
      show Goes p e below _ (T_.setTop (mkF m 152 #[.val (.int p0), .val (.int p1), .val (.int p2), .val (.int p3), .val (.int p4), .val (.int p5), .val (.int ca.toInt32), .val (.int cb.toInt32), .val (.int cc.toInt32), .val (.int cd.toInt32), .val (.int it.toInt32), .val (.int mk.toInt32), .val (.ref ob2), .val (.ref ob17), .unset, .unset, .unset] []))
      rw [← own_unset_all mk lmk 4 (by decide) g] at Fu Yw
      exact at152  T_ h_ _  X_ e_ N_  O_ At1 Fp Yp At16 Fw Fu Yw
    · refine gIfN X_ hx (hb hby at_143) (XT.i0_eq_f g) ?_
      show Goes p e below _ (T_.setTop (mkF m 146 #[.val (.int p0), .val (.int p1), .val (.int p2), .val (.int p3), .val (.int p4), .val (.int p5), .val (.int ca.toInt32), .val (.int cb.toInt32), .val (.int cc.toInt32), .val (.int cd.toInt32), .val (.int it.toInt32), .val (.int mk.toInt32), .val (.ref ob2), .val (.ref ob17), .unset, .unset, .unset] []))
      refine gAload X_ hx (hb hby at_146) rfl rfl ?_
      refine gIconst X_ hx (hb hby at_148) (v := (4 : Int32)) rfl ?_
      obtain ⟨sw, su⟩ := own_set_all mk lmk 4 (by decide) g
      refine goCallV X_ hx hZ hown (hw _ (List.mem_of_getElem? (i := 45) rfl)) (hw _ (List.mem_of_getElem? (i := 46) rfl)) (hw _ (List.mem_of_getElem? (i := 48) rfl)) (hw _ (List.mem_of_getElem? (i := 47) rfl)) (hw _ (List.mem_of_getElem? (i := 25) rfl)) (hw _ (List.mem_of_getElem? (i := 49) rfl)) (by decide) (rmSe l Z a0 hw ua (mk % 2 ^ 4).toInt64 (mk % 2 ^ 5).toInt64 (own_uu (mk % 2 ^ 4)) ob17 (4 : Int32) h_ O_ S_a At16 Fw Fu Yw (own_uu01 _) ne_ob17_ua fr_ob17 fr_ua (by decide) (by decide) sw) 0 (by decide) (by decide) e_ At16 (hsz rfl) [(.int (4 : Int32))] [] pd_1 rfl rfl rfl (Nat.le_of_eq rfl) (hb hby at_149) (by decide) (by decide) (fun Tt23 vt23 Lt23 Xt23 qt23 => ?_)
      obtain ⟨ht23, et23⟩ : ∃ z, Tt23.heap = z := ⟨_, rfl⟩
      rw [et23] at qt23
      obtain ⟨rfl, N24, Kct23, Fw, Fu, Yw⟩ := qt23
      have N25 := Fr.app N_ N24
      replace At1 := At1.keep Kct23
      replace Fp := Fp.keep Kct23 (ninS ne_ob2_ob17 (ninS ne_ob2_ua nin0))
      replace Yp := Yp.keep Kct23 (ninS ne_u_ob17 (ninS ne_u_ua nin0))
      replace At16 := At16.keep Kct23
      have O26 : Ext Z.heap ht23 := extK O_ Kct23 (allS fr_ob17 (allS fr_ua all0))
      show Goes p e below _ (Tt23.setTop (mkF m 152 #[.val (.int p0), .val (.int p1), .val (.int p2), .val (.int p3), .val (.int p4), .val (.int p5), .val (.int ca.toInt32), .val (.int cb.toInt32), .val (.int cc.toInt32), .val (.int cd.toInt32), .val (.int it.toInt32), .val (.int mk.toInt32), .val (.ref ob2), .val (.ref ob17), .unset, .unset, .unset] []))
      rw [← su] at Fu
      exact at152  Tt23 ht23 _  Xt23 et23 N25  O26 At1 Fp Yp At16 Fw Fu Yw
  have at124 : ∀  (T_ : State) (h_ : Heap) (lc_ : List Loc), (Stand p l e room_1 s m #[(.int p0), (.int p1), (.int p2), (.int p3), (.int p4), (.int p5)] below meth c T_ lc_ 4 10) → (T_.heap = h_) → (Fr Z.heap.size lc_) → (Ext Z.heap h_) → (Exa Z h_ ob2 "com/example/phal/phal/service/Groups") → (Fld Z h_ ob2 "com/example/phal/phal/service/Groups" "parent" "[I" (.ref u)) → (Ary Z h_ u .int (own_vs Pj1)) → (Exa Z h_ ob17 "java/util/BitSet") → (Fld Z h_ ob17 "java/util/BitSet" "words" "[J" (.ref ua)) → (Fld Z h_ ob17 "java/util/BitSet" "wordsInUse" "I" (.int (own_uu (mk % 2 ^ 3)))) → (Ary Z h_ ua .long [(.long (mk % 2 ^ 3).toInt64)]) → Goes p e below (EndN s (fun v h L => v = some (.int 1) ∧ Fr Z.heap.size L) room_1.cells room_1.slots) (T_.setTop (mkF m 124 #[.val (.int p0), .val (.int p1), .val (.int p2), .val (.int p3), .val (.int p4), .val (.int p5), .val (.int ca.toInt32), .val (.int cb.toInt32), .val (.int cc.toInt32), .val (.int cd.toInt32), .val (.int it.toInt32), .val (.int mk.toInt32), .val (.ref ob2), .val (.ref ob17), .unset, .unset, .unset] [])) := by
    intro T_ h_ lc_ X_ e_ N_ O_ At1 Fp Yp At16 Fw Fu Yw
    refine gIload X_ hx (hb hby at_124) rfl ?_
    refine gBipush X_ hx (hb hby at_126) (v := (8 : Int32)) rfl ?_
    refine gIand X_ hx (hb hby at_128) ?_
    by_cases g : (mk.toInt32 &&& (8 : Int32)) = 0
    · refine gIfY X_ hx (hb hby at_129) (pc' := 138) (XT.i0_eq_t g) (by decide) (by decide) ?_
      show Goes p e below _ (T_.setTop (mkF m 138 #[.val (.int p0), .val (.int p1), .val (.int p2), .val (.int p3), .val (.int p4), .val (.int p5), .val (.int ca.toInt32), .val (.int cb.toInt32), .val (.int cc.toInt32), .val (.int cd.toInt32), .val (.int it.toInt32), .val (.int mk.toInt32), .val (.ref ob2), .val (.ref ob17), .unset, .unset, .unset] []))
      rw [← own_unset_all mk lmk 3 (by decide) g] at Fu Yw
      exact at138  T_ h_ _  X_ e_ N_  O_ At1 Fp Yp At16 Fw Fu Yw
    · refine gIfN X_ hx (hb hby at_129) (XT.i0_eq_f g) ?_
      show Goes p e below _ (T_.setTop (mkF m 132 #[.val (.int p0), .val (.int p1), .val (.int p2), .val (.int p3), .val (.int p4), .val (.int p5), .val (.int ca.toInt32), .val (.int cb.toInt32), .val (.int cc.toInt32), .val (.int cd.toInt32), .val (.int it.toInt32), .val (.int mk.toInt32), .val (.ref ob2), .val (.ref ob17), .unset, .unset, .unset] []))
      refine gAload X_ hx (hb hby at_132) rfl rfl ?_
      refine gIconst X_ hx (hb hby at_134) (v := (3 : Int32)) rfl ?_
      obtain ⟨sw, su⟩ := own_set_all mk lmk 3 (by decide) g
      refine goCallV X_ hx hZ hown (hw _ (List.mem_of_getElem? (i := 45) rfl)) (hw _ (List.mem_of_getElem? (i := 46) rfl)) (hw _ (List.mem_of_getElem? (i := 48) rfl)) (hw _ (List.mem_of_getElem? (i := 47) rfl)) (hw _ (List.mem_of_getElem? (i := 25) rfl)) (hw _ (List.mem_of_getElem? (i := 49) rfl)) (by decide) (rmSe l Z a0 hw ua (mk % 2 ^ 3).toInt64 (mk % 2 ^ 4).toInt64 (own_uu (mk % 2 ^ 3)) ob17 (3 : Int32) h_ O_ S_a At16 Fw Fu Yw (own_uu01 _) ne_ob17_ua fr_ob17 fr_ua (by decide) (by decide) sw) 0 (by decide) (by decide) e_ At16 (hsz rfl) [(.int (3 : Int32))] [] pd_1 rfl rfl rfl (Nat.le_of_eq rfl) (hb hby at_135) (by decide) (by decide) (fun Tt27 vt27 Lt27 Xt27 qt27 => ?_)
      obtain ⟨ht27, et27⟩ : ∃ z, Tt27.heap = z := ⟨_, rfl⟩
      rw [et27] at qt27
      obtain ⟨rfl, N28, Kct27, Fw, Fu, Yw⟩ := qt27
      have N29 := Fr.app N_ N28
      replace At1 := At1.keep Kct27
      replace Fp := Fp.keep Kct27 (ninS ne_ob2_ob17 (ninS ne_ob2_ua nin0))
      replace Yp := Yp.keep Kct27 (ninS ne_u_ob17 (ninS ne_u_ua nin0))
      replace At16 := At16.keep Kct27
      have O30 : Ext Z.heap ht27 := extK O_ Kct27 (allS fr_ob17 (allS fr_ua all0))
      show Goes p e below _ (Tt27.setTop (mkF m 138 #[.val (.int p0), .val (.int p1), .val (.int p2), .val (.int p3), .val (.int p4), .val (.int p5), .val (.int ca.toInt32), .val (.int cb.toInt32), .val (.int cc.toInt32), .val (.int cd.toInt32), .val (.int it.toInt32), .val (.int mk.toInt32), .val (.ref ob2), .val (.ref ob17), .unset, .unset, .unset] []))
      rw [← su] at Fu
      exact at138  Tt27 ht27 _  Xt27 et27 N29  O30 At1 Fp Yp At16 Fw Fu Yw
  have at111 : ∀  (T_ : State) (h_ : Heap) (lc_ : List Loc), (Stand p l e room_1 s m #[(.int p0), (.int p1), (.int p2), (.int p3), (.int p4), (.int p5)] below meth c T_ lc_ 4 10) → (T_.heap = h_) → (Fr Z.heap.size lc_) → (Ext Z.heap h_) → (Exa Z h_ ob2 "com/example/phal/phal/service/Groups") → (Fld Z h_ ob2 "com/example/phal/phal/service/Groups" "parent" "[I" (.ref u)) → (Ary Z h_ u .int (own_vs Pj1)) → (Exa Z h_ ob17 "java/util/BitSet") → (Fld Z h_ ob17 "java/util/BitSet" "words" "[J" (.ref ua)) → (Fld Z h_ ob17 "java/util/BitSet" "wordsInUse" "I" (.int (own_uu (mk % 2 ^ 2)))) → (Ary Z h_ ua .long [(.long (mk % 2 ^ 2).toInt64)]) → Goes p e below (EndN s (fun v h L => v = some (.int 1) ∧ Fr Z.heap.size L) room_1.cells room_1.slots) (T_.setTop (mkF m 111 #[.val (.int p0), .val (.int p1), .val (.int p2), .val (.int p3), .val (.int p4), .val (.int p5), .val (.int ca.toInt32), .val (.int cb.toInt32), .val (.int cc.toInt32), .val (.int cd.toInt32), .val (.int it.toInt32), .val (.int mk.toInt32), .val (.ref ob2), .val (.ref ob17), .unset, .unset, .unset] [])) := by
    intro T_ h_ lc_ X_ e_ N_ O_ At1 Fp Yp At16 Fw Fu Yw
    refine gIload X_ hx (hb hby at_111) rfl ?_
    refine gIconst X_ hx (hb hby at_113) (v := (4 : Int32)) rfl ?_
    refine gIand X_ hx (hb hby at_114) ?_
    by_cases g : (mk.toInt32 &&& (4 : Int32)) = 0
    · refine gIfY X_ hx (hb hby at_115) (pc' := 124) (XT.i0_eq_t g) (by decide) (by decide) ?_
      show Goes p e below _ (T_.setTop (mkF m 124 #[.val (.int p0), .val (.int p1), .val (.int p2), .val (.int p3), .val (.int p4), .val (.int p5), .val (.int ca.toInt32), .val (.int cb.toInt32), .val (.int cc.toInt32), .val (.int cd.toInt32), .val (.int it.toInt32), .val (.int mk.toInt32), .val (.ref ob2), .val (.ref ob17), .unset, .unset, .unset] []))
      rw [← own_unset_all mk lmk 2 (by decide) g] at Fu Yw
      exact at124  T_ h_ _  X_ e_ N_  O_ At1 Fp Yp At16 Fw Fu Yw
    · refine gIfN X_ hx (hb hby at_115) (XT.i0_eq_f g) ?_
      show Goes p e below _ (T_.setTop (mkF m 118 #[.val (.int p0), .val (.int p1), .val (.int p2), .val (.int p3), .val (.int p4), .val (.int p5), .val (.int ca.toInt32), .val (.int cb.toInt32), .val (.int cc.toInt32), .val (.int cd.toInt32), .val (.int it.toInt32), .val (.int mk.toInt32), .val (.ref ob2), .val (.ref ob17), .unset, .unset, .unset] []))
      refine gAload X_ hx (hb hby at_118) rfl rfl ?_
      refine gIconst X_ hx (hb hby at_120) (v := (2 : Int32)) rfl ?_
      obtain ⟨sw, su⟩ := own_set_all mk lmk 2 (by decide) g
      refine goCallV X_ hx hZ hown (hw _ (List.mem_of_getElem? (i := 45) rfl)) (hw _ (List.mem_of_getElem? (i := 46) rfl)) (hw _ (List.mem_of_getElem? (i := 48) rfl)) (hw _ (List.mem_of_getElem? (i := 47) rfl)) (hw _ (List.mem_of_getElem? (i := 25) rfl)) (hw _ (List.mem_of_getElem? (i := 49) rfl)) (by decide) (rmSe l Z a0 hw ua (mk % 2 ^ 2).toInt64 (mk % 2 ^ 3).toInt64 (own_uu (mk % 2 ^ 2)) ob17 (2 : Int32) h_ O_ S_a At16 Fw Fu Yw (own_uu01 _) ne_ob17_ua fr_ob17 fr_ua (by decide) (by decide) sw) 0 (by decide) (by decide) e_ At16 (hsz rfl) [(.int (2 : Int32))] [] pd_1 rfl rfl rfl (Nat.le_of_eq rfl) (hb hby at_121) (by decide) (by decide) (fun Tt31 vt31 Lt31 Xt31 qt31 => ?_)
      obtain ⟨ht31, et31⟩ : ∃ z, Tt31.heap = z := ⟨_, rfl⟩
      rw [et31] at qt31
      obtain ⟨rfl, N32, Kct31, Fw, Fu, Yw⟩ := qt31
      have N33 := Fr.app N_ N32
      replace At1 := At1.keep Kct31
      replace Fp := Fp.keep Kct31 (ninS ne_ob2_ob17 (ninS ne_ob2_ua nin0))
      replace Yp := Yp.keep Kct31 (ninS ne_u_ob17 (ninS ne_u_ua nin0))
      replace At16 := At16.keep Kct31
      have O34 : Ext Z.heap ht31 := extK O_ Kct31 (allS fr_ob17 (allS fr_ua all0))
      show Goes p e below _ (Tt31.setTop (mkF m 124 #[.val (.int p0), .val (.int p1), .val (.int p2), .val (.int p3), .val (.int p4), .val (.int p5), .val (.int ca.toInt32), .val (.int cb.toInt32), .val (.int cc.toInt32), .val (.int cd.toInt32), .val (.int it.toInt32), .val (.int mk.toInt32), .val (.ref ob2), .val (.ref ob17), .unset, .unset, .unset] []))
      rw [← su] at Fu
      exact at124  Tt31 ht31 _  Xt31 et31 N33  O34 At1 Fp Yp At16 Fw Fu Yw
  have at98 : ∀  (T_ : State) (h_ : Heap) (lc_ : List Loc), (Stand p l e room_1 s m #[(.int p0), (.int p1), (.int p2), (.int p3), (.int p4), (.int p5)] below meth c T_ lc_ 4 10) → (T_.heap = h_) → (Fr Z.heap.size lc_) → (Ext Z.heap h_) → (Exa Z h_ ob2 "com/example/phal/phal/service/Groups") → (Fld Z h_ ob2 "com/example/phal/phal/service/Groups" "parent" "[I" (.ref u)) → (Ary Z h_ u .int (own_vs Pj1)) → (Exa Z h_ ob17 "java/util/BitSet") → (Fld Z h_ ob17 "java/util/BitSet" "words" "[J" (.ref ua)) → (Fld Z h_ ob17 "java/util/BitSet" "wordsInUse" "I" (.int (own_uu (mk % 2 ^ 1)))) → (Ary Z h_ ua .long [(.long (mk % 2 ^ 1).toInt64)]) → Goes p e below (EndN s (fun v h L => v = some (.int 1) ∧ Fr Z.heap.size L) room_1.cells room_1.slots) (T_.setTop (mkF m 98 #[.val (.int p0), .val (.int p1), .val (.int p2), .val (.int p3), .val (.int p4), .val (.int p5), .val (.int ca.toInt32), .val (.int cb.toInt32), .val (.int cc.toInt32), .val (.int cd.toInt32), .val (.int it.toInt32), .val (.int mk.toInt32), .val (.ref ob2), .val (.ref ob17), .unset, .unset, .unset] [])) := by
    intro T_ h_ lc_ X_ e_ N_ O_ At1 Fp Yp At16 Fw Fu Yw
    refine gIload X_ hx (hb hby at_98) rfl ?_
    refine gIconst X_ hx (hb hby at_100) (v := (2 : Int32)) rfl ?_
    refine gIand X_ hx (hb hby at_101) ?_
    by_cases g : (mk.toInt32 &&& (2 : Int32)) = 0
    · refine gIfY X_ hx (hb hby at_102) (pc' := 111) (XT.i0_eq_t g) (by decide) (by decide) ?_
      show Goes p e below _ (T_.setTop (mkF m 111 #[.val (.int p0), .val (.int p1), .val (.int p2), .val (.int p3), .val (.int p4), .val (.int p5), .val (.int ca.toInt32), .val (.int cb.toInt32), .val (.int cc.toInt32), .val (.int cd.toInt32), .val (.int it.toInt32), .val (.int mk.toInt32), .val (.ref ob2), .val (.ref ob17), .unset, .unset, .unset] []))
      rw [← own_unset_all mk lmk 1 (by decide) g] at Fu Yw
      exact at111  T_ h_ _  X_ e_ N_  O_ At1 Fp Yp At16 Fw Fu Yw
    · refine gIfN X_ hx (hb hby at_102) (XT.i0_eq_f g) ?_
      show Goes p e below _ (T_.setTop (mkF m 105 #[.val (.int p0), .val (.int p1), .val (.int p2), .val (.int p3), .val (.int p4), .val (.int p5), .val (.int ca.toInt32), .val (.int cb.toInt32), .val (.int cc.toInt32), .val (.int cd.toInt32), .val (.int it.toInt32), .val (.int mk.toInt32), .val (.ref ob2), .val (.ref ob17), .unset, .unset, .unset] []))
      refine gAload X_ hx (hb hby at_105) rfl rfl ?_
      refine gIconst X_ hx (hb hby at_107) (v := (1 : Int32)) rfl ?_
      obtain ⟨sw, su⟩ := own_set_all mk lmk 1 (by decide) g
      refine goCallV X_ hx hZ hown (hw _ (List.mem_of_getElem? (i := 45) rfl)) (hw _ (List.mem_of_getElem? (i := 46) rfl)) (hw _ (List.mem_of_getElem? (i := 48) rfl)) (hw _ (List.mem_of_getElem? (i := 47) rfl)) (hw _ (List.mem_of_getElem? (i := 25) rfl)) (hw _ (List.mem_of_getElem? (i := 49) rfl)) (by decide) (rmSe l Z a0 hw ua (mk % 2 ^ 1).toInt64 (mk % 2 ^ 2).toInt64 (own_uu (mk % 2 ^ 1)) ob17 (1 : Int32) h_ O_ S_a At16 Fw Fu Yw (own_uu01 _) ne_ob17_ua fr_ob17 fr_ua (by decide) (by decide) sw) 0 (by decide) (by decide) e_ At16 (hsz rfl) [(.int (1 : Int32))] [] pd_1 rfl rfl rfl (Nat.le_of_eq rfl) (hb hby at_108) (by decide) (by decide) (fun Tt35 vt35 Lt35 Xt35 qt35 => ?_)
      obtain ⟨ht35, et35⟩ : ∃ z, Tt35.heap = z := ⟨_, rfl⟩
      rw [et35] at qt35
      obtain ⟨rfl, N36, Kct35, Fw, Fu, Yw⟩ := qt35
      have N37 := Fr.app N_ N36
      replace At1 := At1.keep Kct35
      replace Fp := Fp.keep Kct35 (ninS ne_ob2_ob17 (ninS ne_ob2_ua nin0))
      replace Yp := Yp.keep Kct35 (ninS ne_u_ob17 (ninS ne_u_ua nin0))
      replace At16 := At16.keep Kct35
      have O38 : Ext Z.heap ht35 := extK O_ Kct35 (allS fr_ob17 (allS fr_ua all0))
      show Goes p e below _ (Tt35.setTop (mkF m 111 #[.val (.int p0), .val (.int p1), .val (.int p2), .val (.int p3), .val (.int p4), .val (.int p5), .val (.int ca.toInt32), .val (.int cb.toInt32), .val (.int cc.toInt32), .val (.int cd.toInt32), .val (.int it.toInt32), .val (.int mk.toInt32), .val (.ref ob2), .val (.ref ob17), .unset, .unset, .unset] []))
      rw [← su] at Fu
      exact at111  Tt35 ht35 _  Xt35 et35 N37  O38 At1 Fp Yp At16 Fw Fu Yw
  have at85 : ∀  (T_ : State) (h_ : Heap) (lc_ : List Loc), (Stand p l e room_1 s m #[(.int p0), (.int p1), (.int p2), (.int p3), (.int p4), (.int p5)] below meth c T_ lc_ 4 10) → (T_.heap = h_) → (Fr Z.heap.size lc_) → (Ext Z.heap h_) → (Exa Z h_ ob2 "com/example/phal/phal/service/Groups") → (Fld Z h_ ob2 "com/example/phal/phal/service/Groups" "parent" "[I" (.ref u)) → (Ary Z h_ u .int (own_vs Pj1)) → (Exa Z h_ ob17 "java/util/BitSet") → (Fld Z h_ ob17 "java/util/BitSet" "words" "[J" (.ref ua)) → (Fld Z h_ ob17 "java/util/BitSet" "wordsInUse" "I" (.int (own_uu (mk % 2 ^ 0)))) → (Ary Z h_ ua .long [(.long (mk % 2 ^ 0).toInt64)]) → Goes p e below (EndN s (fun v h L => v = some (.int 1) ∧ Fr Z.heap.size L) room_1.cells room_1.slots) (T_.setTop (mkF m 85 #[.val (.int p0), .val (.int p1), .val (.int p2), .val (.int p3), .val (.int p4), .val (.int p5), .val (.int ca.toInt32), .val (.int cb.toInt32), .val (.int cc.toInt32), .val (.int cd.toInt32), .val (.int it.toInt32), .val (.int mk.toInt32), .val (.ref ob2), .val (.ref ob17), .unset, .unset, .unset] [])) := by
    intro T_ h_ lc_ X_ e_ N_ O_ At1 Fp Yp At16 Fw Fu Yw
    refine gIload X_ hx (hb hby at_85) rfl ?_
    refine gIconst X_ hx (hb hby at_87) (v := (1 : Int32)) rfl ?_
    refine gIand X_ hx (hb hby at_88) ?_
    by_cases g : (mk.toInt32 &&& (1 : Int32)) = 0
    · refine gIfY X_ hx (hb hby at_89) (pc' := 98) (XT.i0_eq_t g) (by decide) (by decide) ?_
      show Goes p e below _ (T_.setTop (mkF m 98 #[.val (.int p0), .val (.int p1), .val (.int p2), .val (.int p3), .val (.int p4), .val (.int p5), .val (.int ca.toInt32), .val (.int cb.toInt32), .val (.int cc.toInt32), .val (.int cd.toInt32), .val (.int it.toInt32), .val (.int mk.toInt32), .val (.ref ob2), .val (.ref ob17), .unset, .unset, .unset] []))
      rw [← own_unset_all mk lmk 0 (by decide) g] at Fu Yw
      exact at98  T_ h_ _  X_ e_ N_  O_ At1 Fp Yp At16 Fw Fu Yw
    · refine gIfN X_ hx (hb hby at_89) (XT.i0_eq_f g) ?_
      show Goes p e below _ (T_.setTop (mkF m 92 #[.val (.int p0), .val (.int p1), .val (.int p2), .val (.int p3), .val (.int p4), .val (.int p5), .val (.int ca.toInt32), .val (.int cb.toInt32), .val (.int cc.toInt32), .val (.int cd.toInt32), .val (.int it.toInt32), .val (.int mk.toInt32), .val (.ref ob2), .val (.ref ob17), .unset, .unset, .unset] []))
      refine gAload X_ hx (hb hby at_92) rfl rfl ?_
      refine gIconst X_ hx (hb hby at_94) (v := (0 : Int32)) rfl ?_
      obtain ⟨sw, su⟩ := own_set_all mk lmk 0 (by decide) g
      refine goCallV X_ hx hZ hown (hw _ (List.mem_of_getElem? (i := 45) rfl)) (hw _ (List.mem_of_getElem? (i := 46) rfl)) (hw _ (List.mem_of_getElem? (i := 48) rfl)) (hw _ (List.mem_of_getElem? (i := 47) rfl)) (hw _ (List.mem_of_getElem? (i := 25) rfl)) (hw _ (List.mem_of_getElem? (i := 49) rfl)) (by decide) (rmSe l Z a0 hw ua (mk % 2 ^ 0).toInt64 (mk % 2 ^ 1).toInt64 (own_uu (mk % 2 ^ 0)) ob17 (0 : Int32) h_ O_ S_a At16 Fw Fu Yw (own_uu01 _) ne_ob17_ua fr_ob17 fr_ua (by decide) (by decide) sw) 0 (by decide) (by decide) e_ At16 (hsz rfl) [(.int (0 : Int32))] [] pd_1 rfl rfl rfl (Nat.le_of_eq rfl) (hb hby at_95) (by decide) (by decide) (fun Tt39 vt39 Lt39 Xt39 qt39 => ?_)
      obtain ⟨ht39, et39⟩ : ∃ z, Tt39.heap = z := ⟨_, rfl⟩
      rw [et39] at qt39
      obtain ⟨rfl, N40, Kct39, Fw, Fu, Yw⟩ := qt39
      have N41 := Fr.app N_ N40
      replace At1 := At1.keep Kct39
      replace Fp := Fp.keep Kct39 (ninS ne_ob2_ob17 (ninS ne_ob2_ua nin0))
      replace Yp := Yp.keep Kct39 (ninS ne_u_ob17 (ninS ne_u_ua nin0))
      replace At16 := At16.keep Kct39
      have O42 : Ext Z.heap ht39 := extK O_ Kct39 (allS fr_ob17 (allS fr_ua all0))
      show Goes p e below _ (Tt39.setTop (mkF m 98 #[.val (.int p0), .val (.int p1), .val (.int p2), .val (.int p3), .val (.int p4), .val (.int p5), .val (.int ca.toInt32), .val (.int cb.toInt32), .val (.int cc.toInt32), .val (.int cd.toInt32), .val (.int it.toInt32), .val (.int mk.toInt32), .val (.ref ob2), .val (.ref ob17), .unset, .unset, .unset] []))
      rw [← su] at Fu
      exact at98  Tt39 ht39 _  Xt39 et39 N41  O42 At1 Fp Yp At16 Fw Fu Yw
  exact at85  Tt19 ht19 _  Xt19 et19 N21  O22 At1 Fp Yp At16 Fw Fu Yw
set_option maxRecDepth 65536 in
set_option maxHeartbeats 40000000 in
theorem comes_1 {Post : Tables → Env → Array Value → State → Outcome → State → Prop} (hpost : ∀ tb e args s v u, (limb_1_1.after args s (.returned v) u = true ∧ limb_1_2.after args s (.returned v) u = true ∧ True) → FrameEnd s (.returned v) u (Jvm.fieldLocs frame_1_writes args s ++ Jvm.arrayLocs frame_1_arrays args s ++ Jvm.staticLocs frame_1_statics s) 24 128 → Post tb e args s (.returned v) u) :
    ArmFor flags0 classFile x code maxLocals ret World_1 tables_1 room_1 Calls_1 rest_1 Pre_1 Post := by
  intro l hfl _ _ p e ha hc hk s m args below hf hA hF happ hP
  obtain ⟨hcalls, hrest, hpre⟩ := hP
  obtain ⟨-, -, -, hnamed, -, -, -, hat⟩ := (Spec.applies_iff hf).mp happ
  obtain ⟨hg, hn⟩ := and_e (Cond.before_iff.mp (show (Jvm.Cond.and given_1 narrow_1).before args s = true from hpre))
  obtain ⟨hc0, r0⟩ := and_e hg
  obtain ⟨c0, r1⟩ := and_e r0
  obtain ⟨c1, r2⟩ := and_e r1
  obtain ⟨c2, r3⟩ := and_e r2
  obtain ⟨c3, r4⟩ := and_e r3
  obtain ⟨c4, r5⟩ := and_e r4
  have c5 := r5
  obtain ⟨w0, w1, w2, w3, w4, w5, rfl⟩ : ∃ w0 w1 w2 w3 w4 w5 : Value, args = #[w0, w1, w2, w3, w4, w5] := by
    have hs : args.size = 6 := by simpa [Cond.value, given_1] using hc0
    obtain ⟨L⟩ := args
    match L, hs with
    | [w0, w1, w2, w3, w4, w5], _ => exact ⟨w0, w1, w2, w3, w4, w5, rfl⟩
  have hw := fun d (hd : d ∈ tables_1) => atoms_spec (ws := Jvm.Cond.code x code maxLocals ret :: tables_1) hat d (List.mem_cons_of_mem _ hd)
  obtain ⟨hsets, hown0⟩ := atoms_of _ (rest_1_c_eq ▸ (show rest_1_c.before _ s = true from hrest))
  have hfit : Fit s := fun {y c} hc i hi => by
    obtain ⟨ha, rfl⟩ := Array.getElem?_eq_some_iff.mp hc
    have q := List.all_eq_true.mp ((Array.all_eq_true_iff_forall_mem.mp hF) _ (Array.getElem_mem ha)) i (List.mem_range.mpr hi)
    simpa [Array.getElem?_eq_getElem hi] using q
  obtain ⟨x0, y0⟩ := is_v c0
  obtain rfl : w0 = (.int x0) := Option.some.inj y0
  obtain ⟨x1, y1⟩ := is_v c1
  obtain rfl : w1 = (.int x1) := Option.some.inj y1
  obtain ⟨x2, y2⟩ := is_v c2
  obtain rfl : w2 = (.int x2) := Option.some.inj y2
  obtain ⟨x3, y3⟩ := is_v c3
  obtain rfl : w3 = (.int x3) := Option.some.inj y3
  obtain ⟨x4, y4⟩ := is_v c4
  obtain rfl : w4 = (.int x4) := Option.some.inj y4
  obtain ⟨x5, y5⟩ := is_v c5
  obtain rfl : w5 = (.int x5) := Option.some.inj y5
  have S_a : Sta s s.heap "java/util/BitSet" "$assertionsDisabled" "Z" (.int (1 : Int32)) := Sta.start (eqI_v (Cond.before_iff.mp (hsets _ (List.mem_of_getElem? (i := 2) rfl)))) (Or.inl (hsets _ (List.mem_of_getElem? (i := 1) rfl)))
  obtain ⟨n, o, h1, h2, h3, _, L, rfl, ⟨rfl, N⟩, hq⟩ := rm0 l s _ hw x0 x1 x2 x3 x4 x5 s.heap ⟨Nat.le_refl _, fun _ _ q => q⟩ S_a p e ha hc hk s m _ below hf ((Spec.applies_iff_loose hf).mp happ).1 ⟨rfl, State.Warmed39.refl s, rfl⟩ trivial
  refine ⟨n, _, h1, h2, h3, hpost _ _ _ _ _ _ ⟨Cond.after_iff.mpr rfl, Cond.after_iff.mpr (eq_i res_at (Term.int_eval (1)) rfl), trivial⟩ ⟨hq.1, hq.2.1, (hq.2.2.sift fun y hy => Or.inr (N y hy)).mono (by decide) (by decide)⟩⟩
theorem main_1_1 : Claimed_1_1 := comes_1 fun _ _ _ _ _ _ h hF => ⟨h.1, hF⟩
theorem main_1_2 : Claimed_1_2 := comes_1 fun _ _ _ _ _ _ h hF => ⟨h.2.1, hF⟩
end Jvm.Pilot.@@N@@
namespace Jvm.Pilot.@@N@@
open Jvm Jvm.ClassFile Sem Op Lib Jvm.Free Jvm.Stand Jvm.Pilot.@@N@@.Jvm.D
/-! MADE BY PROGRAM (witnessworld.py) out of the Statement's table words and the real class files: 18 classes; the members and pool entries that the words name. The judged class is class 1, her method 7. -/
namespace start1
open Jvm.ClassFile
def u (s : String) : CpInfo := .utf8 (stringToUtf16 s)
/-- a pool by its gaps: so many unusable entries, then the entry; so many at the end -/
def gap : Nat → List CpInfo → List CpInfo
  | 0, r => r
  | n + 1, r => .unusable :: gap n r
def poolList (es : List (Nat × CpInfo)) (last : Nat) : List CpInfo := es.foldr (fun e r => gap e.1 (e.2 :: r)) (gap last [])
def pool (es : List (Nat × CpInfo)) (last : Nat) : Array CpInfo := ⟨poolList es last⟩
def fileOf (pool : Array CpInfo) (this : Nat) (attrs : Array Attribute := #[]) (ms : Array MethodInfo := #[]) (fl : Nat := 33) (sup : Nat := 0) (ifs : Array Nat := #[]) (fds : Array FieldInfo := #[]) : ClassFile where
  minorVersion := 0
  majorVersion := 65
  constantPool := pool
  accessFlags := fl
  thisClass := this
  superClass := sup
  interfaces := ifs
  fields := fds
  methods := ms
  attributes := attrs
def plain (name : String) (sup : Option ClassId) : Class where
  name := name
  kind := .ordinary
  loader := none
  accessFlags := 33
  super := sup
  interfaces := #[]
  cf := none
  fields := #[]
  methods := #[]
  instanceTypes := #[]
  staticTypes := #[]
  resolved := #[]
  callSites := []
  init := .initialized
  statics := none
  mirror := none

def pool0 : Array CpInfo := pool [(5, u "<init>"), (0, u "()V"), (1, .class_ 10), (1, u "java/lang/Object")] 113

def k0c0 : Code := { maxStack := 0, maxLocals := 1, code := object_method_1_code, exceptionTable := #[], attributes := #[] }
def k0m0 : Method := { name := "<init>", desc := "()V", sig := { parameters := [], returnType := none }, accessFlags := 1, code := some k0c0 }
/-- java/lang/Object -/
def k0 : Class := { plain "java/lang/Object" none with
  accessFlags := 33
  interfaces := #[]
  cf := some (fileOf pool0 8 #[] #[{ accessFlags := 1, nameIndex := 5, descriptorIndex := 6, attributes := #[] }] 33 0 #[] #[])
  fields := #[]
  methods := #[k0m0]
  instanceTypes := #[]
  staticTypes := #[]
  resolved := Array.replicate 124 none
  statics := none }

def pool1 : Array CpInfo := pool [(2, .class_ 4), (0, .nameAndType 5 6), (0, u "java/lang/Object"), (0, u "<init>"), (0, u "()V"), (0, .methodref 8 9), (0, .class_ 10), (0, .nameAndType 11 12), (0, u "com/example/phal/phal/service/GroupsJoinPinLaw"), (0, u "label1"), (0, u "(III)I"), (0, .methodref 8 14), (0, .nameAndType 15 16), (0, u "inM"), (0, u "(III[I)Z"), (0, .methodref 8 18), (0, .nameAndType 19 20), (0, u "same"), (0, u "(IIII[I)Z"), (0, .integer 2147483647), (0, .class_ 23), (0, u "com/example/phal/phal/service/Groups"), (0, .methodref 22 25), (0, .nameAndType 5 26), (0, u "(I)V"), (0, .methodref 22 28), (0, .nameAndType 29 30), (0, u "join"), (0, u "(II)V"), (0, .class_ 32), (0, u "java/util/BitSet"), (0, .methodref 31 3), (0, .methodref 31 35), (0, .nameAndType 36 26), (0, u "set"), (0, .methodref 22 38), (0, .nameAndType 29 39), (0, u "(ILjava/util/BitSet;)V"), (0, .methodref 22 41), (0, .nameAndType 42 43), (0, u "root"), (0, u "(I)I"), (0, .methodref 8 45), (0, .nameAndType 46 47), (0, u "label2"), (0, u "(IIIII)I"), (0, .methodref 8 49), (0, .nameAndType 50 51), (0, u "rootOk"), (0, u "([IIII[I)Z"), (0, .methodref 8 53), (0, .nameAndType 54 55), (0, u "pair"), (0, u "([IIIII[I)Z"), (3, u "law"), (0, u "(IIIIII)Z")] 4

def k1m0 : Method := { name := "<init>", desc := "()V", sig := { parameters := [], returnType := none }, accessFlags := 1, code := none }
def k1c1 : Code := { maxStack := 2, maxLocals := 3, code := method_2_code, exceptionTable := #[], attributes := #[] }
def k1m1 : Method := { name := "label1", desc := "(III)I", sig := { parameters := [.int, .int, .int], returnType := some .int }, accessFlags := 10, code := some k1c1 }
def k1c2 : Code := { maxStack := 3, maxLocals := 8, code := method_3_code, exceptionTable := #[], attributes := #[] }
def k1m2 : Method := { name := "label2", desc := "(IIIII)I", sig := { parameters := [.int, .int, .int, .int, .int], returnType := some .int }, accessFlags := 10, code := some k1c2 }
def k1c3 : Code := { maxStack := 3, maxLocals := 4, code := method_4_code, exceptionTable := #[], attributes := #[] }
def k1m3 : Method := { name := "inM", desc := "(III[I)Z", sig := { parameters := [.int, .int, .int, (.array .int)], returnType := some .boolean }, accessFlags := 10, code := some k1c3 }
def k1c4 : Code := { maxStack := 4, maxLocals := 7, code := method_5_code, exceptionTable := #[], attributes := #[] }
def k1m4 : Method := { name := "same", desc := "(IIII[I)Z", sig := { parameters := [.int, .int, .int, .int, (.array .int)], returnType := some .boolean }, accessFlags := 10, code := some k1c4 }
def k1c5 : Code := { maxStack := 5, maxLocals := 6, code := method_6_code, exceptionTable := #[], attributes := #[] }
def k1m5 : Method := { name := "rootOk", desc := "([IIII[I)Z", sig := { parameters := [(.array .int), .int, .int, .int, (.array .int)], returnType := some .boolean }, accessFlags := 10, code := some k1c5 }
def k1c6 : Code := { maxStack := 6, maxLocals := 6, code := method_7_code, exceptionTable := #[], attributes := #[] }
def k1m6 : Method := { name := "pair", desc := "([IIIII[I)Z", sig := { parameters := [(.array .int), .int, .int, .int, .int, (.array .int)], returnType := some .boolean }, accessFlags := 10, code := some k1c6 }
def k1c7 : Code := { maxStack := 7, maxLocals := 17, code := code, exceptionTable := #[], attributes := #[] }
def k1m7 : Method := { name := "law", desc := "(IIIIII)Z", sig := { parameters := [.int, .int, .int, .int, .int, .int], returnType := some .boolean }, accessFlags := 9, code := some k1c7 }
/-- com/example/phal/phal/service/GroupsJoinPinLaw -/
def k1 : Class := { plain "com/example/phal/phal/service/GroupsJoinPinLaw" (some 0) with
  accessFlags := 49
  interfaces := #[]
  cf := some (fileOf pool1 8 #[] #[{ accessFlags := 1, nameIndex := 5, descriptorIndex := 6, attributes := #[] }, { accessFlags := 10, nameIndex := 11, descriptorIndex := 12, attributes := #[] }, { accessFlags := 10, nameIndex := 46, descriptorIndex := 47, attributes := #[] }, { accessFlags := 10, nameIndex := 15, descriptorIndex := 16, attributes := #[] }, { accessFlags := 10, nameIndex := 19, descriptorIndex := 20, attributes := #[] }, { accessFlags := 10, nameIndex := 50, descriptorIndex := 51, attributes := #[] }, { accessFlags := 10, nameIndex := 54, descriptorIndex := 55, attributes := #[] }, { accessFlags := 9, nameIndex := 59, descriptorIndex := 60, attributes := #[] }] 49 2 #[] #[])
  fields := #[]
  methods := #[k1m0, k1m1, k1m2, k1m3, k1m4, k1m5, k1m6, k1m7]
  instanceTypes := #[]
  staticTypes := #[]
  resolved := Array.replicate 65 none
  statics := none }

def pool2 : Array CpInfo := pool [(1, .methodref 2 3), (0, .class_ 4), (0, .nameAndType 5 6), (0, u "java/lang/Object"), (0, u "<init>"), (0, u "()V"), (0, .fieldref 8 9), (0, .class_ 10), (0, .nameAndType 11 12), (0, u "com/example/phal/phal/service/Groups"), (0, u "parent"), (0, u "[I"), (0, .methodref 14 15), (0, .class_ 16), (0, .nameAndType 17 18), (0, u "java/util/BitSet"), (0, u "nextSetBit"), (0, u "(I)I"), (0, .methodref 8 20), (0, .nameAndType 21 22), (0, u "join"), (0, u "(II)V"), (0, .methodref 8 24), (0, .nameAndType 25 18), (0, u "root"), (0, u "(I)V"), (3, u "(ILjava/util/BitSet;)V")] 2

def k2c0 : Code := { maxStack := 3, maxLocals := 3, code := prog_15_method_1_code, exceptionTable := #[], attributes := #[] }
def k2m0 : Method := { name := "<init>", desc := "(I)V", sig := { parameters := [.int], returnType := none }, accessFlags := 0, code := some k2c0 }
def k2c1 : Code := { maxStack := 3, maxLocals := 4, code := prog_15_method_2_code, exceptionTable := #[], attributes := #[] }
def k2m1 : Method := { name := "join", desc := "(ILjava/util/BitSet;)V", sig := { parameters := [.int, (.object "java/util/BitSet")], returnType := none }, accessFlags := 0, code := some k2c1 }
def k2c2 : Code := { maxStack := 4, maxLocals := 3, code := prog_15_method_3_code, exceptionTable := #[], attributes := #[] }
def k2m2 : Method := { name := "join", desc := "(II)V", sig := { parameters := [.int, .int], returnType := none }, accessFlags := 0, code := some k2c2 }
def k2c3 : Code := { maxStack := 5, maxLocals := 3, code := prog_15_method_4_code, exceptionTable := #[], attributes := #[] }
def k2m3 : Method := { name := "root", desc := "(I)I", sig := { parameters := [.int], returnType := some .int }, accessFlags := 0, code := some k2c3 }
/-- com/example/phal/phal/service/Groups -/
def k2 : Class := { plain "com/example/phal/phal/service/Groups" (some 0) with
  accessFlags := 48
  interfaces := #[]
  cf := some (fileOf pool2 8 #[] #[{ accessFlags := 0, nameIndex := 5, descriptorIndex := 26, attributes := #[] }, { accessFlags := 0, nameIndex := 21, descriptorIndex := 30, attributes := #[] }, { accessFlags := 0, nameIndex := 21, descriptorIndex := 22, attributes := #[] }, { accessFlags := 0, nameIndex := 25, descriptorIndex := 18, attributes := #[] }] 48 2 #[] #[{ accessFlags := 18, nameIndex := 11, descriptorIndex := 12, attributes := #[] }])
  fields := #[{ name := "parent", type := (.array .int), accessFlags := 18, slot := 0, constantValue := 0 }]
  methods := #[k2m0, k2m1, k2m2, k2m3]
  instanceTypes := #[(.array .int)]
  staticTypes := #[]
  resolved := Array.replicate 33 none
  statics := none }

def pool3 : Array CpInfo := pool [(1, .class_ 2), (0, u "java/lang/Cloneable"), (0, .class_ 4), (0, u "java/lang/Object")] 2

/-- java/lang/Cloneable -/
def k3 : Class := { plain "java/lang/Cloneable" (some 0) with
  accessFlags := 1537
  interfaces := #[]
  cf := some (fileOf pool3 1 #[] #[] 1537 3 #[] #[])
  fields := #[]
  methods := #[]
  instanceTypes := #[]
  staticTypes := #[]
  resolved := Array.replicate 7 none
  statics := none }

def pool4 : Array CpInfo := pool [(1, .class_ 2), (0, u "java/io/Serializable"), (0, .class_ 4), (0, u "java/lang/Object")] 2

/-- java/io/Serializable -/
def k4 : Class := { plain "java/io/Serializable" (some 0) with
  accessFlags := 1537
  interfaces := #[]
  cf := some (fileOf pool4 1 #[] #[] 1537 3 #[] #[])
  fields := #[]
  methods := #[]
  instanceTypes := #[]
  staticTypes := #[]
  resolved := Array.replicate 7 none
  statics := none }

def pool5 : Array CpInfo := pool [(1, .class_ 2), (0, u "java/util/BitSet"), (0, .fieldref 1 4), (0, .nameAndType 5 6), (0, u "$assertionsDisabled"), (0, u "Z"), (0, .fieldref 1 8), (0, .nameAndType 9 10), (0, u "wordsInUse"), (0, u "I"), (0, .fieldref 1 12), (0, .nameAndType 13 14), (0, u "words"), (0, u "[J"), (3, .nameAndType 19 20), (0, u "<init>"), (0, u "()V"), (0, .methodref 22 18), (0, .class_ 23), (0, u "java/lang/Object"), (0, .fieldref 1 25), (0, .nameAndType 26 6), (0, u "sizeIsSticky"), (0, .methodref 1 28), (0, .nameAndType 29 30), (0, u "initWords"), (0, u "(I)V"), (21, .methodref 1 53), (0, .nameAndType 54 55), (0, u "wordIndex"), (0, u "(I)I"), (0, .methodref 1 57), (0, .nameAndType 58 20), (0, u "checkInvariants"), (80, .methodref 1 140), (0, .nameAndType 141 30), (0, u "ensureCapacity"), (13, .methodref 1 156), (0, .nameAndType 157 30), (0, u "expandTo"), (7, .long 18446744073709551615), (3, u "set"), (12, .methodref 183 184), (0, .class_ 185), (0, .nameAndType 186 187), (0, u "java/lang/Long"), (0, u "numberOfTrailingZeros"), (0, u "(J)I"), (75, u "nextSetBit"), (5, .class_ 270), (0, u "java/util/BitSet$1BitSetSpliterator"), (22, u "serialPersistentFields"), (0, u "[Ljava/io/ObjectStreamField;"), (0, .class_ 296), (0, u "java/lang/Cloneable"), (0, .class_ 298), (0, u "java/io/Serializable"), (0, u "ADDRESS_BITS_PER_WORD"), (2, u "BITS_PER_WORD"), (1, u "BIT_INDEX_MASK"), (1, u "WORD_MASK"), (0, u "J"), (0, u "serialVersionUID")] 108

def k5c0 : Code := { maxStack := 2, maxLocals := 1, code := jdk_92_method_1_code, exceptionTable := #[], attributes := #[] }
def k5m0 : Method := { name := "wordIndex", desc := "(I)I", sig := { parameters := [.int], returnType := some .int }, accessFlags := 10, code := some k5c0 }
def k5c1 : Code := { maxStack := 4, maxLocals := 1, code := jdk_92_method_2_code, exceptionTable := #[], attributes := #[] }
def k5m1 : Method := { name := "checkInvariants", desc := "()V", sig := { parameters := [], returnType := none }, accessFlags := 2, code := some k5c1 }
def k5c2 : Code := { maxStack := 2, maxLocals := 1, code := jdk_92_method_4_code, exceptionTable := #[], attributes := #[] }
def k5m2 : Method := { name := "<init>", desc := "()V", sig := { parameters := [], returnType := none }, accessFlags := 1, code := some k5c2 }
def k5c3 : Code := { maxStack := 3, maxLocals := 2, code := jdk_92_method_6_code, exceptionTable := #[], attributes := #[] }
def k5m3 : Method := { name := "initWords", desc := "(I)V", sig := { parameters := [.int], returnType := none }, accessFlags := 2, code := some k5c3 }
def k5c4 : Code := { maxStack := 3, maxLocals := 3, code := jdk_92_method_14_code, exceptionTable := #[], attributes := #[] }
def k5m4 : Method := { name := "ensureCapacity", desc := "(I)V", sig := { parameters := [.int], returnType := none }, accessFlags := 2, code := some k5c4 }
def k5c5 : Code := { maxStack := 2, maxLocals := 3, code := jdk_92_method_15_code, exceptionTable := #[], attributes := #[] }
def k5m5 : Method := { name := "expandTo", desc := "(I)V", sig := { parameters := [.int], returnType := none }, accessFlags := 2, code := some k5c5 }
def k5c6 : Code := { maxStack := 7, maxLocals := 3, code := jdk_92_method_19_code, exceptionTable := #[], attributes := #[] }
def k5m6 : Method := { name := "set", desc := "(I)V", sig := { parameters := [.int], returnType := none }, accessFlags := 1, code := some k5c6 }
def k5c7 : Code := { maxStack := 5, maxLocals := 5, code := jdk_92_method_28_code, exceptionTable := #[], attributes := #[] }
def k5m7 : Method := { name := "nextSetBit", desc := "(I)I", sig := { parameters := [.int], returnType := some .int }, accessFlags := 1, code := some k5c7 }
/-- java/util/BitSet -/
def k5 : Class := { plain "java/util/BitSet" (some 0) with
  accessFlags := 33
  interfaces := #[3, 4]
  cf := some (fileOf pool5 1 #[.nestMembers #[269]] #[{ accessFlags := 10, nameIndex := 54, descriptorIndex := 55, attributes := #[] }, { accessFlags := 2, nameIndex := 58, descriptorIndex := 20, attributes := #[] }, { accessFlags := 1, nameIndex := 19, descriptorIndex := 20, attributes := #[] }, { accessFlags := 2, nameIndex := 29, descriptorIndex := 30, attributes := #[] }, { accessFlags := 2, nameIndex := 141, descriptorIndex := 30, attributes := #[] }, { accessFlags := 2, nameIndex := 157, descriptorIndex := 30, attributes := #[] }, { accessFlags := 1, nameIndex := 169, descriptorIndex := 30, attributes := #[] }, { accessFlags := 1, nameIndex := 263, descriptorIndex := 55, attributes := #[] }] 33 22 #[295, 297] #[{ accessFlags := 26, nameIndex := 299, descriptorIndex := 10, attributes := #[] }, { accessFlags := 26, nameIndex := 302, descriptorIndex := 10, attributes := #[] }, { accessFlags := 26, nameIndex := 304, descriptorIndex := 10, attributes := #[] }, { accessFlags := 26, nameIndex := 306, descriptorIndex := 307, attributes := #[] }, { accessFlags := 26, nameIndex := 293, descriptorIndex := 294, attributes := #[] }, { accessFlags := 2, nameIndex := 13, descriptorIndex := 14, attributes := #[] }, { accessFlags := 130, nameIndex := 9, descriptorIndex := 10, attributes := #[] }, { accessFlags := 130, nameIndex := 26, descriptorIndex := 6, attributes := #[] }, { accessFlags := 26, nameIndex := 308, descriptorIndex := 307, attributes := #[] }, { accessFlags := 4120, nameIndex := 5, descriptorIndex := 6, attributes := #[] }])
  fields := #[{ name := "ADDRESS_BITS_PER_WORD", type := .int, accessFlags := 26, slot := 0, constantValue := 0 }, { name := "BITS_PER_WORD", type := .int, accessFlags := 26, slot := 1, constantValue := 0 }, { name := "BIT_INDEX_MASK", type := .int, accessFlags := 26, slot := 2, constantValue := 0 }, { name := "WORD_MASK", type := .long, accessFlags := 26, slot := 3, constantValue := 0 }, { name := "serialPersistentFields", type := (.array (.object "java/io/ObjectStreamField")), accessFlags := 26, slot := 4, constantValue := 0 }, { name := "words", type := (.array .long), accessFlags := 2, slot := 0, constantValue := 0 }, { name := "wordsInUse", type := .int, accessFlags := 130, slot := 1, constantValue := 0 }, { name := "sizeIsSticky", type := .boolean, accessFlags := 130, slot := 2, constantValue := 0 }, { name := "serialVersionUID", type := .long, accessFlags := 26, slot := 5, constantValue := 0 }, { name := "$assertionsDisabled", type := .boolean, accessFlags := 4120, slot := 6, constantValue := 0 }]
  methods := #[k5m0, k5m1, k5m2, k5m3, k5m4, k5m5, k5m6, k5m7]
  instanceTypes := #[(.array .long), .int, .boolean]
  staticTypes := #[.int, .int, .int, .long, (.array (.object "java/io/ObjectStreamField")), .long, .boolean]
  resolved := Array.replicate 417 none
  statics := some 0 }

def pool6 : Array CpInfo := pool [(2, .class_ 4), (1, u "java/lang/Object"), (0, u "<init>"), (0, u "()V"), (1, .class_ 10), (1, u "java/lang/Number"), (2, .class_ 14), (0, u "java/io/Serializable"), (0, u "serialVersionUID"), (0, u "J")] 20

def k6m0 : Method := { name := "<init>", desc := "()V", sig := { parameters := [], returnType := none }, accessFlags := 1, code := none }
/-- java/lang/Number -/
def k6 : Class := { plain "java/lang/Number" (some 0) with
  accessFlags := 1057
  interfaces := #[4]
  cf := some (fileOf pool6 8 #[] #[{ accessFlags := 1, nameIndex := 5, descriptorIndex := 6, attributes := #[] }] 1057 2 #[13] #[{ accessFlags := 26, nameIndex := 15, descriptorIndex := 16, attributes := #[] }])
  fields := #[{ name := "serialVersionUID", type := .long, accessFlags := 26, slot := 0, constantValue := 0 }]
  methods := #[k6m0]
  instanceTypes := #[]
  staticTypes := #[.long]
  resolved := Array.replicate 37 none
  statics := none }

def pool7 : Array CpInfo := pool [(1, .class_ 2), (0, u "java/lang/Comparable"), (0, .class_ 4), (0, u "java/lang/Object")] 7

/-- java/lang/Comparable -/
def k7 : Class := { plain "java/lang/Comparable" (some 0) with
  accessFlags := 1537
  interfaces := #[]
  cf := some (fileOf pool7 1 #[] #[] 1537 3 #[] #[])
  fields := #[]
  methods := #[]
  instanceTypes := #[]
  staticTypes := #[]
  resolved := Array.replicate 12 none
  statics := none }

def pool8 : Array CpInfo := pool [(1, .class_ 2), (0, u "java/lang/constant/Constable"), (0, .class_ 4), (0, u "java/lang/Object")] 6

/-- java/lang/constant/Constable -/
def k8 : Class := { plain "java/lang/constant/Constable" (some 0) with
  accessFlags := 1537
  interfaces := #[]
  cf := some (fileOf pool8 1 #[] #[] 1537 3 #[] #[])
  fields := #[]
  methods := #[]
  instanceTypes := #[]
  staticTypes := #[]
  resolved := Array.replicate 11 none
  statics := none }

def pool9 : Array CpInfo := pool [(1, .class_ 2), (0, u "java/lang/constant/ConstantDesc"), (0, .class_ 4), (0, u "java/lang/Object")] 32

/-- java/lang/constant/ConstantDesc -/
def k9 : Class := { plain "java/lang/constant/ConstantDesc" (some 0) with
  accessFlags := 1537
  interfaces := #[]
  cf := some (fileOf pool9 1 #[] #[] 1537 3 #[] #[])
  fields := #[]
  methods := #[]
  instanceTypes := #[]
  staticTypes := #[]
  resolved := Array.replicate 37 none
  statics := none }

def pool10 : Array CpInfo := pool [(1, .class_ 2), (0, u "java/lang/Long"), (15, .class_ 20), (1, u "java/lang/Integer"), (80, u "(J)I"), (133, .class_ 237), (1, u "java/lang/Long$LongCache"), (33, .class_ 272), (0, u "java/lang/Number"), (2, u "value"), (0, u "J"), (33, u "(I)I"), (0, .methodref 18 312), (0, .nameAndType 313 310), (0, u "numberOfTrailingZeros"), (47, u "TYPE"), (0, u "Ljava/lang/Class;"), (0, .class_ 364), (0, u "java/lang/Comparable"), (0, .class_ 366), (0, u "java/lang/constant/Constable"), (0, .class_ 368), (0, u "java/lang/constant/ConstantDesc"), (0, u "MIN_VALUE"), (1, u "MAX_VALUE"), (4, u "SIZE"), (0, u "I"), (1, u "BYTES"), (1, u "serialVersionUID")] 142

def k10c0 : Code := { maxStack := 4, maxLocals := 3, code := jdk_35_method_49_code, exceptionTable := #[], attributes := #[] }
def k10m0 : Method := { name := "numberOfTrailingZeros", desc := "(J)I", sig := { parameters := [.long], returnType := some .int }, accessFlags := 9, code := some k10c0 }
/-- java/lang/Long -/
def k10 : Class := { plain "java/lang/Long" (some 6) with
  accessFlags := 49
  interfaces := #[7, 8, 9]
  cf := some (fileOf pool10 1 #[.nestMembers #[235]] #[{ accessFlags := 9, nameIndex := 313, descriptorIndex := 101, attributes := #[] }] 49 271 #[363, 365, 367] #[{ accessFlags := 25, nameIndex := 369, descriptorIndex := 276, attributes := #[] }, { accessFlags := 25, nameIndex := 371, descriptorIndex := 276, attributes := #[] }, { accessFlags := 25, nameIndex := 361, descriptorIndex := 362, attributes := #[] }, { accessFlags := 18, nameIndex := 275, descriptorIndex := 276, attributes := #[] }, { accessFlags := 25, nameIndex := 376, descriptorIndex := 377, attributes := #[] }, { accessFlags := 25, nameIndex := 379, descriptorIndex := 377, attributes := #[] }, { accessFlags := 26, nameIndex := 381, descriptorIndex := 276, attributes := #[] }])
  fields := #[{ name := "MIN_VALUE", type := .long, accessFlags := 25, slot := 0, constantValue := 0 }, { name := "MAX_VALUE", type := .long, accessFlags := 25, slot := 1, constantValue := 0 }, { name := "TYPE", type := (.object "java/lang/Class"), accessFlags := 25, slot := 2, constantValue := 0 }, { name := "value", type := .long, accessFlags := 18, slot := 0, constantValue := 0 }, { name := "SIZE", type := .int, accessFlags := 25, slot := 3, constantValue := 0 }, { name := "BYTES", type := .int, accessFlags := 25, slot := 4, constantValue := 0 }, { name := "serialVersionUID", type := .long, accessFlags := 26, slot := 5, constantValue := 0 }]
  methods := #[k10m0]
  instanceTypes := #[.long]
  staticTypes := #[.long, .long, (.object "java/lang/Class"), .int, .int, .long]
  resolved := Array.replicate 524 none
  statics := none }

def pool11 : Array CpInfo := pool [(1, .class_ 2), (0, u "java/lang/Integer"), (16, u "digits"), (0, u "[C"), (33, u "(I)I"), (30, u "DigitOnes"), (0, u "[B"), (2, u "DigitTens"), (99, .class_ 190), (0, u "java/lang/Integer$IntegerCache"), (3, u "I"), (8, .class_ 204), (0, u "java/lang/Number"), (2, u "value"), (56, .integer 65536), (37, u "TYPE"), (0, u "Ljava/lang/Class;"), (0, .class_ 305), (0, u "java/lang/Comparable"), (0, .class_ 307), (0, u "java/lang/constant/Constable"), (0, .class_ 309), (0, u "java/lang/constant/ConstantDesc"), (0, u "MIN_VALUE"), (1, u "MAX_VALUE"), (3, u "SIZE"), (1, u "BYTES"), (1, u "serialVersionUID"), (0, u "J"), (84, u "numberOfTrailingZeros")] 46

def k11c0 : Code := { maxStack := 3, maxLocals := 2, code := jdk_33_method_48_code, exceptionTable := #[], attributes := #[] }
def k11m0 : Method := { name := "numberOfTrailingZeros", desc := "(I)I", sig := { parameters := [.int], returnType := some .int }, accessFlags := 9, code := some k11c0 }
/-- java/lang/Integer -/
def k11 : Class := { plain "java/lang/Integer" (some 6) with
  accessFlags := 49
  interfaces := #[7, 8, 9]
  cf := some (fileOf pool11 1 #[.nestMembers #[189]] #[{ accessFlags := 9, nameIndex := 406, descriptorIndex := 54, attributes := #[] }] 49 203 #[304, 306, 308] #[{ accessFlags := 25, nameIndex := 310, descriptorIndex := 194, attributes := #[] }, { accessFlags := 25, nameIndex := 312, descriptorIndex := 194, attributes := #[] }, { accessFlags := 25, nameIndex := 302, descriptorIndex := 303, attributes := #[] }, { accessFlags := 24, nameIndex := 19, descriptorIndex := 20, attributes := #[] }, { accessFlags := 24, nameIndex := 89, descriptorIndex := 86, attributes := #[] }, { accessFlags := 24, nameIndex := 85, descriptorIndex := 86, attributes := #[] }, { accessFlags := 18, nameIndex := 207, descriptorIndex := 194, attributes := #[] }, { accessFlags := 25, nameIndex := 316, descriptorIndex := 194, attributes := #[] }, { accessFlags := 25, nameIndex := 318, descriptorIndex := 194, attributes := #[] }, { accessFlags := 26, nameIndex := 320, descriptorIndex := 321, attributes := #[] }])
  fields := #[{ name := "MIN_VALUE", type := .int, accessFlags := 25, slot := 0, constantValue := 0 }, { name := "MAX_VALUE", type := .int, accessFlags := 25, slot := 1, constantValue := 0 }, { name := "TYPE", type := (.object "java/lang/Class"), accessFlags := 25, slot := 2, constantValue := 0 }, { name := "digits", type := (.array .char), accessFlags := 24, slot := 3, constantValue := 0 }, { name := "DigitTens", type := (.array .byte), accessFlags := 24, slot := 4, constantValue := 0 }, { name := "DigitOnes", type := (.array .byte), accessFlags := 24, slot := 5, constantValue := 0 }, { name := "value", type := .int, accessFlags := 18, slot := 0, constantValue := 0 }, { name := "SIZE", type := .int, accessFlags := 25, slot := 6, constantValue := 0 }, { name := "BYTES", type := .int, accessFlags := 25, slot := 7, constantValue := 0 }, { name := "serialVersionUID", type := .long, accessFlags := 26, slot := 8, constantValue := 0 }]
  methods := #[k11m0]
  instanceTypes := #[.int]
  staticTypes := #[.int, .int, (.object "java/lang/Class"), (.array .char), (.array .byte), (.array .byte), .int, .int, .long]
  resolved := Array.replicate 453 none
  statics := none }

/-- the primitive byte -/
def k12 : Class := { plain "byte" none with kind := .primitive 'B', accessFlags := 0x411 }
/-- [B -/
def k13 : Class := { plain "[B" (some 0) with kind := .array 12 .byte, interfaces := #[3, 4], accessFlags := 1041 }

/-- the primitive int -/
def k14 : Class := { plain "int" none with kind := .primitive 'I', accessFlags := 0x411 }
/-- [I -/
def k15 : Class := { plain "[I" (some 0) with kind := .array 14 .int, interfaces := #[3, 4], accessFlags := 1041 }

/-- the primitive long -/
def k16 : Class := { plain "long" none with kind := .primitive 'J', accessFlags := 0x411 }
/-- [J -/
def k17 : Class := { plain "[J" (some 0) with kind := .array 16 .long, interfaces := #[3, 4], accessFlags := 1041 }

def heap : Heap := #[{ cls := 5, slots := #[.int 0, .int 0, .int 0, .long 0, .null, .long 0, .int 1], vm := .statics 5 }]
def classes : Array Class := #[k0, k1, k2, k3, k4, k5, k6, k7, k8, k9, k10, k11, k12, k13, k14, k15, k16, k17]
def interned : List (Array UInt16 × Addr) := []
def slotsUsed : Nat := 7
def theMethod : MethodId := ⟨1, 7⟩
def args0 : Array Value := #[.int 5, .int 80, .int 3, .int 9, .int 7, .int 13]
def aboutOver (below : List Frame) : State where
  vm := { classes := classes, interned := interned.toArray }
  heap := heap
  slotsUsed := slotsUsed
  threads := #[{ frames := .invoking theMethod args0 :: below }]
def below0 : List Frame := [.native { method := ⟨0, 0⟩, args := #[] }]
def about1 : State := aboutOver below0
def p0 : Program := .bare "" "" ""
def e0 : Env := launch0.env 0 0 0
theorem w_frames : about1.frames = Frame.invoking theMethod args0 :: below0 := rfl
set_option maxRecDepth 65536 in
theorem w_args : argsFit about1.vm theMethod args0 = true := by decide +kernel
set_option maxRecDepth 65536 in
theorem w_heap : heapFits about1 = true := by decide +kernel
set_option maxRecDepth 65536 in
theorem w_runnable : about1.curStatus? = some .runnable := by decide +kernel
set_option maxRecDepth 65536 in
theorem w_alone : about1.alone = true := by decide +kernel
set_option maxRecDepth 65536 in
theorem w_named : about1.methodNamed? x = some theMethod := by decide +kernel
set_option maxRecDepth 65536 in
theorem w_hears : about1.hears theMethod below0 = true := by decide +kernel
set_option maxRecDepth 65536 in
theorem w_ripe : about1.ripe theMethod args0 below0 = true := by decide +kernel
theorem w_running : about1.status = .running := rfl
set_option maxRecDepth 65536 in
theorem w_room : about1.hasRoom e0.platform room_1 = true :=
  launch0.hasRoom_least _ room_1 (by decide +kernel) (by decide +kernel) (by decide +kernel) (by decide +kernel) (by decide +kernel) (by decide +kernel)
theorem allAtoms_all (ts : List Jvm.Cond) (a : Array Jvm.Value) (st : Jvm.State) : (allAtoms ts).before a st = ts.all (fun c => c.before a st) := by
  induction ts with
  | nil => rfl
  | cons c t ih =>
    show (Jvm.Cond.and c (allAtoms t)).before a st = _
    rw [Jvm.Cond.before_and, ih, List.all_cons]
def words1 : List Jvm.Cond := Jvm.Cond.code x code maxLocals ret :: tables_1
/-- a 'code' word, met by the world's own term for the bytes: nothing is compared byte by byte -/
theorem code_word {y : MethodName} {bytes : ByteArray} {mx : Nat} {rt : Option FieldType} {a : Array Value} {s : State} {m : MethodId} {meth : Method} {c : Code} (h1 : s.methodNamed? y = some m) (h2 : s.vm.method? m = some meth) (h3 : meth.code = some c) (h4 : c.code = bytes)
    (h5 : (c.maxLocals == mx && c.exceptionTable.isEmpty && decide (c.maxStack ≤ mostOperands) && decide (meth.sig.returnType = rt) && !meth.locks && decide (parseMethodDescriptor y.desc = some meth.sig)) = true) : (Jvm.Cond.code y bytes mx rt).before a s = true := by
  simp only [Bool.and_eq_true, beq_iff_eq, Bool.not_eq_true', decide_eq_true_eq] at h5
  obtain ⟨⟨⟨⟨⟨g1, g2⟩, g3⟩, g4⟩, g5⟩, g6⟩ := h5
  simp [Cond.before, Cond.holds, Cond.value, h1, h2, h3, h4, g1, g2, g3, g4, g5, g6]
def isCode : Jvm.Cond → Bool
  | .code _ _ _ _ => true
  | _ => false
theorem all_split {L : List Jvm.Cond} {P : Jvm.Cond → Bool} (h1 : L.all (fun c => isCode c || P c) = true) (h2 : ∀ c ∈ L.filter isCode, P c = true) : L.all P = true := by
  refine List.all_eq_true.mpr fun c hc => ?_
  have h := List.all_eq_true.mp h1 c hc
  rcases Bool.eq_false_or_eq_true (isCode c) with hi | hi
  · exact h2 c (List.mem_filter.mpr ⟨hc, hi⟩)
  · simpa [hi] using h
set_option maxRecDepth 65536 in
theorem w_c0 : (Jvm.Cond.code x code maxLocals ret).before args0 about1 = true := code_word (m := ⟨1, 7⟩) (meth := k1m7) (c := k1c7) (by decide +kernel) rfl rfl rfl (by decide +kernel)
set_option maxRecDepth 65536 in
theorem w_c1 : (Jvm.Cond.code ({ cls := "com/example/phal/phal/service/Groups", name := "<init>", desc := "(I)V" } : Jvm.MethodName) prog_15_method_1_code (3 : Nat) (Option.none : Option Jvm.ClassFile.FieldType)).before args0 about1 = true := code_word (m := ⟨2, 0⟩) (meth := k2m0) (c := k2c0) (by decide +kernel) rfl rfl rfl (by decide +kernel)
set_option maxRecDepth 65536 in
theorem w_c2 : (Jvm.Cond.code ({ cls := "java/lang/Object", name := "<init>", desc := "()V" } : Jvm.MethodName) object_method_1_code (1 : Nat) (Option.none : Option Jvm.ClassFile.FieldType)).before args0 about1 = true := code_word (m := ⟨0, 0⟩) (meth := k0m0) (c := k0c0) (by decide +kernel) rfl rfl rfl (by decide +kernel)
set_option maxRecDepth 65536 in
theorem w_c3 : (Jvm.Cond.code ({ cls := "com/example/phal/phal/service/Groups", name := "join", desc := "(II)V" } : Jvm.MethodName) prog_15_method_3_code (3 : Nat) (Option.none : Option Jvm.ClassFile.FieldType)).before args0 about1 = true := code_word (m := ⟨2, 2⟩) (meth := k2m2) (c := k2c2) (by decide +kernel) rfl rfl rfl (by decide +kernel)
set_option maxRecDepth 65536 in
theorem w_c4 : (Jvm.Cond.code ({ cls := "com/example/phal/phal/service/Groups", name := "root", desc := "(I)I" } : Jvm.MethodName) prog_15_method_4_code (3 : Nat) (Option.some Jvm.ClassFile.FieldType.int)).before args0 about1 = true := code_word (m := ⟨2, 3⟩) (meth := k2m3) (c := k2c3) (by decide +kernel) rfl rfl rfl (by decide +kernel)
set_option maxRecDepth 65536 in
theorem w_c5 : (Jvm.Cond.code ({ cls := "java/util/BitSet", name := "<init>", desc := "()V" } : Jvm.MethodName) jdk_92_method_4_code (1 : Nat) (Option.none : Option Jvm.ClassFile.FieldType)).before args0 about1 = true := code_word (m := ⟨5, 2⟩) (meth := k5m2) (c := k5c2) (by decide +kernel) rfl rfl rfl (by decide +kernel)
set_option maxRecDepth 65536 in
theorem w_c6 : (Jvm.Cond.code ({ cls := "java/util/BitSet", name := "initWords", desc := "(I)V" } : Jvm.MethodName) jdk_92_method_6_code (2 : Nat) (Option.none : Option Jvm.ClassFile.FieldType)).before args0 about1 = true := code_word (m := ⟨5, 3⟩) (meth := k5m3) (c := k5c3) (by decide +kernel) rfl rfl rfl (by decide +kernel)
set_option maxRecDepth 65536 in
theorem w_c7 : (Jvm.Cond.code ({ cls := "java/util/BitSet", name := "wordIndex", desc := "(I)I" } : Jvm.MethodName) jdk_92_method_1_code (1 : Nat) (Option.some Jvm.ClassFile.FieldType.int)).before args0 about1 = true := code_word (m := ⟨5, 0⟩) (meth := k5m0) (c := k5c0) (by decide +kernel) rfl rfl rfl (by decide +kernel)
set_option maxRecDepth 65536 in
theorem w_c8 : (Jvm.Cond.code ({ cls := "java/util/BitSet", name := "set", desc := "(I)V" } : Jvm.MethodName) jdk_92_method_19_code (3 : Nat) (Option.none : Option Jvm.ClassFile.FieldType)).before args0 about1 = true := code_word (m := ⟨5, 6⟩) (meth := k5m6) (c := k5c6) (by decide +kernel) rfl rfl rfl (by decide +kernel)
set_option maxRecDepth 65536 in
theorem w_c9 : (Jvm.Cond.code ({ cls := "java/util/BitSet", name := "expandTo", desc := "(I)V" } : Jvm.MethodName) jdk_92_method_15_code (3 : Nat) (Option.none : Option Jvm.ClassFile.FieldType)).before args0 about1 = true := code_word (m := ⟨5, 5⟩) (meth := k5m5) (c := k5c5) (by decide +kernel) rfl rfl rfl (by decide +kernel)
set_option maxRecDepth 65536 in
theorem w_c10 : (Jvm.Cond.code ({ cls := "java/util/BitSet", name := "ensureCapacity", desc := "(I)V" } : Jvm.MethodName) jdk_92_method_14_code (3 : Nat) (Option.none : Option Jvm.ClassFile.FieldType)).before args0 about1 = true := code_word (m := ⟨5, 4⟩) (meth := k5m4) (c := k5c4) (by decide +kernel) rfl rfl rfl (by decide +kernel)
set_option maxRecDepth 65536 in
theorem w_c11 : (Jvm.Cond.code ({ cls := "java/util/BitSet", name := "checkInvariants", desc := "()V" } : Jvm.MethodName) jdk_92_method_2_code (1 : Nat) (Option.none : Option Jvm.ClassFile.FieldType)).before args0 about1 = true := code_word (m := ⟨5, 1⟩) (meth := k5m1) (c := k5c1) (by decide +kernel) rfl rfl rfl (by decide +kernel)
set_option maxRecDepth 65536 in
theorem w_c12 : (Jvm.Cond.code ({ cls := "com/example/phal/phal/service/Groups", name := "join", desc := "(ILjava/util/BitSet;)V" } : Jvm.MethodName) prog_15_method_2_code (4 : Nat) (Option.none : Option Jvm.ClassFile.FieldType)).before args0 about1 = true := code_word (m := ⟨2, 1⟩) (meth := k2m1) (c := k2c1) (by decide +kernel) rfl rfl rfl (by decide +kernel)
set_option maxRecDepth 65536 in
theorem w_c13 : (Jvm.Cond.code ({ cls := "java/util/BitSet", name := "nextSetBit", desc := "(I)I" } : Jvm.MethodName) jdk_92_method_28_code (5 : Nat) (Option.some Jvm.ClassFile.FieldType.int)).before args0 about1 = true := code_word (m := ⟨5, 7⟩) (meth := k5m7) (c := k5c7) (by decide +kernel) rfl rfl rfl (by decide +kernel)
set_option maxRecDepth 65536 in
theorem w_c14 : (Jvm.Cond.code ({ cls := "java/lang/Long", name := "numberOfTrailingZeros", desc := "(J)I" } : Jvm.MethodName) jdk_35_method_49_code (3 : Nat) (Option.some Jvm.ClassFile.FieldType.int)).before args0 about1 = true := code_word (m := ⟨10, 0⟩) (meth := k10m0) (c := k10c0) (by decide +kernel) rfl rfl rfl (by decide +kernel)
set_option maxRecDepth 65536 in
theorem w_c15 : (Jvm.Cond.code ({ cls := "java/lang/Integer", name := "numberOfTrailingZeros", desc := "(I)I" } : Jvm.MethodName) jdk_33_method_48_code (2 : Nat) (Option.some Jvm.ClassFile.FieldType.int)).before args0 about1 = true := code_word (m := ⟨11, 0⟩) (meth := k11m0) (c := k11c0) (by decide +kernel) rfl rfl rfl (by decide +kernel)
set_option maxRecDepth 65536 in
theorem w_c16 : (Jvm.Cond.code ({ cls := "com/example/phal/phal/service/GroupsJoinPinLaw", name := "label2", desc := "(IIIII)I" } : Jvm.MethodName) method_3_code (8 : Nat) (Option.some Jvm.ClassFile.FieldType.int)).before args0 about1 = true := code_word (m := ⟨1, 2⟩) (meth := k1m2) (c := k1c2) (by decide +kernel) rfl rfl rfl (by decide +kernel)
set_option maxRecDepth 65536 in
theorem w_c17 : (Jvm.Cond.code ({ cls := "com/example/phal/phal/service/GroupsJoinPinLaw", name := "label1", desc := "(III)I" } : Jvm.MethodName) method_2_code (3 : Nat) (Option.some Jvm.ClassFile.FieldType.int)).before args0 about1 = true := code_word (m := ⟨1, 1⟩) (meth := k1m1) (c := k1c1) (by decide +kernel) rfl rfl rfl (by decide +kernel)
set_option maxRecDepth 65536 in
theorem w_c18 : (Jvm.Cond.code ({ cls := "com/example/phal/phal/service/GroupsJoinPinLaw", name := "rootOk", desc := "([IIII[I)Z" } : Jvm.MethodName) method_6_code (6 : Nat) (Option.some Jvm.ClassFile.FieldType.boolean)).before args0 about1 = true := code_word (m := ⟨1, 5⟩) (meth := k1m5) (c := k1c5) (by decide +kernel) rfl rfl rfl (by decide +kernel)
set_option maxRecDepth 65536 in
theorem w_c19 : (Jvm.Cond.code ({ cls := "com/example/phal/phal/service/GroupsJoinPinLaw", name := "same", desc := "(IIII[I)Z" } : Jvm.MethodName) method_5_code (7 : Nat) (Option.some Jvm.ClassFile.FieldType.boolean)).before args0 about1 = true := code_word (m := ⟨1, 4⟩) (meth := k1m4) (c := k1c4) (by decide +kernel) rfl rfl rfl (by decide +kernel)
set_option maxRecDepth 65536 in
theorem w_c20 : (Jvm.Cond.code ({ cls := "com/example/phal/phal/service/GroupsJoinPinLaw", name := "inM", desc := "(III[I)Z" } : Jvm.MethodName) method_4_code (4 : Nat) (Option.some Jvm.ClassFile.FieldType.boolean)).before args0 about1 = true := code_word (m := ⟨1, 3⟩) (meth := k1m3) (c := k1c3) (by decide +kernel) rfl rfl rfl (by decide +kernel)
set_option maxRecDepth 65536 in
theorem w_c21 : (Jvm.Cond.code ({ cls := "com/example/phal/phal/service/GroupsJoinPinLaw", name := "pair", desc := "([IIIII[I)Z" } : Jvm.MethodName) method_7_code (6 : Nat) (Option.some Jvm.ClassFile.FieldType.boolean)).before args0 about1 = true := code_word (m := ⟨1, 6⟩) (meth := k1m6) (c := k1c6) (by decide +kernel) rfl rfl rfl (by decide +kernel)
def codes1 : List Jvm.Cond := [Jvm.Cond.code x code maxLocals ret, Jvm.Cond.code ({ cls := "com/example/phal/phal/service/Groups", name := "<init>", desc := "(I)V" } : Jvm.MethodName) prog_15_method_1_code (3 : Nat) (Option.none : Option Jvm.ClassFile.FieldType), Jvm.Cond.code ({ cls := "java/lang/Object", name := "<init>", desc := "()V" } : Jvm.MethodName) object_method_1_code (1 : Nat) (Option.none : Option Jvm.ClassFile.FieldType), Jvm.Cond.code ({ cls := "com/example/phal/phal/service/Groups", name := "join", desc := "(II)V" } : Jvm.MethodName) prog_15_method_3_code (3 : Nat) (Option.none : Option Jvm.ClassFile.FieldType), Jvm.Cond.code ({ cls := "com/example/phal/phal/service/Groups", name := "root", desc := "(I)I" } : Jvm.MethodName) prog_15_method_4_code (3 : Nat) (Option.some Jvm.ClassFile.FieldType.int), Jvm.Cond.code ({ cls := "java/util/BitSet", name := "<init>", desc := "()V" } : Jvm.MethodName) jdk_92_method_4_code (1 : Nat) (Option.none : Option Jvm.ClassFile.FieldType), Jvm.Cond.code ({ cls := "java/util/BitSet", name := "initWords", desc := "(I)V" } : Jvm.MethodName) jdk_92_method_6_code (2 : Nat) (Option.none : Option Jvm.ClassFile.FieldType), Jvm.Cond.code ({ cls := "java/util/BitSet", name := "wordIndex", desc := "(I)I" } : Jvm.MethodName) jdk_92_method_1_code (1 : Nat) (Option.some Jvm.ClassFile.FieldType.int), Jvm.Cond.code ({ cls := "java/util/BitSet", name := "set", desc := "(I)V" } : Jvm.MethodName) jdk_92_method_19_code (3 : Nat) (Option.none : Option Jvm.ClassFile.FieldType), Jvm.Cond.code ({ cls := "java/util/BitSet", name := "expandTo", desc := "(I)V" } : Jvm.MethodName) jdk_92_method_15_code (3 : Nat) (Option.none : Option Jvm.ClassFile.FieldType), Jvm.Cond.code ({ cls := "java/util/BitSet", name := "ensureCapacity", desc := "(I)V" } : Jvm.MethodName) jdk_92_method_14_code (3 : Nat) (Option.none : Option Jvm.ClassFile.FieldType), Jvm.Cond.code ({ cls := "java/util/BitSet", name := "checkInvariants", desc := "()V" } : Jvm.MethodName) jdk_92_method_2_code (1 : Nat) (Option.none : Option Jvm.ClassFile.FieldType), Jvm.Cond.code ({ cls := "com/example/phal/phal/service/Groups", name := "join", desc := "(ILjava/util/BitSet;)V" } : Jvm.MethodName) prog_15_method_2_code (4 : Nat) (Option.none : Option Jvm.ClassFile.FieldType), Jvm.Cond.code ({ cls := "java/util/BitSet", name := "nextSetBit", desc := "(I)I" } : Jvm.MethodName) jdk_92_method_28_code (5 : Nat) (Option.some Jvm.ClassFile.FieldType.int), Jvm.Cond.code ({ cls := "java/lang/Long", name := "numberOfTrailingZeros", desc := "(J)I" } : Jvm.MethodName) jdk_35_method_49_code (3 : Nat) (Option.some Jvm.ClassFile.FieldType.int), Jvm.Cond.code ({ cls := "java/lang/Integer", name := "numberOfTrailingZeros", desc := "(I)I" } : Jvm.MethodName) jdk_33_method_48_code (2 : Nat) (Option.some Jvm.ClassFile.FieldType.int), Jvm.Cond.code ({ cls := "com/example/phal/phal/service/GroupsJoinPinLaw", name := "label2", desc := "(IIIII)I" } : Jvm.MethodName) method_3_code (8 : Nat) (Option.some Jvm.ClassFile.FieldType.int), Jvm.Cond.code ({ cls := "com/example/phal/phal/service/GroupsJoinPinLaw", name := "label1", desc := "(III)I" } : Jvm.MethodName) method_2_code (3 : Nat) (Option.some Jvm.ClassFile.FieldType.int), Jvm.Cond.code ({ cls := "com/example/phal/phal/service/GroupsJoinPinLaw", name := "rootOk", desc := "([IIII[I)Z" } : Jvm.MethodName) method_6_code (6 : Nat) (Option.some Jvm.ClassFile.FieldType.boolean), Jvm.Cond.code ({ cls := "com/example/phal/phal/service/GroupsJoinPinLaw", name := "same", desc := "(IIII[I)Z" } : Jvm.MethodName) method_5_code (7 : Nat) (Option.some Jvm.ClassFile.FieldType.boolean), Jvm.Cond.code ({ cls := "com/example/phal/phal/service/GroupsJoinPinLaw", name := "inM", desc := "(III[I)Z" } : Jvm.MethodName) method_4_code (4 : Nat) (Option.some Jvm.ClassFile.FieldType.boolean), Jvm.Cond.code ({ cls := "com/example/phal/phal/service/GroupsJoinPinLaw", name := "pair", desc := "([IIIII[I)Z" } : Jvm.MethodName) method_7_code (6 : Nat) (Option.some Jvm.ClassFile.FieldType.boolean)]
set_option maxRecDepth 65536 in
theorem codes_eq : words1.filter isCode = codes1 := rfl
theorem w_codes : ∀ c ∈ words1.filter isCode, c.before args0 about1 = true := by
  rw [codes_eq]
  intro c hc
  simp only [codes1, List.mem_cons, List.not_mem_nil, or_false] at hc
  rcases hc with rfl | rfl | rfl | rfl | rfl | rfl | rfl | rfl | rfl | rfl | rfl | rfl | rfl | rfl | rfl | rfl | rfl | rfl | rfl | rfl | rfl | rfl
  · exact w_c0
  · exact w_c1
  · exact w_c2
  · exact w_c3
  · exact w_c4
  · exact w_c5
  · exact w_c6
  · exact w_c7
  · exact w_c8
  · exact w_c9
  · exact w_c10
  · exact w_c11
  · exact w_c12
  · exact w_c13
  · exact w_c14
  · exact w_c15
  · exact w_c16
  · exact w_c17
  · exact w_c18
  · exact w_c19
  · exact w_c20
  · exact w_c21
set_option maxRecDepth 65536 in
theorem w_t1 : (words1.take 24).all (fun c => isCode c || c.before args0 about1) = true := by decide +kernel
set_option maxRecDepth 65536 in
theorem w_t2 : ((words1.drop 24).take 24).all (fun c => isCode c || c.before args0 about1) = true := by decide +kernel
set_option maxRecDepth 65536 in
theorem w_t3 : (((words1.drop 24).drop 24).take 24).all (fun c => isCode c || c.before args0 about1) = true := by decide +kernel
set_option maxRecDepth 65536 in
theorem w_t4 : ((((words1.drop 24).drop 24).drop 24).take 24).all (fun c => isCode c || c.before args0 about1) = true := by decide +kernel
set_option maxRecDepth 65536 in
theorem w_t5 : ((((words1.drop 24).drop 24).drop 24).drop 24).all (fun c => isCode c || c.before args0 about1) = true := by decide +kernel
theorem w_tables : (allAtoms (Jvm.Cond.code x code maxLocals ret :: tables_1)).before args0 about1 = true := by
  rw [allAtoms_all]
  show words1.all (fun c => c.before args0 about1) = true
  refine all_split ?_ w_codes
  rw [← List.take_append_drop 24 words1, List.all_append, w_t1, ← List.take_append_drop 24 (words1.drop 24), List.all_append, w_t2, ← List.take_append_drop 24 ((words1.drop 24).drop 24), List.all_append, w_t3, ← List.take_append_drop 24 (((words1.drop 24).drop 24).drop 24), List.all_append, w_t4, w_t5]
  rfl
set_option maxRecDepth 65536 in
theorem w_rest : rest_1_c.before args0 about1 = true := by decide +kernel
set_option maxRecDepth 65536 in
theorem w_case : (Jvm.Cond.and given_1 narrow_1).before args0 about1 = true := by decide +kernel
theorem w_applies : (headSpec (Jvm.Cond.code x code maxLocals ret :: tables_1) room_1).applies x e0.platform about1 = true :=
  (Spec.applies_iff w_frames).mpr ⟨w_running, w_runnable, w_alone, w_named, w_hears, w_ripe, w_room, w_tables⟩
theorem atStart : AtStart classFile x code maxLocals ret World_1 tables_1 room_1 Calls_1 rest_1 Pre_1 launch0 p0 e0 about1 theMethod args0 below0 :=
  ⟨lists_1, trivial, launch0.admits_env _ _ _, launch0.least_env, fairChoices_fair.cas, fairChoices_fair.clock, w_frames, w_args, w_heap, w_applies, trivial, w_rest, w_case⟩
end start1
theorem witness_1 : WitnessClaimed_1 := ⟨start1.p0, start1.e0, start1.about1, start1.theMethod, start1.args0, start1.below0, start1.atStart⟩
end Jvm.Pilot.@@N@@
