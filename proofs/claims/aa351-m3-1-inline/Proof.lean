import JvmDerived
import JvmDerived.Pilot.@@N@@Statement
import JvmDerived.Pilot.@@N@@Code
set_option linter.unusedVariables false
set_option linter.unusedSimpArgs false
namespace Jvm.OwnWalk
open Sem ClassFile Op Lib Jvm.Stand Jvm.Free Jvm.LawKit Jvm.RoadKit
section Own
variable {p : Program} {l : Launch} {e : Env} {R : Room} {s : State} {m : MethodId} {args : Array Value} {below : List Frame} {meth : Method} {c : Code} {T : State} {locs : List Loc} {cells slots : Nat} {Z : State} {a0 : Array Value} {h h' : Heap} {Q : Option Value → Heap → List Loc → Prop} {kc ks : Nat} {G : Outcome → State → Prop} {A B : State}
/-- from A the invocation comes to its end, and Q holds of what it returns, of the heap and of the places written -/
def Goes (p : Program) (e : Env) (below : List Frame) (G : Outcome → State → Prop) (A : State) : Prop :=
  ∃ s₂ o, Steps p.tables e below A s₂ ∧ s₂.status = .running ∧ Ended s₂ below o ∧ G o s₂
def EndN (s : State) (Q : Option Value → Heap → List Loc → Prop) (kc ks : Nat) (o : Outcome) (t : State) : Prop := ∃ v L, o = .returned v ∧ Q v t.heap L ∧ FrameEnd s o t L kc ks
theorem go (k : ∀ t, Steps p.tables e below B t → Steps p.tables e below A t) (g : Goes p e below G B) : Goes p e below G A := by
  obtain ⟨s₂, o, st, r⟩ := g
  exact ⟨s₂, o, k _ st, r⟩
theorem goE {g g' : JFrame} (q : g = g') (k : Goes p e below G (T.setTop g')) : Goes p e below G (T.setTop g) := q ▸ k
theorem goEnd (X : Stand p l e R s m args below meth c T locs cells slots) {v : Option Value} (hv : meth.sig.returnType = none → v = none) (hlocks : meth.locks = false) (hc : cells ≤ kc) (hs : slots ≤ ks) (eT : T.heap = h) (hq : Q v h locs)
    (k : ∀ fs, (∀ (f : JFrame) (acts : List Action), f.method = m → f.locked = none → f.entered = [] → (doReturn e (T.setTop f) acts v).1 = T.setFrames fs) → Steps p.tables e below A (T.setFrames fs)) : Goes p e below (EndN s Q kc ks) A := by
  obtain ⟨fs, hr, hrun, hended, hW, hsame⟩ := X.leave hv hlocks
  exact ⟨_, _, k fs hr, hrun, hended, _, _, rfl, (by show Q v T.heap locs; rw [eT]; exact hq), ⟨_, rfl⟩, hW, hsame.mono hc hs⟩
theorem goRetV (X : Stand p l e R s m args below meth c T locs cells slots) (hx : p.tables.exec = Jvm.exec) {pc : Nat} {Ls : Array Slot} {w : Value} {t : FieldType} {i : Instr} {rest : List Value} (hret : meth.sig.returnType = some t) (hlocks : meth.locks = false) (hd : decode c.code pc = .ok (i, 1)) (hn : narrow t w = w)
    (hi : (i = .ireturn ∧ (t = .int ∨ t = .boolean ∨ t = .byte ∨ t = .char ∨ t = .short) ∧ ∃ z, w = .int z) ∨ (i = .lreturn ∧ t = .long ∧ ∃ z, w = .long z) ∨ (i = .dreturn ∧ t = .double ∧ ∃ z, w = .double z) ∨ (i = .freturn ∧ t = .float ∧ ∃ z, w = .float z) ∨ (i = .areturn ∧ t.isReference = true ∧ w.isRef = true))
    (hc : cells ≤ kc) (hs : slots ≤ ks) (eT : T.heap = h) (hq : Q (some w) h locs) : Goes p e below (EndN s Q kc ks) (T.setTop (mkF m pc Ls (w :: rest))) :=
  goEnd X (v := some w) (fun q => by rw [hret] at q; cases q) hlocks hc hs eT hq fun fs hr => retOut X hx hret hn hi hd hr
theorem goRetI (X : Stand p l e R s m args below meth c T locs cells slots) (hx : p.tables.exec = Jvm.exec) {pc : Nat} {Ls : Array Slot} {z : Int32} {rest : List Value} (hret : meth.sig.returnType = some .int) (hlocks : meth.locks = false) (hd : decode c.code pc = .ok (.ireturn, 1))
    (hc : cells ≤ kc) (hs : slots ≤ ks) (eT : T.heap = h) (hq : Q (some (.int z)) h locs) : Goes p e below (EndN s Q kc ks) (T.setTop (mkF m pc Ls (.int z :: rest))) :=
  goRetV X hx hret hlocks hd rfl (Or.inl ⟨rfl, Or.inl rfl, _, rfl⟩) hc hs eT hq
theorem goRetJ (X : Stand p l e R s m args below meth c T locs cells slots) (hx : p.tables.exec = Jvm.exec) {pc : Nat} {Ls : Array Slot} {z : Int64} {rest : List Value} (hret : meth.sig.returnType = some .long) (hlocks : meth.locks = false) (hd : decode c.code pc = .ok (.lreturn, 1))
    (hc : cells ≤ kc) (hs : slots ≤ ks) (eT : T.heap = h) (hq : Q (some (.long z)) h locs) : Goes p e below (EndN s Q kc ks) (T.setTop (mkF m pc Ls (.long z :: rest))) :=
  goRetV X hx hret hlocks hd rfl (Or.inr (Or.inl ⟨rfl, rfl, _, rfl⟩)) hc hs eT hq
theorem goRetD (X : Stand p l e R s m args below meth c T locs cells slots) (hx : p.tables.exec = Jvm.exec) {pc : Nat} {Ls : Array Slot} {z : UInt64} {rest : List Value} (hret : meth.sig.returnType = some .double) (hlocks : meth.locks = false) (hd : decode c.code pc = .ok (.dreturn, 1))
    (hc : cells ≤ kc) (hs : slots ≤ ks) (eT : T.heap = h) (hq : Q (some (.double z)) h locs) : Goes p e below (EndN s Q kc ks) (T.setTop (mkF m pc Ls (.double z :: rest))) :=
  goRetV X hx hret hlocks hd rfl (Or.inr (Or.inr (Or.inl ⟨rfl, rfl, _, rfl⟩))) hc hs eT hq
theorem goRetA (X : Stand p l e R s m args below meth c T locs cells slots) (hx : p.tables.exec = Jvm.exec) {pc : Nat} {Ls : Array Slot} {w : Value} {t : FieldType} {rest : List Value} (hret : meth.sig.returnType = some t) (hlocks : meth.locks = false) (ht : t.isReference = true) (hw : w.isRef = true) (hd : decode c.code pc = .ok (.areturn, 1))
    (hc : cells ≤ kc) (hs : slots ≤ ks) (eT : T.heap = h) (hq : Q (some w) h locs) : Goes p e below (EndN s Q kc ks) (T.setTop (mkF m pc Ls (w :: rest))) :=
  goRetV X hx hret hlocks hd (by cases t <;> first | (cases ht; done) | rfl) (Or.inr (Or.inr (Or.inr (Or.inr ⟨rfl, ht, hw⟩)))) hc hs eT hq
theorem goRetN (X : Stand p l e R s m args below meth c T locs cells slots) (hx : p.tables.exec = Jvm.exec) {pc : Nat} {Ls : Array Slot} {z z' : Int32} {t : FieldType} {rest : List Value} (hret : meth.sig.returnType = some t) (hlocks : meth.locks = false) (ht : t = .boolean ∨ t = .byte ∨ t = .char ∨ t = .short) (hd : decode c.code pc = .ok (.ireturn, 1)) (hz : nar t z = z')
    (hc : cells ≤ kc) (hs : slots ≤ ks) (eT : T.heap = h) (hq : Q (some (.int z')) h locs) : Goes p e below (EndN s Q kc ks) (T.setTop (mkF m pc Ls (.int z :: rest))) := by
  subst hz
  exact goEnd X (v := some (.int (nar t z))) (fun q => by rw [hret] at q; cases q) hlocks hc hs eT hq fun fs hr => retN X hx hret ht hd hr
theorem goRet0 (X : Stand p l e R s m args below meth c T locs cells slots) (hx : p.tables.exec = Jvm.exec) {pc : Nat} {Ls : Array Slot} (hret : meth.sig.returnType = none) (hlocks : meth.locks = false) (hd : decode c.code pc = .ok (.return_, 1))
    (hc : cells ≤ kc) (hs : slots ≤ ks) (eT : T.heap = h) (hq : Q none h locs) : Goes p e below (EndN s Q kc ks) (T.setTop (mkF m pc Ls [])) :=
  goEnd X (v := none) (fun _ => rfl) hlocks hc hs eT hq fun fs hr => X.returnOut hx hret hd hr
/-- a body's contract: called with these arguments at this heap it returns, and Q holds -/
def Ctr (l : Launch) (Z : State) (y : MethodName) (bytes : ByteArray) (maxL : Nat) (ret : Option FieldType) (ws : List Cond) (rm : Room) (as : Array Value) (h0 : Heap) (Q : Option Value → Heap → List Loc → Prop) : Prop :=
  MetFree l y (head1 (Cond.code y bytes maxL ret :: ws) rm) (fun a U => a = as ∧ Z.Warmed39 U.vm ∧ U.heap = h0) (fun _ _ _ _ _ => True) (fun _ U o U' => ∃ v L, o = .returned v ∧ Q v U'.heap L ∧ FrameEnd U o U' L rm.cells rm.slots)
theorem ctr {y : MethodName} {bytes : ByteArray} {maxL : Nat} {ret : Option FieldType} {ws : List Cond} {rm : Room} {as : Array Value} {h0 : Heap} (hpn : plainFor y = true)
    (body : ∀ (p : Program) (e : Env) (s : State) (m : MethodId) (below : List Frame) (meth : Method) (c : Code) (s₁ : State), p.tables.exec = Jvm.exec → c.code = bytes → c.maxLocals = maxL → s.vm.findClass y.cls = some m.cls → meth.name = y.name → meth.sig.returnType = ret → meth.locks = false → Z.Warmed39 s.vm →
      Stand p l e rm s m as below meth c s₁ [] 0 0 → s₁.heap = h0 → Goes p e below (EndN s Q rm.cells rm.slots) (s₁.setTop (entryFrame m as maxL))) : Ctr l Z y bytes maxL ret ws rm as h0 Q := by
  refine MetFree.of_bodySF hpn hisR ?_
  intro p e s m args below meth c s₁ Bd hml0 hP hK
  obtain ⟨rfl, hZ, hh⟩ := hP
  exact body p e s m below meth c s₁ Bd.exec Bd.bytes hml0 (findClass_of_methodNamed Bd.named) (name_of_methodNamed Bd.named Bd.method).1 Bd.returns Bd.notSynchronized hZ (Stand.of_body Bd) (by rw [← hh, Bd.state]; rfl)
theorem goCallS (X : Stand p l e R s m args below meth c T locs cells slots) (hx : p.tables.exec = Jvm.exec) (hZ : Z.Warmed39 s.vm) {own : String} {index : Nat} {y : MethodName} {bytes : ByteArray} {maxL : Nat} {ret : Option FieldType} (hown : s.vm.findClass own = some m.cls)
    (w1 : (Cond.methodLink own index y).before a0 Z = true) (w2 : (Cond.static y).before a0 Z = true) (w3 : (Cond.initialized y.cls).before a0 Z = true) (w4 : (Cond.code y bytes maxL ret).before a0 Z = true) (hy : y.cls ≠ "java/lang/invoke/MethodHandle" ∧ y.cls ≠ "java/lang/invoke/VarHandle")
    {rm : Room} {as : Array Value} {Q' : Option Value → Heap → List Loc → Prop} (hM : Ctr l Z y bytes maxL ret [] rm as h Q') (W : Nat) (hf : rm.frames + 1 ≤ R.frames) (hl : W + (maxL + 11) + rm.locals ≤ R.locals) (eT : T.heap = h)
    {pc : Nat} {Ls : Array Slot} {st : List Value} (hsize : Ls.size = c.maxLocals) (argsL rest : List Value) {ps : List FieldType} {rt : Option FieldType} (hpd : parseMethodDescriptor y.desc = some ⟨ps, rt⟩) (hlen : argsL.length = ps.length) (hst : st = argsL.reverse ++ rest) (has : argsL.toArray = as) (hW : (rest.map fun v => v.category).sum ≤ W)
    (hd : decode c.code pc = .ok (.invokestatic index, 3)) (hc : cells + rm.cells ≤ R.cells) (hs : slots + rm.slots ≤ R.slots)
    (k : ∀ T' v L, Stand p l e R s m args below meth c T' (locs ++ L) (cells + rm.cells) (slots + rm.slots) → Q' v T'.heap L → Goes p e below G (T'.setTop (mkF m (pc + 3) Ls (v.toList ++ rest)))) : Goes p e below G (T.setTop (mkF m pc Ls st)) := by
  subst hst
  obtain ⟨v, _, ⟨T', L', k', n'⟩, -, X', ⟨L, hQ, l1, y1, z1⟩, st⟩ := Jvm.LawKit.callS X hx (y := y) hown (mvT hZ w1) (mvT hZ w2) (mvT hZ w3) (mvT hZ w4) hy (backOf (W := W) hM hZ w4 w3 hf hl) (g := mkF m pc Ls (argsL.reverse ++ rest)) rfl hsize (argsL := argsL) (rest := rest) (lenOf hpd hlen) rfl (by show 2 * 0 + _ ≤ _; omega) hd (fun _ _ => ⟨has, eT, hc, hs⟩)
  dsimp only [Pt.U, Pt.locs, Pt.cells, Pt.slots] at X' l1 y1 z1 st hQ
  subst l1 y1 z1
  exact go st (k T' v L X' hQ)
theorem goCallI (X : Stand p l e R s m args below meth c T locs cells slots) (hx : p.tables.exec = Jvm.exec) (hZ : Z.Warmed39 s.vm) {own : String} {index : Nat} {y : MethodName} {bytes : ByteArray} {maxL : Nat} (hy1 : y.name = "<init>") (hown : s.vm.findClass own = some m.cls)
    (w1 : (Cond.methodLink own index y).before a0 Z = true) (w2 : (Cond.instanceMethod y).before a0 Z = true) (w3 : (Cond.initialized y.cls).before a0 Z = true) (w4 : (Cond.code y bytes maxL none).before a0 Z = true) (hy : y.cls ≠ "java/lang/invoke/MethodHandle" ∧ y.cls ≠ "java/lang/invoke/VarHandle")
    {rm : Room} {as : Array Value} {Q' : Option Value → Heap → List Loc → Prop} (hM : Ctr l Z y bytes maxL none [] rm as h Q') (W : Nat) (hf : rm.frames + 1 ≤ R.frames) (hl : W + (maxL + 11) + rm.locals ≤ R.locals) (eT : T.heap = h)
    {pc : Nat} {Ls : Array Slot} {st : List Value} (hsize : Ls.size = c.maxLocals) (a : Addr) (argsL rest : List Value) {ps : List FieldType} {rt : Option FieldType} (hpd : parseMethodDescriptor y.desc = some ⟨ps, rt⟩) (hlen : argsL.length = ps.length) (hst : st = argsL.reverse ++ .ref a :: rest) (has : (.ref a :: argsL).toArray = as) (hW : (rest.map fun v => v.category).sum ≤ W)
    (hd : decode c.code pc = .ok (.invokespecial index, 3)) (hc : cells + rm.cells ≤ R.cells) (hs : slots + rm.slots ≤ R.slots)
    (k : ∀ T' v L, Stand p l e R s m args below meth c T' (locs ++ L) (cells + rm.cells) (slots + rm.slots) → Q' v T'.heap L → Goes p e below G (T'.setTop (mkF m (pc + 3) Ls (v.toList ++ rest)))) : Goes p e below G (T.setTop (mkF m pc Ls st)) := by
  subst hst
  obtain ⟨v, _, ⟨T', L', k', n'⟩, -, X', ⟨L, hQ, l1, y1, z1⟩, st⟩ := X.specialBack hx (y := y) hy1 hown (mvT hZ w1) (mvT hZ w2) (mvT hZ w4) hy (backOf (W := W) hM hZ w4 w3 hf hl) (g := mkF m pc Ls (argsL.reverse ++ .ref a :: rest)) rfl hsize (Steps.refl _) (a := a) (argsL := argsL) (rest := rest) (lenOf hpd hlen) rfl (by show 2 * 0 + _ ≤ _; omega) hd (fun _ _ => ⟨has, eT, hc, hs⟩)
  dsimp only [Pt.U, Pt.locs, Pt.cells, Pt.slots] at X' l1 y1 z1 st hQ
  subst l1 y1 z1
  exact go (fun _ => st.trans) (k T' v L X' hQ)
theorem goCallV (X : Stand p l e R s m args below meth c T locs cells slots) (hx : p.tables.exec = Jvm.exec) (hZ : Z.Warmed39 s.vm) {own C : String} {index : Nat} {y : MethodName} {bytes : ByteArray} {maxL : Nat} {ret : Option FieldType} (hown : s.vm.findClass own = some m.cls)
    (w1 : (Cond.methodLink own index y).before a0 Z = true) (w2 : (Cond.declares y).before a0 Z = true) (w5 : (Cond.selects C y y).before a0 Z = true) (w6 : (Cond.instanceMethod y).before a0 Z = true) (w3 : (Cond.initialized y.cls).before a0 Z = true) (w4 : (Cond.code y bytes maxL ret).before a0 Z = true) (hy : y.cls ≠ "java/lang/invoke/MethodHandle" ∧ y.cls ≠ "java/lang/invoke/VarHandle")
    {rm : Room} {as : Array Value} {Q' : Option Value → Heap → List Loc → Prop} (hM : Ctr l Z y bytes maxL ret [] rm as h Q') (W : Nat) (hf : rm.frames + 1 ≤ R.frames) (hl : W + (maxL + 11) + rm.locals ≤ R.locals) (eT : T.heap = h) {a : Addr} (E : Exa Z h a C)
    {pc : Nat} {Ls : Array Slot} {st : List Value} (hsize : Ls.size = c.maxLocals) (argsL rest : List Value) {ps : List FieldType} {rt : Option FieldType} (hpd : parseMethodDescriptor y.desc = some ⟨ps, rt⟩) (hlen : argsL.length = ps.length) (hst : st = argsL.reverse ++ .ref a :: rest) (has : (.ref a :: argsL).toArray = as) (hW : (rest.map fun v => v.category).sum ≤ W)
    (hd : decode c.code pc = .ok (.invokevirtual index, 3)) (hc : cells + rm.cells ≤ R.cells) (hs : slots + rm.slots ≤ R.slots)
    (k : ∀ T' v L, Stand p l e R s m args below meth c T' (locs ++ L) (cells + rm.cells) (slots + rm.slots) → Q' v T'.heap L → Goes p e below G (T'.setTop (mkF m (pc + 3) Ls (v.toList ++ rest)))) : Goes p e below G (T.setTop (mkF m pc Ls st)) := by
  subst hst
  obtain ⟨cq, kq, qa, qb, qc⟩ := isOf hZ eT E
  obtain ⟨v, _, ⟨T', L', k', n'⟩, -, X', ⟨L, hQ, l1, y1, z1⟩, st⟩ := X.virtualBack hx (y := y) (z := y) hown (mvT hZ w1) (mvT hZ w2) (notFace_of_selects (args := #[]) (mvT hZ w5)) (mvT hZ w5) (mvT hZ w6) hy (backOf (W := W) hM hZ w4 w3 hf hl) qa qc (g := mkF m pc Ls (argsL.reverse ++ .ref a :: rest)) rfl hsize (Steps.refl _) (argsL := argsL) (rest := rest) (lenOf hpd hlen) rfl (by show 2 * 0 + _ ≤ _; omega) hd (fun _ _ => ⟨has, eT, hc, hs⟩)
  dsimp only [Pt.U, Pt.locs, Pt.cells, Pt.slots] at X' l1 y1 z1 st hQ
  subst l1 y1 z1
  exact go (fun _ => st.trans) (k T' v L X' hQ)
theorem goCallP (X : Stand p l e R s m args below meth c T locs cells slots) (hx : p.tables.exec = Jvm.exec) (hZ : Z.Warmed39 s.vm) {own C : String} {index : Nat} {y : MethodName} {bytes : ByteArray} {maxL : Nat} {ret : Option FieldType} (hown : s.vm.findClass own = some m.cls)
    (w1 : (Cond.methodLink own index y).before a0 Z = true) (w2 : (Cond.privateMethod y).before a0 Z = true) (w5 : (Cond.selects y.cls y y).before a0 Z = true) (w6 : (Cond.instanceMethod y).before a0 Z = true) (w3 : (Cond.initialized y.cls).before a0 Z = true) (w4 : (Cond.code y bytes maxL ret).before a0 Z = true) (hy : y.cls ≠ "java/lang/invoke/MethodHandle" ∧ y.cls ≠ "java/lang/invoke/VarHandle")
    {rm : Room} {as : Array Value} {Q' : Option Value → Heap → List Loc → Prop} (hM : Ctr l Z y bytes maxL ret [] rm as h Q') (W : Nat) (hf : rm.frames + 1 ≤ R.frames) (hl : W + (maxL + 11) + rm.locals ≤ R.locals) (eT : T.heap = h) {a : Addr} (E : Exa Z h a C)
    {pc : Nat} {Ls : Array Slot} {st : List Value} (hsize : Ls.size = c.maxLocals) (argsL rest : List Value) {ps : List FieldType} {rt : Option FieldType} (hpd : parseMethodDescriptor y.desc = some ⟨ps, rt⟩) (hlen : argsL.length = ps.length) (hst : st = argsL.reverse ++ .ref a :: rest) (has : (.ref a :: argsL).toArray = as) (hW : (rest.map fun v => v.category).sum ≤ W)
    (hd : decode c.code pc = .ok (.invokevirtual index, 3)) (hc : cells + rm.cells ≤ R.cells) (hs : slots + rm.slots ≤ R.slots)
    (k : ∀ T' v L, Stand p l e R s m args below meth c T' (locs ++ L) (cells + rm.cells) (slots + rm.slots) → Q' v T'.heap L → Goes p e below G (T'.setTop (mkF m (pc + 3) Ls (v.toList ++ rest)))) : Goes p e below G (T.setTop (mkF m pc Ls st)) := by
  subst hst
  obtain ⟨cq, qa, qb⟩ := Exa.cell E
  rw [← eT] at qa
  obtain ⟨v, _, ⟨T', L', k', n'⟩, -, X', ⟨L, hQ, l1, y1, z1⟩, st⟩ := X.privateBack hx (y := y) hown (mvT hZ w1) (mvT hZ w6) (mvT hZ w5) (Cond.privateMethod_at (args := #[]) (mvP hZ w2)) (mvT hZ w4) hy (backOf (W := W) hM hZ w4 w3 hf hl) (g := mkF m pc Ls (argsL.reverse ++ .ref a :: rest)) rfl hsize (Steps.refl _) (a := a) qa qb (argsL := argsL) (rest := rest) (lenOf hpd hlen) rfl (by show 2 * 0 + _ ≤ _; omega) hd (fun _ _ => ⟨has, eT, hc, hs⟩)
  dsimp only [Pt.U, Pt.locs, Pt.cells, Pt.slots] at X' l1 y1 z1 st hQ
  subst l1 y1 z1
  exact go (fun _ => st.trans) (k T' v L X' hQ)
theorem extT {h0 : Heap} (O : Ext h0 h) (E : Ext h h') : Ext h0 h' := ⟨Nat.le_trans O.1 E.1, fun x c q => E.2 x c (O.2 x c q)⟩
theorem extK {h0 : Heap} {ws : List Addr} (O : Ext h0 h) (K : Keep h h' ws) (q : ∀ x ∈ ws, h0.size ≤ x) : Ext h0 h' := ⟨Nat.le_trans O.1 K.1, fun x c r => K.2.1 x c (O.2 x c r) fun z => absurd (Array.getElem?_eq_some_iff.mp r).1 (Nat.not_lt.mpr (q x z))⟩
theorem extW {h0 : Heap} {a : Addr} {sl : Nat} {v : Value} (O : Ext h0 h) (W : Wr h h' a sl v) (q : h0.size ≤ a) : Ext h0 h' := extK O (Keep.of_wr W) (allS q all0)
theorem eqI_v {t : Term} {k : Int32} {first s : State} {o : Option Outcome} {idx : List Nat} {args : Array Value} (h : (Cond.eq t (.int k)).value args first o s idx = some true) : t.eval args first o idx s = some (.int k) := by
  simp only [Cond.value, Term.eval] at h
  cases ht : t.eval args first o idx s with
  | none => simp [ht] at h
  | some x => cases x <;> simp [ht] at h ⊢; exact h
/-- an array with these values -/
def Ary (Z : State) (h : Heap) (a : Addr) (ty : FieldType) (vs : List Value) : Prop := ∃ cl : Cell, Arr Z h a cl ty ∧ cl.slots.toList = vs ∧ vs.length < 2 ^ 31
variable {a b : Addr} {ty : FieldType} {vs : List Value}
theorem Ary.lt (F : Ary Z h a ty vs) : a < h.size := by obtain ⟨c, A, -⟩ := F; exact A.lt
theorem Ary.ext (F : Ary Z h a ty vs) (E : Ext h h') : Ary Z h' a ty vs := by obtain ⟨c, A, r⟩ := F; exact ⟨c, A.ext E, r⟩
theorem Ary.other (F : Ary Z h b ty vs) {sl : Nat} {v : Value} (W : Wr h h' a sl v) (q : b ≠ a) : Ary Z h' b ty vs := by obtain ⟨c, A, r⟩ := F; exact ⟨c, A.other W q, r⟩
theorem Ary.keep (F : Ary Z h a ty vs) {ws : List Addr} (K : Keep h h' ws) (q : a ∉ ws) : Ary Z h' a ty vs := by obtain ⟨c, A, r⟩ := F; exact ⟨c, ⟨K.2.1 a c A.1 q, A.2⟩, r⟩
theorem Ary.set (F : Ary Z h a ty vs) {j : Int32} {v : Value} (W : Wr h h' a j.toNatClampNeg v) {ws : List Value} (e : vs.set j.toNatClampNeg v = ws) : Ary Z h' a ty ws := by
  obtain ⟨c, A, r, q⟩ := F
  refine ⟨_, A.same W, ?_, ?_⟩
  · rw [← e, ← r]; simp [Cell.setSlot]
  · rw [← e, List.length_set]; exact q
theorem Ary.new {cA : ClassId} {n : Int32} (A : Arr Z h a (newA cA ty n) ty) (e : List.replicate n.toNatClampNeg (defaultValue ty) = vs) (q : vs.length < 2 ^ 31) : Ary Z h a ty vs := ⟨_, A, by rw [← e]; simp [newA], q⟩
theorem Ary.inb {cl : Cell} (r : cl.slots.toList = vs) {j : Int32} {v : Value} (hj : ¬ j < 0) (hv : vs[j.toNatClampNeg]? = some v) : ¬ (j < 0 ∨ cl.slots.size ≤ j.toNatClampNeg) := fun q => by
  rcases q with q | q
  · exact hj q
  · subst r
    have := (List.getElem?_eq_some_iff.mp hv).1
    rw [Array.length_toList] at this
    omega
theorem Ary.at {cl : Cell} (r : cl.slots.toList = vs) {j : Int32} {v : Value} (hv : vs[j.toNatClampNeg]? = some v) : cl.slots[j.toNatClampNeg]? = some v := by subst r; simpa using hv
theorem goIaload (X : Stand p l e R s m args below meth c T locs cells slots) (hx : p.tables.exec = Jvm.exec) (hZ : Z.Warmed39 s.vm) (eT : T.heap = h) {vs : List Value} (F : Ary Z h a .int vs) {j x : Int32} {pc : Nat} {Ls : Array Slot} {rest : List Value} (hd : decode c.code pc = .ok (.iaload, 1)) (hj : ¬ j < 0) (hv : vs[j.toNatClampNeg]? = some (.int x))
    (k : Goes p e below G (T.setTop (mkF m (pc + 1) Ls (.int x :: rest)))) : Goes p e below G (T.setTop (mkF m pc Ls (.int j :: .ref a :: rest))) := by
  obtain ⟨cl, A, r, q⟩ := F
  exact go (X.iaload hx (j := j) (v := .int x) (by rw [eT]; exact A.1) (State.isArrayOf_alike hZ.alike A.2.1) A.2.2 (Ary.inb r hj hv) (Ary.at r hv) (g := mkF m pc Ls (.int j :: .ref a :: rest)) rfl rfl hd) k
theorem goBaload (X : Stand p l e R s m args below meth c T locs cells slots) (hx : p.tables.exec = Jvm.exec) (hZ : Z.Warmed39 s.vm) (eT : T.heap = h) {vs : List Value} (F : Ary Z h a .byte vs) {j x : Int32} {pc : Nat} {Ls : Array Slot} {rest : List Value} (hd : decode c.code pc = .ok (.baload, 1)) (hj : ¬ j < 0) (hv : vs[j.toNatClampNeg]? = some (.int x))
    (k : Goes p e below G (T.setTop (mkF m (pc + 1) Ls (.int x :: rest)))) : Goes p e below G (T.setTop (mkF m pc Ls (.int j :: .ref a :: rest))) := by
  obtain ⟨cl, A, r, q⟩ := F
  exact go (X.baloadBytes hx (j := j) (v := .int x) (by rw [eT]; exact A.1) (State.isArrayOf_alike hZ.alike A.2.1) A.2.2 (Ary.inb r hj hv) (Ary.at r hv) (g := mkF m pc Ls (.int j :: .ref a :: rest)) rfl rfl hd) k
theorem goZaload (X : Stand p l e R s m args below meth c T locs cells slots) (hx : p.tables.exec = Jvm.exec) (hZ : Z.Warmed39 s.vm) (eT : T.heap = h) {vs : List Value} (F : Ary Z h a .boolean vs) {j x : Int32} {pc : Nat} {Ls : Array Slot} {rest : List Value} (hd : decode c.code pc = .ok (.baload, 1)) (hj : ¬ j < 0) (hv : vs[j.toNatClampNeg]? = some (.int x))
    (k : Goes p e below G (T.setTop (mkF m (pc + 1) Ls (.int x :: rest)))) : Goes p e below G (T.setTop (mkF m pc Ls (.int j :: .ref a :: rest))) := by
  obtain ⟨cl, A, r, q⟩ := F
  exact go (X.baloadBooleans hx (j := j) (v := .int x) (by rw [eT]; exact A.1) (State.isArrayOf_alike hZ.alike A.2.1) A.2.2 (Ary.inb r hj hv) (Ary.at r hv) (g := mkF m pc Ls (.int j :: .ref a :: rest)) rfl rfl hd) k
theorem goCaload (X : Stand p l e R s m args below meth c T locs cells slots) (hx : p.tables.exec = Jvm.exec) (hZ : Z.Warmed39 s.vm) (eT : T.heap = h) {vs : List Value} (F : Ary Z h a .char vs) {j x : Int32} {pc : Nat} {Ls : Array Slot} {rest : List Value} (hd : decode c.code pc = .ok (.caload, 1)) (hj : ¬ j < 0) (hv : vs[j.toNatClampNeg]? = some (.int x))
    (k : Goes p e below G (T.setTop (mkF m (pc + 1) Ls (.int x :: rest)))) : Goes p e below G (T.setTop (mkF m pc Ls (.int j :: .ref a :: rest))) := by
  obtain ⟨cl, A, r, q⟩ := F
  exact go (X.caload hx (j := j) (v := .int x) (by rw [eT]; exact A.1) (State.isArrayOf_alike hZ.alike A.2.1) A.2.2 (Ary.inb r hj hv) (Ary.at r hv) (g := mkF m pc Ls (.int j :: .ref a :: rest)) rfl rfl hd) k
theorem goLaload (X : Stand p l e R s m args below meth c T locs cells slots) (hx : p.tables.exec = Jvm.exec) (hZ : Z.Warmed39 s.vm) (eT : T.heap = h) {vs : List Value} (F : Ary Z h a .long vs) {j : Int32} {x : Int64} {pc : Nat} {Ls : Array Slot} {rest : List Value} (hd : decode c.code pc = .ok (.laload, 1)) (hj : ¬ j < 0) (hv : vs[j.toNatClampNeg]? = some (.long x))
    (k : Goes p e below G (T.setTop (mkF m (pc + 1) Ls (.long x :: rest)))) : Goes p e below G (T.setTop (mkF m pc Ls (.int j :: .ref a :: rest))) := by
  obtain ⟨cl, A, r, q⟩ := F
  exact go (X.laload hx (j := j) (v := .long x) (by rw [eT]; exact A.1) (State.isArrayOf_alike hZ.alike A.2.1) A.2.2 (Ary.inb r hj hv) (Ary.at r hv) (g := mkF m pc Ls (.int j :: .ref a :: rest)) rfl rfl hd) k
theorem goAlen (X : Stand p l e R s m args below meth c T locs cells slots) (hx : p.tables.exec = Jvm.exec) (hZ : Z.Warmed39 s.vm) (eT : T.heap = h) {vs : List Value} (F : Ary Z h a ty vs) {n : Int32} {pc : Nat} {Ls : Array Slot} {rest : List Value} (hd : decode c.code pc = .ok (.arraylength, 1)) (hn : vs.length.toInt32 = n)
    (k : Goes p e below G (T.setTop (mkF m (pc + 1) Ls (.int n :: rest)))) : Goes p e below G (T.setTop (mkF m pc Ls (.ref a :: rest))) := by
  obtain ⟨cl, A, r, q⟩ := F
  have e1 : cl.slots.size.toInt32 = n := by rw [← hn, ← r, Array.length_toList]
  refine go (X.arraylength hx (cell := cl) (by rw [eT]; exact A.1) (State.isArrayOf_alike hZ.alike A.2.1) (g := mkF m pc Ls (.ref a :: rest)) rfl (rest := rest) rfl hd) ?_
  rw [e1]
  exact k
theorem goIastore (X : Stand p l e R s m args below meth c T locs cells slots) (hx : p.tables.exec = Jvm.exec) (hZ : Z.Warmed39 s.vm) (eT : T.heap = h) {vs : List Value} (F : Ary Z h a .int vs) {j x : Int32} {v : Value} {pc : Nat} {Ls : Array Slot} {rest : List Value} (hd : decode c.code pc = .ok (.iastore, 1)) (hj : ¬ j < 0) (hv : vs[j.toNatClampNeg]? = some v)
    (k : ∀ T' h', Stand p l e R s m args below meth c T' (locs ++ [⟨a, j.toNatClampNeg⟩]) cells slots → T'.heap = h' → Wr h h' a j.toNatClampNeg (.int x) → Goes p e below G (T'.setTop (mkF m (pc + 1) Ls rest))) : Goes p e below G (T.setTop (mkF m pc Ls (.int x :: .int j :: .ref a :: rest))) := by
  obtain ⟨cl, A, r, q⟩ := F
  obtain ⟨T', h', X', e', W', st⟩ := stI X hx hZ eT A (j := j) (x := x) (Ary.inb r hj hv) (g := mkF m pc Ls (.int x :: .int j :: .ref a :: rest)) rfl rfl hd
  exact go st (k T' h' X' e' W')
theorem goLastore (X : Stand p l e R s m args below meth c T locs cells slots) (hx : p.tables.exec = Jvm.exec) (hZ : Z.Warmed39 s.vm) (eT : T.heap = h) {vs : List Value} (F : Ary Z h a .long vs) {j : Int32} {x : Int64} {v : Value} {pc : Nat} {Ls : Array Slot} {rest : List Value} (hd : decode c.code pc = .ok (.lastore, 1)) (hj : ¬ j < 0) (hv : vs[j.toNatClampNeg]? = some v)
    (k : ∀ T' h', Stand p l e R s m args below meth c T' (locs ++ [⟨a, j.toNatClampNeg⟩]) cells slots → T'.heap = h' → Wr h h' a j.toNatClampNeg (.long x) → Goes p e below G (T'.setTop (mkF m (pc + 1) Ls rest))) : Goes p e below G (T.setTop (mkF m pc Ls (.long x :: .int j :: .ref a :: rest))) := by
  obtain ⟨cl, A, r, q⟩ := F
  obtain ⟨T', h', X', e', W', st⟩ := stJ X hx hZ eT A (j := j) (x := x) (Ary.inb r hj hv) (g := mkF m pc Ls (.long x :: .int j :: .ref a :: rest)) rfl rfl hd
  exact go st (k T' h' X' e' W')
theorem goBastore (X : Stand p l e R s m args below meth c T locs cells slots) (hx : p.tables.exec = Jvm.exec) (hZ : Z.Warmed39 s.vm) (eT : T.heap = h) {vs : List Value} (F : Ary Z h a .byte vs) {j x : Int32} {v : Value} {pc : Nat} {Ls : Array Slot} {rest : List Value} (hd : decode c.code pc = .ok (.bastore, 1)) (hj : ¬ j < 0) (hv : vs[j.toNatClampNeg]? = some v)
    (k : ∀ T' h', Stand p l e R s m args below meth c T' (locs ++ [⟨a, j.toNatClampNeg⟩]) cells slots → T'.heap = h' → Wr h h' a j.toNatClampNeg (.int (nar .byte x)) → Goes p e below G (T'.setTop (mkF m (pc + 1) Ls rest))) : Goes p e below G (T.setTop (mkF m pc Ls (.int x :: .int j :: .ref a :: rest))) := by
  obtain ⟨cl, A, r, q⟩ := F
  obtain ⟨T', h', X', e', W', st⟩ := stB X hx hZ eT A (j := j) (x := x) (Ary.inb r hj hv) (g := mkF m pc Ls (.int x :: .int j :: .ref a :: rest)) rfl rfl hd
  exact go st (k T' h' X' e' W')
theorem goZastore (X : Stand p l e R s m args below meth c T locs cells slots) (hx : p.tables.exec = Jvm.exec) (hZ : Z.Warmed39 s.vm) (eT : T.heap = h) {vs : List Value} (F : Ary Z h a .boolean vs) {j x : Int32} {v : Value} {pc : Nat} {Ls : Array Slot} {rest : List Value} (hd : decode c.code pc = .ok (.bastore, 1)) (hj : ¬ j < 0) (hv : vs[j.toNatClampNeg]? = some v)
    (k : ∀ T' h', Stand p l e R s m args below meth c T' (locs ++ [⟨a, j.toNatClampNeg⟩]) cells slots → T'.heap = h' → Wr h h' a j.toNatClampNeg (.int (nar .boolean x)) → Goes p e below G (T'.setTop (mkF m (pc + 1) Ls rest))) : Goes p e below G (T.setTop (mkF m pc Ls (.int x :: .int j :: .ref a :: rest))) := by
  obtain ⟨cl, A, r, q⟩ := F
  obtain ⟨T', h', X', e', W', st⟩ := stZ X hx hZ eT A (j := j) (x := x) (Ary.inb r hj hv) (g := mkF m pc Ls (.int x :: .int j :: .ref a :: rest)) rfl rfl hd
  exact go st (k T' h' X' e' W')
theorem goCastore (X : Stand p l e R s m args below meth c T locs cells slots) (hx : p.tables.exec = Jvm.exec) (hZ : Z.Warmed39 s.vm) (eT : T.heap = h) {vs : List Value} (F : Ary Z h a .char vs) {j x : Int32} {v : Value} {pc : Nat} {Ls : Array Slot} {rest : List Value} (hd : decode c.code pc = .ok (.castore, 1)) (hj : ¬ j < 0) (hv : vs[j.toNatClampNeg]? = some v)
    (k : ∀ T' h', Stand p l e R s m args below meth c T' (locs ++ [⟨a, j.toNatClampNeg⟩]) cells slots → T'.heap = h' → Wr h h' a j.toNatClampNeg (.int (nar .char x)) → Goes p e below G (T'.setTop (mkF m (pc + 1) Ls rest))) : Goes p e below G (T.setTop (mkF m pc Ls (.int x :: .int j :: .ref a :: rest))) := by
  obtain ⟨cl, A, r, q⟩ := F
  obtain ⟨T', h', X', e', W', st⟩ := stC X hx hZ eT A (j := j) (x := x) (Ary.inb r hj hv) (g := mkF m pc Ls (.int x :: .int j :: .ref a :: rest)) rfl rfl hd
  exact go st (k T' h' X' e' W')
theorem narb (x : Int32) : nar .byte x.toInt8.toInt32 = x.toInt8.toInt32 := by simp [nar]
theorem narc (x : Int32) : nar .char x.toUInt32.toUInt16.toUInt32.toInt32 = x.toUInt32.toUInt16.toUInt32.toInt32 := by simp only [nar, UInt32.toUInt32_toInt32, UInt16.toUInt16_toUInt32]
theorem gIload (X : Stand p l e R s m args below meth c T locs cells slots) (hx : p.tables.exec = Jvm.exec) {pc : Nat} {Ls : Array Slot} {st : List Value} {k : Nat} {v : Int32} (hd : decode c.code pc = .ok (.iload k, 2)) (hl : Ls[k]? = some (.val (.int v))) (K : Goes p e below G (T.setTop (mkF m (pc + 2) Ls (.int v :: st)))) : Goes p e below G (T.setTop (mkF m pc Ls (st))) :=
  go (fun _ q => XS.iload (g := mkF m pc Ls (st)) X.here hx rfl hd hl q) K
theorem gIloadN (X : Stand p l e R s m args below meth c T locs cells slots) (hx : p.tables.exec = Jvm.exec) {pc : Nat} {Ls : Array Slot} {st : List Value} {k : Fin 4} {v : Int32} (hd : decode c.code pc = .ok (.iload_n k, 1)) (hl : Ls[k.val]? = some (.val (.int v))) (K : Goes p e below G (T.setTop (mkF m (pc + 1) Ls (.int v :: st)))) : Goes p e below G (T.setTop (mkF m pc Ls (st))) :=
  go (fun _ q => XS.iloadN (g := mkF m pc Ls (st)) X.here hx rfl hd hl q) K
theorem gIstore (X : Stand p l e R s m args below meth c T locs cells slots) (hx : p.tables.exec = Jvm.exec) {pc : Nat} {Ls : Array Slot} {st : List Value} {k : Nat} {v : Int32} {l' : Array Slot} (hd : decode c.code pc = .ok (.istore k, 2)) (hl : storeLocals Ls k (.int v) = some l') (K : Goes p e below G (T.setTop (mkF m (pc + 2) l' (st)))) : Goes p e below G (T.setTop (mkF m pc Ls (.int v :: st))) :=
  go (fun _ q => XS.istore (g := mkF m pc Ls (.int v :: st)) X.here hx rfl hd rfl hl q) K
theorem gIstoreN (X : Stand p l e R s m args below meth c T locs cells slots) (hx : p.tables.exec = Jvm.exec) {pc : Nat} {Ls : Array Slot} {st : List Value} {k : Fin 4} {v : Int32} {l' : Array Slot} (hd : decode c.code pc = .ok (.istore_n k, 1)) (hl : storeLocals Ls k.val (.int v) = some l') (K : Goes p e below G (T.setTop (mkF m (pc + 1) l' (st)))) : Goes p e below G (T.setTop (mkF m pc Ls (.int v :: st))) :=
  go (fun _ q => XS.istoreN (g := mkF m pc Ls (.int v :: st)) X.here hx rfl hd rfl hl q) K
theorem gLload (X : Stand p l e R s m args below meth c T locs cells slots) (hx : p.tables.exec = Jvm.exec) {pc : Nat} {Ls : Array Slot} {st : List Value} {k : Nat} {v : Int64} (hd : decode c.code pc = .ok (.lload k, 2)) (hl : Ls[k]? = some (.val (.long v))) (K : Goes p e below G (T.setTop (mkF m (pc + 2) Ls (.long v :: st)))) : Goes p e below G (T.setTop (mkF m pc Ls (st))) :=
  go (fun _ q => XT.lload (g := mkF m pc Ls (st)) X.here hx rfl hd hl q) K
theorem gLloadN (X : Stand p l e R s m args below meth c T locs cells slots) (hx : p.tables.exec = Jvm.exec) {pc : Nat} {Ls : Array Slot} {st : List Value} {k : Fin 4} {v : Int64} (hd : decode c.code pc = .ok (.lload_n k, 1)) (hl : Ls[k.val]? = some (.val (.long v))) (K : Goes p e below G (T.setTop (mkF m (pc + 1) Ls (.long v :: st)))) : Goes p e below G (T.setTop (mkF m pc Ls (st))) :=
  go (fun _ q => XT.lloadN (g := mkF m pc Ls (st)) X.here hx rfl hd hl q) K
theorem gLstore (X : Stand p l e R s m args below meth c T locs cells slots) (hx : p.tables.exec = Jvm.exec) {pc : Nat} {Ls : Array Slot} {st : List Value} {k : Nat} {v : Int64} {l' : Array Slot} (hd : decode c.code pc = .ok (.lstore k, 2)) (hl : storeLocals Ls k (.long v) = some l') (K : Goes p e below G (T.setTop (mkF m (pc + 2) l' (st)))) : Goes p e below G (T.setTop (mkF m pc Ls (.long v :: st))) :=
  go (fun _ q => XT.lstore (g := mkF m pc Ls (.long v :: st)) X.here hx rfl hd rfl hl q) K
theorem gLstoreN (X : Stand p l e R s m args below meth c T locs cells slots) (hx : p.tables.exec = Jvm.exec) {pc : Nat} {Ls : Array Slot} {st : List Value} {k : Fin 4} {v : Int64} {l' : Array Slot} (hd : decode c.code pc = .ok (.lstore_n k, 1)) (hl : storeLocals Ls k.val (.long v) = some l') (K : Goes p e below G (T.setTop (mkF m (pc + 1) l' (st)))) : Goes p e below G (T.setTop (mkF m pc Ls (.long v :: st))) :=
  go (fun _ q => XT.lstoreN (g := mkF m pc Ls (.long v :: st)) X.here hx rfl hd rfl hl q) K
theorem gDload (X : Stand p l e R s m args below meth c T locs cells slots) (hx : p.tables.exec = Jvm.exec) {pc : Nat} {Ls : Array Slot} {st : List Value} {k : Nat} {v : UInt64} (hd : decode c.code pc = .ok (.dload k, 2)) (hl : Ls[k]? = some (.val (.double v))) (K : Goes p e below G (T.setTop (mkF m (pc + 2) Ls (.double v :: st)))) : Goes p e below G (T.setTop (mkF m pc Ls (st))) :=
  go (fun _ q => XS.dload (g := mkF m pc Ls (st)) X.here hx rfl hd hl q) K
theorem gDloadN (X : Stand p l e R s m args below meth c T locs cells slots) (hx : p.tables.exec = Jvm.exec) {pc : Nat} {Ls : Array Slot} {st : List Value} {k : Fin 4} {v : UInt64} (hd : decode c.code pc = .ok (.dload_n k, 1)) (hl : Ls[k.val]? = some (.val (.double v))) (K : Goes p e below G (T.setTop (mkF m (pc + 1) Ls (.double v :: st)))) : Goes p e below G (T.setTop (mkF m pc Ls (st))) :=
  go (fun _ q => XS.dloadN (g := mkF m pc Ls (st)) X.here hx rfl hd hl q) K
theorem gDstore (X : Stand p l e R s m args below meth c T locs cells slots) (hx : p.tables.exec = Jvm.exec) {pc : Nat} {Ls : Array Slot} {st : List Value} {k : Nat} {v : UInt64} {l' : Array Slot} (hd : decode c.code pc = .ok (.dstore k, 2)) (hl : storeLocals Ls k (.double v) = some l') (K : Goes p e below G (T.setTop (mkF m (pc + 2) l' (st)))) : Goes p e below G (T.setTop (mkF m pc Ls (.double v :: st))) :=
  go (fun _ q => XS.dstore (g := mkF m pc Ls (.double v :: st)) X.here hx rfl hd rfl hl q) K
theorem gDstoreN (X : Stand p l e R s m args below meth c T locs cells slots) (hx : p.tables.exec = Jvm.exec) {pc : Nat} {Ls : Array Slot} {st : List Value} {k : Fin 4} {v : UInt64} {l' : Array Slot} (hd : decode c.code pc = .ok (.dstore_n k, 1)) (hl : storeLocals Ls k.val (.double v) = some l') (K : Goes p e below G (T.setTop (mkF m (pc + 1) l' (st)))) : Goes p e below G (T.setTop (mkF m pc Ls (.double v :: st))) :=
  go (fun _ q => XS.dstoreN (g := mkF m pc Ls (.double v :: st)) X.here hx rfl hd rfl hl q) K
theorem gAload (X : Stand p l e R s m args below meth c T locs cells slots) (hx : p.tables.exec = Jvm.exec) {pc : Nat} {Ls : Array Slot} {st : List Value} {k : Nat} {v : Value} (hd : decode c.code pc = .ok (.aload k, 2)) (hl : Ls[k]? = some (.val v)) (hv : v.isRef = true) (K : Goes p e below G (T.setTop (mkF m (pc + 2) Ls (v :: st)))) : Goes p e below G (T.setTop (mkF m pc Ls (st))) :=
  go (fun _ q => XS.aload (g := mkF m pc Ls (st)) X.here hx rfl hd hl hv q) K
theorem gAloadN (X : Stand p l e R s m args below meth c T locs cells slots) (hx : p.tables.exec = Jvm.exec) {pc : Nat} {Ls : Array Slot} {st : List Value} {k : Fin 4} {v : Value} (hd : decode c.code pc = .ok (.aload_n k, 1)) (hl : Ls[k.val]? = some (.val v)) (hv : v.isRef = true) (K : Goes p e below G (T.setTop (mkF m (pc + 1) Ls (v :: st)))) : Goes p e below G (T.setTop (mkF m pc Ls (st))) :=
  go (fun _ q => XS.aloadN (g := mkF m pc Ls (st)) X.here hx rfl hd hl hv q) K
theorem gAstore (X : Stand p l e R s m args below meth c T locs cells slots) (hx : p.tables.exec = Jvm.exec) {pc : Nat} {Ls : Array Slot} {st : List Value} {k : Nat} {v : Value} {l' : Array Slot} (hd : decode c.code pc = .ok (.astore k, 2)) (hv : v.isRef = true) (hl : storeLocals Ls k v = some l') (K : Goes p e below G (T.setTop (mkF m (pc + 2) l' (st)))) : Goes p e below G (T.setTop (mkF m pc Ls (v :: st))) :=
  go (fun _ q => XS.astore (g := mkF m pc Ls (v :: st)) X.here hx rfl hd rfl hv hl q) K
theorem gAstoreN (X : Stand p l e R s m args below meth c T locs cells slots) (hx : p.tables.exec = Jvm.exec) {pc : Nat} {Ls : Array Slot} {st : List Value} {k : Fin 4} {v : Value} {l' : Array Slot} (hd : decode c.code pc = .ok (.astore_n k, 1)) (hv : v.isRef = true) (hl : storeLocals Ls k.val v = some l') (K : Goes p e below G (T.setTop (mkF m (pc + 1) l' (st)))) : Goes p e below G (T.setTop (mkF m pc Ls (v :: st))) :=
  go (fun _ q => XS.astoreN (g := mkF m pc Ls (v :: st)) X.here hx rfl hd rfl hv hl q) K
theorem gIstoreS (X : Stand p l e R s m args below meth c T locs cells slots) (hx : p.tables.exec = Jvm.exec) {pc : Nat} {Ls : Array Slot} {st : List Value} {k : Nat} {v : Int32} {o : Slot} (hd : decode c.code pc = .ok (.istore k, 2)) (hold : Ls[k]? = some o) (ho : o = .unset ∨ ∃ w, o = .val w ∧ w.category = 1) (K : Goes p e below G (T.setTop (mkF m (pc + 2) (Ls.setIfInBounds k (.val (.int v))) (st)))) : Goes p e below G (T.setTop (mkF m pc Ls (.int v :: st))) :=
  go (fun _ q => XS.istoreS (g := mkF m pc Ls (.int v :: st)) X.here hx rfl hd rfl hold ho q) K
theorem gIconst (X : Stand p l e R s m args below meth c T locs cells slots) (hx : p.tables.exec = Jvm.exec) {pc : Nat} {Ls : Array Slot} {st : List Value} {i : Int} {v : Int32} (hd : decode c.code pc = .ok (.iconst i, 1)) (hv : Int32.ofInt i = v) (K : Goes p e below G (T.setTop (mkF m (pc + 1) Ls (.int v :: st)))) : Goes p e below G (T.setTop (mkF m pc Ls st)) := by
  subst hv
  exact go (fun _ q => XS.iconst (g := mkF m pc Ls st) X.here hx rfl hd q) K
theorem gBipush (X : Stand p l e R s m args below meth c T locs cells slots) (hx : p.tables.exec = Jvm.exec) {pc : Nat} {Ls : Array Slot} {st : List Value} {i : Int} {v : Int32} (hd : decode c.code pc = .ok (.bipush i, 2)) (hv : (Int8.ofInt i).toInt32 = v) (K : Goes p e below G (T.setTop (mkF m (pc + 2) Ls (.int v :: st)))) : Goes p e below G (T.setTop (mkF m pc Ls st)) := by
  subst hv
  exact go (fun _ q => XS.bipush (g := mkF m pc Ls st) X.here hx rfl hd q) K
theorem gSipush (X : Stand p l e R s m args below meth c T locs cells slots) (hx : p.tables.exec = Jvm.exec) {pc : Nat} {Ls : Array Slot} {st : List Value} {i : Int} {v : Int32} (hd : decode c.code pc = .ok (.sipush i, 3)) (hv : (Int16.ofInt i).toInt32 = v) (K : Goes p e below G (T.setTop (mkF m (pc + 3) Ls (.int v :: st)))) : Goes p e below G (T.setTop (mkF m pc Ls st)) := by
  subst hv
  exact go (fun _ q => XS.sipush (g := mkF m pc Ls st) X.here hx rfl hd q) K
theorem gLconst (X : Stand p l e R s m args below meth c T locs cells slots) (hx : p.tables.exec = Jvm.exec) {pc : Nat} {Ls : Array Slot} {st : List Value} {i : Fin 2} {v : Int64} (hd : decode c.code pc = .ok (.lconst i, 1)) (hv : Int64.ofNat i = v) (K : Goes p e below G (T.setTop (mkF m (pc + 1) Ls (.long v :: st)))) : Goes p e below G (T.setTop (mkF m pc Ls st)) := by
  subst hv
  exact go (fun _ q => XT.lconst (g := mkF m pc Ls st) X.here hx rfl hd q) K
theorem gAnull (X : Stand p l e R s m args below meth c T locs cells slots) (hx : p.tables.exec = Jvm.exec) {pc : Nat} {Ls : Array Slot} {st : List Value}  (hd : decode c.code pc = .ok (.aconst_null, 1))  (K : Goes p e below G (T.setTop (mkF m (pc + 1) Ls (.null :: st)))) : Goes p e below G (T.setTop (mkF m pc Ls (st))) :=
  go (fun _ q => XS.aconstNull (g := mkF m pc Ls (st)) X.here hx rfl hd  q) K
theorem gDconst0 (X : Stand p l e R s m args below meth c T locs cells slots) (hx : p.tables.exec = Jvm.exec) {pc : Nat} {Ls : Array Slot} {st : List Value}  (hd : decode c.code pc = .ok (.dconst 0, 1))  (K : Goes p e below G (T.setTop (mkF m (pc + 1) Ls (.double FP.dconst0 :: st)))) : Goes p e below G (T.setTop (mkF m pc Ls (st))) :=
  go (fun _ q => XS.dconst0 (g := mkF m pc Ls (st)) X.here hx rfl hd rfl q) K
theorem gDconst1 (X : Stand p l e R s m args below meth c T locs cells slots) (hx : p.tables.exec = Jvm.exec) {pc : Nat} {Ls : Array Slot} {st : List Value}  (hd : decode c.code pc = .ok (.dconst 1, 1))  (K : Goes p e below G (T.setTop (mkF m (pc + 1) Ls (.double FP.dconst1 :: st)))) : Goes p e below G (T.setTop (mkF m pc Ls (st))) :=
  go (fun _ q => XS.dconst1 (g := mkF m pc Ls (st)) X.here hx rfl hd rfl q) K
theorem gIadd (X : Stand p l e R s m args below meth c T locs cells slots) (hx : p.tables.exec = Jvm.exec) {pc : Nat} {Ls : Array Slot} {st : List Value} {x y : Int32} (hd : decode c.code pc = .ok (.iadd, 1))  (K : Goes p e below G (T.setTop (mkF m (pc + 1) Ls (.int (x + y) :: st)))) : Goes p e below G (T.setTop (mkF m pc Ls (.int y :: .int x :: st))) :=
  go (fun _ q => XS.iadd (g := mkF m pc Ls (.int y :: .int x :: st)) X.here hx rfl hd rfl q) K
theorem gIsub (X : Stand p l e R s m args below meth c T locs cells slots) (hx : p.tables.exec = Jvm.exec) {pc : Nat} {Ls : Array Slot} {st : List Value} {x y : Int32} (hd : decode c.code pc = .ok (.isub, 1))  (K : Goes p e below G (T.setTop (mkF m (pc + 1) Ls (.int (x - y) :: st)))) : Goes p e below G (T.setTop (mkF m pc Ls (.int y :: .int x :: st))) :=
  go (fun _ q => XS.isub (g := mkF m pc Ls (.int y :: .int x :: st)) X.here hx rfl hd rfl q) K
theorem gImul (X : Stand p l e R s m args below meth c T locs cells slots) (hx : p.tables.exec = Jvm.exec) {pc : Nat} {Ls : Array Slot} {st : List Value} {x y : Int32} (hd : decode c.code pc = .ok (.imul, 1))  (K : Goes p e below G (T.setTop (mkF m (pc + 1) Ls (.int (x * y) :: st)))) : Goes p e below G (T.setTop (mkF m pc Ls (.int y :: .int x :: st))) :=
  go (fun _ q => XS.imul (g := mkF m pc Ls (.int y :: .int x :: st)) X.here hx rfl hd rfl q) K
theorem gIand (X : Stand p l e R s m args below meth c T locs cells slots) (hx : p.tables.exec = Jvm.exec) {pc : Nat} {Ls : Array Slot} {st : List Value} {x y : Int32} (hd : decode c.code pc = .ok (.iand, 1))  (K : Goes p e below G (T.setTop (mkF m (pc + 1) Ls (.int (x &&& y) :: st)))) : Goes p e below G (T.setTop (mkF m pc Ls (.int y :: .int x :: st))) :=
  go (fun _ q => XS.iand (g := mkF m pc Ls (.int y :: .int x :: st)) X.here hx rfl hd rfl q) K
theorem gIor (X : Stand p l e R s m args below meth c T locs cells slots) (hx : p.tables.exec = Jvm.exec) {pc : Nat} {Ls : Array Slot} {st : List Value} {x y : Int32} (hd : decode c.code pc = .ok (.ior, 1))  (K : Goes p e below G (T.setTop (mkF m (pc + 1) Ls (.int (x ||| y) :: st)))) : Goes p e below G (T.setTop (mkF m pc Ls (.int y :: .int x :: st))) :=
  go (fun _ q => XT.ior (g := mkF m pc Ls (.int y :: .int x :: st)) X.here hx rfl hd rfl q) K
theorem gIxor (X : Stand p l e R s m args below meth c T locs cells slots) (hx : p.tables.exec = Jvm.exec) {pc : Nat} {Ls : Array Slot} {st : List Value} {x y : Int32} (hd : decode c.code pc = .ok (.ixor, 1))  (K : Goes p e below G (T.setTop (mkF m (pc + 1) Ls (.int (x ^^^ y) :: st)))) : Goes p e below G (T.setTop (mkF m pc Ls (.int y :: .int x :: st))) :=
  go (fun _ q => XT.ixor (g := mkF m pc Ls (.int y :: .int x :: st)) X.here hx rfl hd rfl q) K
theorem gIshl (X : Stand p l e R s m args below meth c T locs cells slots) (hx : p.tables.exec = Jvm.exec) {pc : Nat} {Ls : Array Slot} {st : List Value} {x y : Int32} (hd : decode c.code pc = .ok (.ishl, 1))  (K : Goes p e below G (T.setTop (mkF m (pc + 1) Ls (.int (x <<< (y &&& 31)) :: st)))) : Goes p e below G (T.setTop (mkF m pc Ls (.int y :: .int x :: st))) :=
  go (fun _ q => XT.ishl (g := mkF m pc Ls (.int y :: .int x :: st)) X.here hx rfl hd rfl q) K
theorem gIshr (X : Stand p l e R s m args below meth c T locs cells slots) (hx : p.tables.exec = Jvm.exec) {pc : Nat} {Ls : Array Slot} {st : List Value} {x y : Int32} (hd : decode c.code pc = .ok (.ishr, 1))  (K : Goes p e below G (T.setTop (mkF m (pc + 1) Ls (.int (x >>> (y &&& 31)) :: st)))) : Goes p e below G (T.setTop (mkF m pc Ls (.int y :: .int x :: st))) :=
  go (fun _ q => XT.ishr (g := mkF m pc Ls (.int y :: .int x :: st)) X.here hx rfl hd rfl q) K
theorem gIushr (X : Stand p l e R s m args below meth c T locs cells slots) (hx : p.tables.exec = Jvm.exec) {pc : Nat} {Ls : Array Slot} {st : List Value} {x y : Int32} (hd : decode c.code pc = .ok (.iushr, 1))  (K : Goes p e below G (T.setTop (mkF m (pc + 1) Ls (.int (XT.ushr x y) :: st)))) : Goes p e below G (T.setTop (mkF m pc Ls (.int y :: .int x :: st))) :=
  go (fun _ q => XT.iushr (g := mkF m pc Ls (.int y :: .int x :: st)) X.here hx rfl hd rfl q) K
theorem gLadd (X : Stand p l e R s m args below meth c T locs cells slots) (hx : p.tables.exec = Jvm.exec) {pc : Nat} {Ls : Array Slot} {st : List Value} {x y : Int64} (hd : decode c.code pc = .ok (.ladd, 1))  (K : Goes p e below G (T.setTop (mkF m (pc + 1) Ls (.long (x + y) :: st)))) : Goes p e below G (T.setTop (mkF m pc Ls (.long y :: .long x :: st))) :=
  go (fun _ q => XT.ladd (g := mkF m pc Ls (.long y :: .long x :: st)) X.here hx rfl hd rfl q) K
theorem gLsub (X : Stand p l e R s m args below meth c T locs cells slots) (hx : p.tables.exec = Jvm.exec) {pc : Nat} {Ls : Array Slot} {st : List Value} {x y : Int64} (hd : decode c.code pc = .ok (.lsub, 1))  (K : Goes p e below G (T.setTop (mkF m (pc + 1) Ls (.long (x - y) :: st)))) : Goes p e below G (T.setTop (mkF m pc Ls (.long y :: .long x :: st))) :=
  go (fun _ q => XT.lsub (g := mkF m pc Ls (.long y :: .long x :: st)) X.here hx rfl hd rfl q) K
theorem gLmul (X : Stand p l e R s m args below meth c T locs cells slots) (hx : p.tables.exec = Jvm.exec) {pc : Nat} {Ls : Array Slot} {st : List Value} {x y : Int64} (hd : decode c.code pc = .ok (.lmul, 1))  (K : Goes p e below G (T.setTop (mkF m (pc + 1) Ls (.long (x * y) :: st)))) : Goes p e below G (T.setTop (mkF m pc Ls (.long y :: .long x :: st))) :=
  go (fun _ q => XT.lmul (g := mkF m pc Ls (.long y :: .long x :: st)) X.here hx rfl hd rfl q) K
theorem gLand (X : Stand p l e R s m args below meth c T locs cells slots) (hx : p.tables.exec = Jvm.exec) {pc : Nat} {Ls : Array Slot} {st : List Value} {x y : Int64} (hd : decode c.code pc = .ok (.land, 1))  (K : Goes p e below G (T.setTop (mkF m (pc + 1) Ls (.long (x &&& y) :: st)))) : Goes p e below G (T.setTop (mkF m pc Ls (.long y :: .long x :: st))) :=
  go (fun _ q => XT.land (g := mkF m pc Ls (.long y :: .long x :: st)) X.here hx rfl hd rfl q) K
theorem gLor (X : Stand p l e R s m args below meth c T locs cells slots) (hx : p.tables.exec = Jvm.exec) {pc : Nat} {Ls : Array Slot} {st : List Value} {x y : Int64} (hd : decode c.code pc = .ok (.lor, 1))  (K : Goes p e below G (T.setTop (mkF m (pc + 1) Ls (.long (x ||| y) :: st)))) : Goes p e below G (T.setTop (mkF m pc Ls (.long y :: .long x :: st))) :=
  go (fun _ q => XT.lor (g := mkF m pc Ls (.long y :: .long x :: st)) X.here hx rfl hd rfl q) K
theorem gLxor (X : Stand p l e R s m args below meth c T locs cells slots) (hx : p.tables.exec = Jvm.exec) {pc : Nat} {Ls : Array Slot} {st : List Value} {x y : Int64} (hd : decode c.code pc = .ok (.lxor, 1))  (K : Goes p e below G (T.setTop (mkF m (pc + 1) Ls (.long (x ^^^ y) :: st)))) : Goes p e below G (T.setTop (mkF m pc Ls (.long y :: .long x :: st))) :=
  go (fun _ q => XT.lxor (g := mkF m pc Ls (.long y :: .long x :: st)) X.here hx rfl hd rfl q) K
theorem gLshl (X : Stand p l e R s m args below meth c T locs cells slots) (hx : p.tables.exec = Jvm.exec) {pc : Nat} {Ls : Array Slot} {st : List Value} {x : Int64} {y : Int32} (hd : decode c.code pc = .ok (.lshl, 1))  (K : Goes p e below G (T.setTop (mkF m (pc + 1) Ls (.long (x <<< (y.toInt64 &&& 63)) :: st)))) : Goes p e below G (T.setTop (mkF m pc Ls (.int y :: .long x :: st))) :=
  go (fun _ q => XT.lshl (g := mkF m pc Ls (.int y :: .long x :: st)) X.here hx rfl hd rfl q) K
theorem gLshr (X : Stand p l e R s m args below meth c T locs cells slots) (hx : p.tables.exec = Jvm.exec) {pc : Nat} {Ls : Array Slot} {st : List Value} {x : Int64} {y : Int32} (hd : decode c.code pc = .ok (.lshr, 1))  (K : Goes p e below G (T.setTop (mkF m (pc + 1) Ls (.long (x >>> (y.toInt64 &&& 63)) :: st)))) : Goes p e below G (T.setTop (mkF m pc Ls (.int y :: .long x :: st))) :=
  go (fun _ q => XT.lshr (g := mkF m pc Ls (.int y :: .long x :: st)) X.here hx rfl hd rfl q) K
theorem gLushr (X : Stand p l e R s m args below meth c T locs cells slots) (hx : p.tables.exec = Jvm.exec) {pc : Nat} {Ls : Array Slot} {st : List Value} {x : Int64} {y : Int32} (hd : decode c.code pc = .ok (.lushr, 1))  (K : Goes p e below G (T.setTop (mkF m (pc + 1) Ls (.long (XT.ushrL x y) :: st)))) : Goes p e below G (T.setTop (mkF m pc Ls (.int y :: .long x :: st))) :=
  go (fun _ q => XT.lushr (g := mkF m pc Ls (.int y :: .long x :: st)) X.here hx rfl hd rfl q) K
theorem gIneg (X : Stand p l e R s m args below meth c T locs cells slots) (hx : p.tables.exec = Jvm.exec) {pc : Nat} {Ls : Array Slot} {st : List Value} {x : Int32} (hd : decode c.code pc = .ok (.ineg, 1))  (K : Goes p e below G (T.setTop (mkF m (pc + 1) Ls (.int (-x) :: st)))) : Goes p e below G (T.setTop (mkF m pc Ls (.int x :: st))) :=
  go (fun _ q => XS.ineg (g := mkF m pc Ls (.int x :: st)) X.here hx rfl hd rfl q) K
theorem gI2l (X : Stand p l e R s m args below meth c T locs cells slots) (hx : p.tables.exec = Jvm.exec) {pc : Nat} {Ls : Array Slot} {st : List Value} {x : Int32} (hd : decode c.code pc = .ok (.i2l, 1))  (K : Goes p e below G (T.setTop (mkF m (pc + 1) Ls (.long (x.toInt64) :: st)))) : Goes p e below G (T.setTop (mkF m pc Ls (.int x :: st))) :=
  go (fun _ q => XT.i2l (g := mkF m pc Ls (.int x :: st)) X.here hx rfl hd rfl q) K
theorem gL2i (X : Stand p l e R s m args below meth c T locs cells slots) (hx : p.tables.exec = Jvm.exec) {pc : Nat} {Ls : Array Slot} {st : List Value} {x : Int64} (hd : decode c.code pc = .ok (.l2i, 1))  (K : Goes p e below G (T.setTop (mkF m (pc + 1) Ls (.int (x.toInt32) :: st)))) : Goes p e below G (T.setTop (mkF m pc Ls (.long x :: st))) :=
  go (fun _ q => XT.l2i (g := mkF m pc Ls (.long x :: st)) X.here hx rfl hd rfl q) K
theorem gI2b (X : Stand p l e R s m args below meth c T locs cells slots) (hx : p.tables.exec = Jvm.exec) {pc : Nat} {Ls : Array Slot} {st : List Value} {x : Int32} (hd : decode c.code pc = .ok (.i2b, 1))  (K : Goes p e below G (T.setTop (mkF m (pc + 1) Ls (.int (x.toInt8.toInt32) :: st)))) : Goes p e below G (T.setTop (mkF m pc Ls (.int x :: st))) :=
  go (fun _ q => XT.i2b (g := mkF m pc Ls (.int x :: st)) X.here hx rfl hd rfl q) K
theorem gI2c (X : Stand p l e R s m args below meth c T locs cells slots) (hx : p.tables.exec = Jvm.exec) {pc : Nat} {Ls : Array Slot} {st : List Value} {x : Int32} (hd : decode c.code pc = .ok (.i2c, 1))  (K : Goes p e below G (T.setTop (mkF m (pc + 1) Ls (.int (x.toUInt32.toUInt16.toUInt32.toInt32) :: st)))) : Goes p e below G (T.setTop (mkF m pc Ls (.int x :: st))) :=
  go (fun _ q => XT.i2c (g := mkF m pc Ls (.int x :: st)) X.here hx rfl hd rfl q) K
theorem gI2d (X : Stand p l e R s m args below meth c T locs cells slots) (hx : p.tables.exec = Jvm.exec) {pc : Nat} {Ls : Array Slot} {st : List Value} {x : Int32} (hd : decode c.code pc = .ok (.i2d, 1))  (K : Goes p e below G (T.setTop (mkF m (pc + 1) Ls (.double (FP.i2d x) :: st)))) : Goes p e below G (T.setTop (mkF m pc Ls (.int x :: st))) :=
  go (fun _ q => XS.i2dS (g := mkF m pc Ls (.int x :: st)) X.here hx rfl hd rfl rfl q) K
theorem gL2d (X : Stand p l e R s m args below meth c T locs cells slots) (hx : p.tables.exec = Jvm.exec) {pc : Nat} {Ls : Array Slot} {st : List Value} {x : Int64} (hd : decode c.code pc = .ok (.l2d, 1))  (K : Goes p e below G (T.setTop (mkF m (pc + 1) Ls (.double (FP.l2d x) :: st)))) : Goes p e below G (T.setTop (mkF m pc Ls (.long x :: st))) :=
  go (fun _ q => XS.l2dS (g := mkF m pc Ls (.long x :: st)) X.here hx rfl hd rfl rfl q) K
theorem gDadd (X : Stand p l e R s m args below meth c T locs cells slots) (hx : p.tables.exec = Jvm.exec) {pc : Nat} {Ls : Array Slot} {st : List Value} {x y : UInt64} (hd : decode c.code pc = .ok (.dadd, 1)) (hn : Jvm.Free.Fl.NoNaN64 (FP.dadd x y)) (K : Goes p e below G (T.setTop (mkF m (pc + 1) Ls (.double (FP.dadd x y) :: st)))) : Goes p e below G (T.setTop (mkF m pc Ls (.double y :: .double x :: st))) :=
  go (fun _ q => XS.daddS (g := mkF m pc Ls (.double y :: .double x :: st)) X.here hx rfl hd rfl hn rfl q) K
theorem gDsub (X : Stand p l e R s m args below meth c T locs cells slots) (hx : p.tables.exec = Jvm.exec) {pc : Nat} {Ls : Array Slot} {st : List Value} {x y : UInt64} (hd : decode c.code pc = .ok (.dsub, 1)) (hn : Jvm.Free.Fl.NoNaN64 (FP.dsub x y)) (K : Goes p e below G (T.setTop (mkF m (pc + 1) Ls (.double (FP.dsub x y) :: st)))) : Goes p e below G (T.setTop (mkF m pc Ls (.double y :: .double x :: st))) :=
  go (fun _ q => XS.dsubS (g := mkF m pc Ls (.double y :: .double x :: st)) X.here hx rfl hd rfl hn rfl q) K
theorem gDmul (X : Stand p l e R s m args below meth c T locs cells slots) (hx : p.tables.exec = Jvm.exec) {pc : Nat} {Ls : Array Slot} {st : List Value} {x y : UInt64} (hd : decode c.code pc = .ok (.dmul, 1)) (hn : Jvm.Free.Fl.NoNaN64 (FP.dmul x y)) (K : Goes p e below G (T.setTop (mkF m (pc + 1) Ls (.double (FP.dmul x y) :: st)))) : Goes p e below G (T.setTop (mkF m pc Ls (.double y :: .double x :: st))) :=
  go (fun _ q => XS.dmulS (g := mkF m pc Ls (.double y :: .double x :: st)) X.here hx rfl hd rfl hn rfl q) K
theorem gDdiv (X : Stand p l e R s m args below meth c T locs cells slots) (hx : p.tables.exec = Jvm.exec) {pc : Nat} {Ls : Array Slot} {st : List Value} {x y : UInt64} (hd : decode c.code pc = .ok (.ddiv, 1)) (hn : Jvm.Free.Fl.NoNaN64 (FP.ddiv x y)) (K : Goes p e below G (T.setTop (mkF m (pc + 1) Ls (.double (FP.ddiv x y) :: st)))) : Goes p e below G (T.setTop (mkF m pc Ls (.double y :: .double x :: st))) :=
  go (fun _ q => XS.ddivS (g := mkF m pc Ls (.double y :: .double x :: st)) X.here hx rfl hd rfl hn rfl q) K
theorem gDcmp (X : Stand p l e R s m args below meth c T locs cells slots) (hx : p.tables.exec = Jvm.exec) {pc : Nat} {Ls : Array Slot} {st : List Value} {o : CmpOp} {x y : UInt64} (hd : decode c.code pc = .ok (.dcmp o, 1))  (K : Goes p e below G (T.setTop (mkF m (pc + 1) Ls (.int (cmpValue (FP.dcmp x y) o) :: st)))) : Goes p e below G (T.setTop (mkF m pc Ls (.double y :: .double x :: st))) :=
  go (fun _ q => XS.dcmpS (g := mkF m pc Ls (.double y :: .double x :: st)) X.here hx rfl hd rfl rfl q) K
theorem gLcmp (X : Stand p l e R s m args below meth c T locs cells slots) (hx : p.tables.exec = Jvm.exec) {pc : Nat} {Ls : Array Slot} {st : List Value} {x y : Int64} (hd : decode c.code pc = .ok (.lcmp, 1))  (K : Goes p e below G (T.setTop (mkF m (pc + 1) Ls (.int (XT.cmpL x y) :: st)))) : Goes p e below G (T.setTop (mkF m pc Ls (.long y :: .long x :: st))) :=
  go (fun _ q => XT.lcmp (g := mkF m pc Ls (.long y :: .long x :: st)) X.here hx rfl hd rfl q) K
theorem gDup (X : Stand p l e R s m args below meth c T locs cells slots) (hx : p.tables.exec = Jvm.exec) {pc : Nat} {Ls : Array Slot} {st : List Value} {x : Value} (hd : decode c.code pc = .ok (.dup, 1)) (hc : x.category = 1) (K : Goes p e below G (T.setTop (mkF m (pc + 1) Ls (x :: x :: st)))) : Goes p e below G (T.setTop (mkF m pc Ls (x :: st))) :=
  go (fun _ q => XS.dup (g := mkF m pc Ls (x :: st)) X.here hx rfl hd rfl hc q) K
theorem gPop (X : Stand p l e R s m args below meth c T locs cells slots) (hx : p.tables.exec = Jvm.exec) {pc : Nat} {Ls : Array Slot} {st : List Value} {x : Value} (hd : decode c.code pc = .ok (.pop, 1)) (hc : x.category = 1) (K : Goes p e below G (T.setTop (mkF m (pc + 1) Ls (st)))) : Goes p e below G (T.setTop (mkF m pc Ls (x :: st))) :=
  go (fun _ q => XT.pop (g := mkF m pc Ls (x :: st)) X.here hx rfl hd rfl hc q) K
theorem gDupX1 (X : Stand p l e R s m args below meth c T locs cells slots) (hx : p.tables.exec = Jvm.exec) {pc : Nat} {Ls : Array Slot} {st : List Value} {x y : Value} (hd : decode c.code pc = .ok (.dup_x1, 1)) (hc : x.category = 1) (hc' : y.category = 1) (K : Goes p e below G (T.setTop (mkF m (pc + 1) Ls (x :: y :: x :: st)))) : Goes p e below G (T.setTop (mkF m pc Ls (x :: y :: st))) :=
  go (fun _ q => XT.dupX1 (g := mkF m pc Ls (x :: y :: st)) X.here hx rfl hd rfl hc hc' q) K
theorem gDup2 (X : Stand p l e R s m args below meth c T locs cells slots) (hx : p.tables.exec = Jvm.exec) {pc : Nat} {Ls : Array Slot} {st : List Value} {x y : Value} (hd : decode c.code pc = .ok (.dup2, 1)) (hc : x.category = 1) (hc' : y.category = 1) (K : Goes p e below G (T.setTop (mkF m (pc + 1) Ls (x :: y :: x :: y :: st)))) : Goes p e below G (T.setTop (mkF m pc Ls (x :: y :: st))) :=
  go (fun _ q => XT.dup2 (g := mkF m pc Ls (x :: y :: st)) X.here hx rfl hd rfl hc hc' q) K
theorem gIinc (X : Stand p l e R s m args below meth c T locs cells slots) (hx : p.tables.exec = Jvm.exec) {pc : Nat} {Ls : Array Slot} {st : List Value} {k : Nat} {i : Int} {x v : Int32} {l' : Array Slot} (hd : decode c.code pc = .ok (.iinc k i, 3)) (hv : x + Int32.ofInt i = v) (hl : Ls[k]? = some (.val (.int x))) (hl' : storeLocals Ls k (.int v) = some l') (K : Goes p e below G (T.setTop (mkF m (pc + 3) l' st))) : Goes p e below G (T.setTop (mkF m pc Ls st)) := by
  subst hv
  exact go (fun _ q => XS.iinc (g := mkF m pc Ls st) X.here hx rfl hd hl hl' q) K
theorem gIrem (X : Stand p l e R s m args below meth c T locs cells slots) (hx : p.tables.exec = Jvm.exec) {pc : Nat} {Ls : Array Slot} {st : List Value} {x y : Int32} (hd : decode c.code pc = .ok (.irem, 1)) (hy : y ≠ 0) (K : Goes p e below G (T.setTop (mkF m (pc + 1) Ls (.int (x % y) :: st)))) : Goes p e below G (T.setTop (mkF m pc Ls (.int y :: .int x :: st))) :=
  go (fun _ q => iremM X hx (g := mkF m pc Ls (.int y :: .int x :: st)) rfl hd rfl hy q) K
theorem gIdiv (X : Stand p l e R s m args below meth c T locs cells slots) (hx : p.tables.exec = Jvm.exec) {pc : Nat} {Ls : Array Slot} {st : List Value} {x y : Int32} (hd : decode c.code pc = .ok (.idiv, 1)) (hy : y ≠ 0) (K : Goes p e below G (T.setTop (mkF m (pc + 1) Ls (.int (x / y) :: st)))) : Goes p e below G (T.setTop (mkF m pc Ls (.int y :: .int x :: st))) :=
  go (fun _ q => XS.idiv (g := mkF m pc Ls (.int y :: .int x :: st)) X.here hx rfl hd rfl hy q) K
theorem gGoto (X : Stand p l e R s m args below meth c T locs cells slots) (hx : p.tables.exec = Jvm.exec) {pc : Nat} {Ls : Array Slot} {st : List Value} {o : Int} {pc' : Nat} (hd : decode c.code pc = .ok (.goto o, 3)) (ho : 0 ≤ (pc : Int) + o) (hp : ((pc : Int) + o).toNat = pc') (K : Goes p e below G (T.setTop (mkF m pc' Ls (st)))) : Goes p e below G (T.setTop (mkF m pc Ls (st))) :=
  go (fun _ q => XS.goto (g := mkF m pc Ls (st)) X.here hx rfl rfl hd ho hp q) K
theorem gIfY (X : Stand p l e R s m args below meth c T locs cells slots) (hx : p.tables.exec = Jvm.exec) {pc : Nat} {Ls : Array Slot} {st : List Value} {cd : ClassFile.Cond} {x : Int32} {o : Int} {pc' : Nat} (hd : decode c.code pc = .ok (.ifCond cd o, 3)) (hc : ifCond.holds cd x = true) (ho : 0 ≤ (pc : Int) + o) (hp : ((pc : Int) + o).toNat = pc') (K : Goes p e below G (T.setTop (mkF m pc' Ls (st)))) : Goes p e below G (T.setTop (mkF m pc Ls (.int x :: st))) :=
  go (fun _ q => XS.ifYes (g := mkF m pc Ls (.int x :: st)) X.here hx rfl rfl hd rfl hc ho hp q) K
theorem gIfN (X : Stand p l e R s m args below meth c T locs cells slots) (hx : p.tables.exec = Jvm.exec) {pc : Nat} {Ls : Array Slot} {st : List Value} {cd : ClassFile.Cond} {x : Int32} {o : Int} (hd : decode c.code pc = .ok (.ifCond cd o, 3)) (hc : ifCond.holds cd x = false) (K : Goes p e below G (T.setTop (mkF m (pc + 3) Ls (st)))) : Goes p e below G (T.setTop (mkF m pc Ls (.int x :: st))) :=
  go (fun _ q => XS.ifNo (g := mkF m pc Ls (.int x :: st)) X.here hx rfl hd rfl hc q) K
theorem gIcmpY (X : Stand p l e R s m args below meth c T locs cells slots) (hx : p.tables.exec = Jvm.exec) {pc : Nat} {Ls : Array Slot} {st : List Value} {cd : ClassFile.Cond} {x y : Int32} {o : Int} {pc' : Nat} (hd : decode c.code pc = .ok (.if_icmp cd o, 3)) (hc : if_icmp.holds cd x y = true) (ho : 0 ≤ (pc : Int) + o) (hp : ((pc : Int) + o).toNat = pc') (K : Goes p e below G (T.setTop (mkF m pc' Ls (st)))) : Goes p e below G (T.setTop (mkF m pc Ls (.int y :: .int x :: st))) :=
  go (fun _ q => XS.icmpYes (g := mkF m pc Ls (.int y :: .int x :: st)) X.here hx rfl rfl hd rfl hc ho hp q) K
theorem gIcmpN (X : Stand p l e R s m args below meth c T locs cells slots) (hx : p.tables.exec = Jvm.exec) {pc : Nat} {Ls : Array Slot} {st : List Value} {cd : ClassFile.Cond} {x y : Int32} {o : Int} (hd : decode c.code pc = .ok (.if_icmp cd o, 3)) (hc : if_icmp.holds cd x y = false) (K : Goes p e below G (T.setTop (mkF m (pc + 3) Ls (st)))) : Goes p e below G (T.setTop (mkF m pc Ls (.int y :: .int x :: st))) :=
  go (fun _ q => XS.icmpNo (g := mkF m pc Ls (.int y :: .int x :: st)) X.here hx rfl hd rfl hc q) K
theorem gAcmpY (X : Stand p l e R s m args below meth c T locs cells slots) (hx : p.tables.exec = Jvm.exec) {pc : Nat} {Ls : Array Slot} {st : List Value} {cd : ClassFile.ACond} {x y : Value} {o : Int} {pc' : Nat} (hd : decode c.code pc = .ok (.if_acmp cd o, 3)) (hx' : x.isRef = true) (hy' : y.isRef = true) (hc : XT.acmp cd x y = true) (ho : 0 ≤ (pc : Int) + o) (hp : ((pc : Int) + o).toNat = pc') (K : Goes p e below G (T.setTop (mkF m pc' Ls (st)))) : Goes p e below G (T.setTop (mkF m pc Ls (y :: x :: st))) :=
  go (fun _ q => XT.acmpYes (g := mkF m pc Ls (y :: x :: st)) X.here hx rfl rfl hd rfl hx' hy' hc ho hp q) K
theorem gAcmpN (X : Stand p l e R s m args below meth c T locs cells slots) (hx : p.tables.exec = Jvm.exec) {pc : Nat} {Ls : Array Slot} {st : List Value} {cd : ClassFile.ACond} {x y : Value} {o : Int} (hd : decode c.code pc = .ok (.if_acmp cd o, 3)) (hx' : x.isRef = true) (hy' : y.isRef = true) (hc : XT.acmp cd x y = false) (K : Goes p e below G (T.setTop (mkF m (pc + 3) Ls (st)))) : Goes p e below G (T.setTop (mkF m pc Ls (y :: x :: st))) :=
  go (fun _ q => XT.acmpNo (g := mkF m pc Ls (y :: x :: st)) X.here hx rfl hd rfl hx' hy' hc q) K
theorem gNullY (X : Stand p l e R s m args below meth c T locs cells slots) (hx : p.tables.exec = Jvm.exec) {pc : Nat} {Ls : Array Slot} {st : List Value} {o : Int} {pc' : Nat} (hd : decode c.code pc = .ok (.ifnull o, 3)) (ho : 0 ≤ (pc : Int) + o) (hp : ((pc : Int) + o).toNat = pc') (K : Goes p e below G (T.setTop (mkF m pc' Ls (st)))) : Goes p e below G (T.setTop (mkF m pc Ls (.null :: st))) :=
  go (fun _ q => XS.ifnullYes (g := mkF m pc Ls (.null :: st)) X.here hx rfl rfl hd rfl ho hp q) K
theorem gNullN (X : Stand p l e R s m args below meth c T locs cells slots) (hx : p.tables.exec = Jvm.exec) {pc : Nat} {Ls : Array Slot} {st : List Value} {b : Addr} {o : Int} (hd : decode c.code pc = .ok (.ifnull o, 3))  (K : Goes p e below G (T.setTop (mkF m (pc + 3) Ls (st)))) : Goes p e below G (T.setTop (mkF m pc Ls (.ref b :: st))) :=
  go (fun _ q => XS.ifnullNo (g := mkF m pc Ls (.ref b :: st)) X.here hx rfl hd rfl q) K
theorem gNonnullY (X : Stand p l e R s m args below meth c T locs cells slots) (hx : p.tables.exec = Jvm.exec) {pc : Nat} {Ls : Array Slot} {st : List Value} {b : Addr} {o : Int} {pc' : Nat} (hd : decode c.code pc = .ok (.ifnonnull o, 3)) (ho : 0 ≤ (pc : Int) + o) (hp : ((pc : Int) + o).toNat = pc') (K : Goes p e below G (T.setTop (mkF m pc' Ls (st)))) : Goes p e below G (T.setTop (mkF m pc Ls (.ref b :: st))) :=
  go (fun _ q => XT.ifnonnullYes (g := mkF m pc Ls (.ref b :: st)) X.here hx rfl rfl hd rfl ho hp q) K
theorem gNonnullN (X : Stand p l e R s m args below meth c T locs cells slots) (hx : p.tables.exec = Jvm.exec) {pc : Nat} {Ls : Array Slot} {st : List Value} {o : Int} (hd : decode c.code pc = .ok (.ifnonnull o, 3))  (K : Goes p e below G (T.setTop (mkF m (pc + 3) Ls (st)))) : Goes p e below G (T.setTop (mkF m pc Ls (.null :: st))) :=
  go (fun _ q => XT.ifnonnullNo (g := mkF m pc Ls (.null :: st)) X.here hx rfl hd rfl q) K
theorem gLdcI (X : Stand p l e R s m args below meth c T locs cells slots) (hx : p.tables.exec = Jvm.exec) {pc : Nat} {Ls : Array Slot} {st : List Value} (hZ : Z.Warmed39 s.vm) {own : String} (hown : s.vm.findClass own = some m.cls) {i : Nat} {v : Int32} (w : (Cond.constant own i v).before a0 Z = true) (hd : decode c.code pc = .ok (.ldc i, 2)) (K : Goes p e below G (T.setTop (mkF m (pc + 2) Ls (.int v :: st)))) : Goes p e below G (T.setTop (mkF m pc Ls st)) :=
  go (fun _ q => X.ldcI hx hown (mvT hZ w) (g := mkF m pc Ls st) rfl hd q) K
theorem gLdcWI (X : Stand p l e R s m args below meth c T locs cells slots) (hx : p.tables.exec = Jvm.exec) {pc : Nat} {Ls : Array Slot} {st : List Value} (hZ : Z.Warmed39 s.vm) {own : String} (hown : s.vm.findClass own = some m.cls) {i : Nat} {v : Int32} (w : (Cond.constant own i v).before a0 Z = true) (hd : decode c.code pc = .ok (.ldc_w i, 3)) (K : Goes p e below G (T.setTop (mkF m (pc + 3) Ls (.int v :: st)))) : Goes p e below G (T.setTop (mkF m pc Ls st)) :=
  go (fun _ q => X.ldcWI hx hown (mvT hZ w) (g := mkF m pc Ls st) rfl hd q) K
theorem gLdc2J (X : Stand p l e R s m args below meth c T locs cells slots) (hx : p.tables.exec = Jvm.exec) {pc : Nat} {Ls : Array Slot} {st : List Value} (hZ : Z.Warmed39 s.vm) {own : String} (hown : s.vm.findClass own = some m.cls) {i : Nat} {v : Int64} (w : (Cond.constantLong own i v).before a0 Z = true) (hd : decode c.code pc = .ok (.ldc2_w i, 3)) (K : Goes p e below G (T.setTop (mkF m (pc + 3) Ls (.long v :: st)))) : Goes p e below G (T.setTop (mkF m pc Ls st)) :=
  go (fun _ q => X.ldc2J hx hown (mvT hZ w) (g := mkF m pc Ls st) rfl hd q) K
theorem gLdc2D (X : Stand p l e R s m args below meth c T locs cells slots) (hx : p.tables.exec = Jvm.exec) {pc : Nat} {Ls : Array Slot} {st : List Value} (hZ : Z.Warmed39 s.vm) {own : String} (hown : s.vm.findClass own = some m.cls) {i : Nat} {v : UInt64} (w : (Cond.constantDouble own i v).before a0 Z = true) (hd : decode c.code pc = .ok (.ldc2_w i, 3)) (K : Goes p e below G (T.setTop (mkF m (pc + 3) Ls (.double v :: st)))) : Goes p e below G (T.setTop (mkF m pc Ls st)) :=
  go (fun _ q => X.ldc2DoubleC hx hown (mvT hZ w) (g := mkF m pc Ls st) rfl hd _ q) K
end Own
end Jvm.OwnWalk
namespace Jvm.OwnWalk
open Sem ClassFile Op Lib Jvm.Stand Jvm.Free Jvm.LawKit Jvm.RoadKit
section OwnB
variable {p : Program} {l : Launch} {e : Env} {R : Room} {s : State} {m : MethodId} {args : Array Value} {below : List Frame} {meth : Method} {c : Code} {T : State} {locs : List Loc} {cells slots : Nat} {Z : State} {a0 : Array Value} {h h' : Heap} {G : Outcome → State → Prop}
/-- bytes as values -/
def own_bv (bs : List Int8) : List Value := bs.map fun b => Value.int b.toInt32
theorem own_bv_len (bs : List Int8) : (own_bv bs).length = bs.length := by simp [own_bv]
theorem own_bv_at {bs : List Int8} {i : Nat} {b : Int8} (q : bs[i]? = some b) : (own_bv bs)[i]? = some (.int b.toInt32) := by simp [own_bv, q]
theorem own_bfit (b : Int8) : fits .byte (.int b.toInt32) = true := by
  have h1 := Int8.le_toInt b
  have h2 := Int8.toInt_lt b
  show (decide (-128 ≤ b.toInt32) && decide (b.toInt32 ≤ 127)) = true
  rw [Bool.and_eq_true, decide_eq_true_eq, decide_eq_true_eq, Int32.le_iff_toInt_le, Int32.le_iff_toInt_le, Int8.toInt_toInt32]
  exact ⟨by show (-128 : Int) ≤ _; omega, by show _ ≤ (127 : Int); omega⟩
theorem own_selfsel {C : String} {y : MethodName} (w5 : (Cond.selects C y y).before a0 Z = true) (w2 : (Cond.privateMethod y).before a0 Z = true) (w6 : (Cond.instanceMethod y).before a0 Z = true) (hy : y.cls ≠ "java/lang/invoke/MethodHandle" ∧ y.cls ≠ "java/lang/invoke/VarHandle") : (Cond.selects y.cls y y).before a0 Z = true := by
  obtain ⟨c2, r2, m2, q1, q2, q3, q4, kP, hkP, hkPi⟩ := Cond.selects_spec w5
  exact selects_self_of_private (findClass_of_methodNamed q3) hkP hkPi (Cond.privateMethod_at w2) w6 hy
/-- of a class that is no interface (word w5 says so of a method of the same class): the lookup of y finds y -/
theorem own_same {C : String} {y0 y : MethodName} (w5 : (Cond.selects C y0 y0).before a0 Z = true) (hc : y0.cls = y.cls) (w2 : (Cond.instanceMethod y).before a0 Z = true) (hy : y.cls ≠ "java/lang/invoke/MethodHandle" ∧ y.cls ≠ "java/lang/invoke/VarHandle") : (Cond.sameMethod y.cls y.cls y.name y.desc).before a0 Z = true := by
  obtain ⟨c2, r2, m2, q1, q2, q3, q4, kP, hkP, hkPi⟩ := Cond.selects_spec w5
  obtain ⟨mk, methM, hnamed, hmethM, -, -⟩ := Cond.instanceMethod_spec w2
  have hfound : Z.methodFound? y.cls y.name y.desc = some mk := State.methodFound?_of_named hnamed hy
  have f1 : Z.vm.findClass y.cls = some m2.cls := by rw [← hc]; exact findClass_of_methodNamed q3
  have hn2 : Z.methodNamed? ⟨y.cls, y.name, y.desc⟩ = some mk := hnamed
  simp only [Cond.before, Cond.holds, Cond.value, f1, hfound, hn2, hkP]
  simp; exact hkPi
theorem own_notFace {C : String} {y0 y : MethodName} (hZ : Z.Warmed39 s.vm) (w5 : (Cond.selects C y0 y0).before a0 Z = true) (hc : y0.cls = y.cls) : NotFace s y := fun r0 hr0 => by
  obtain ⟨c2, r2, m2, q1, q2, q3, q4, kP, hkP, hkPi⟩ := Cond.selects_spec (args := #[]) (mvT (args := #[]) hZ w5)
  have f1 := findClass_of_methodNamed hr0
  have f2 : s.vm.findClass y.cls = some m2.cls := by rw [← hc]; exact findClass_of_methodNamed q3
  have e := Option.some.inj (f1.symm.trans f2)
  exact ⟨kP, by rw [e]; exact hkP, hkPi⟩
theorem goCallP2 (X : Stand p l e R s m args below meth c T locs cells slots) (hx : p.tables.exec = Jvm.exec) (hZ : Z.Warmed39 s.vm) {own C : String} {index : Nat} {y : MethodName} {bytes : ByteArray} {maxL : Nat} {ret : Option FieldType} (hown : s.vm.findClass own = some m.cls)
    (w1 : (Cond.methodLink own index y).before a0 Z = true) (w2 : (Cond.privateMethod y).before a0 Z = true) (w5 : (Cond.selects C y y).before a0 Z = true) (w6 : (Cond.instanceMethod y).before a0 Z = true) (w3 : (Cond.initialized y.cls).before a0 Z = true) (w4 : (Cond.code y bytes maxL ret).before a0 Z = true) (hy : y.cls ≠ "java/lang/invoke/MethodHandle" ∧ y.cls ≠ "java/lang/invoke/VarHandle")
    {rm : Room} {as : Array Value} {Q' : Option Value → Heap → List Loc → Prop} (hM : Ctr l Z y bytes maxL ret [] rm as h Q') (W : Nat) (hf : rm.frames + 1 ≤ R.frames) (hl : W + (maxL + 11) + rm.locals ≤ R.locals) (eT : T.heap = h) {a : Addr} (E : Exa Z h a C)
    {pc : Nat} {Ls : Array Slot} {st : List Value} (hsize : Ls.size = c.maxLocals) (argsL rest : List Value) {ps : List FieldType} {rt : Option FieldType} (hpd : parseMethodDescriptor y.desc = some ⟨ps, rt⟩) (hlen : argsL.length = ps.length) (hst : st = argsL.reverse ++ .ref a :: rest) (has : (.ref a :: argsL).toArray = as) (hW : (rest.map fun v => v.category).sum ≤ W)
    (hd : decode c.code pc = .ok (.invokevirtual index, 3)) (hc : cells + rm.cells ≤ R.cells) (hs : slots + rm.slots ≤ R.slots)
    (k : ∀ T' v L, Stand p l e R s m args below meth c T' (locs ++ L) (cells + rm.cells) (slots + rm.slots) → Q' v T'.heap L → Goes p e below G (T'.setTop (mkF m (pc + 3) Ls (v.toList ++ rest)))) : Goes p e below G (T.setTop (mkF m pc Ls st)) :=
  goCallP X hx hZ hown w1 w2 (own_selfsel w5 w2 w6 hy) w6 w3 w4 hy hM W hf hl eT E hsize argsL rest hpd hlen hst has hW hd hc hs k
/-- super.y(..) -/
theorem goCallU (X : Stand p l e R s m args below meth c T locs cells slots) (hx : p.tables.exec = Jvm.exec) (hZ : Z.Warmed39 s.vm) {own C C0 : String} {y0 : MethodName} {index : Nat} {y : MethodName} {bytes : ByteArray} {maxL : Nat} {ret : Option FieldType} (hown : s.vm.findClass own = some m.cls)
    (w1 : (Cond.methodLink own index y).before a0 Z = true) (w2 : (Cond.superclass own y.cls).before a0 Z = true) (w5 : (Cond.selects C0 y0 y0).before a0 Z = true) (hc0 : y0.cls = y.cls) (hn : y.name ≠ "<init>") (w6 : (Cond.instanceMethod y).before a0 Z = true) (w3 : (Cond.initialized y.cls).before a0 Z = true) (w4 : (Cond.code y bytes maxL ret).before a0 Z = true) (hy : y.cls ≠ "java/lang/invoke/MethodHandle" ∧ y.cls ≠ "java/lang/invoke/VarHandle")
    {rm : Room} {as : Array Value} {Q' : Option Value → Heap → List Loc → Prop} (hM : Ctr l Z y bytes maxL ret [] rm as h Q') (W : Nat) (hf : rm.frames + 1 ≤ R.frames) (hl : W + (maxL + 11) + rm.locals ≤ R.locals) (eT : T.heap = h) {a : Addr} (E : Exa Z h a C)
    {pc : Nat} {Ls : Array Slot} {st : List Value} (hsize : Ls.size = c.maxLocals) (argsL rest : List Value) {ps : List FieldType} {rt : Option FieldType} (hpd : parseMethodDescriptor y.desc = some ⟨ps, rt⟩) (hlen : argsL.length = ps.length) (hst : st = argsL.reverse ++ .ref a :: rest) (has : (.ref a :: argsL).toArray = as) (hW : (rest.map fun v => v.category).sum ≤ W)
    (hd : decode c.code pc = .ok (.invokespecial index, 3)) (hc : cells + rm.cells ≤ R.cells) (hs : slots + rm.slots ≤ R.slots)
    (k : ∀ T' v L, Stand p l e R s m args below meth c T' (locs ++ L) (cells + rm.cells) (slots + rm.slots) → Q' v T'.heap L → Goes p e below G (T'.setTop (mkF m (pc + 3) Ls (v.toList ++ rest)))) : Goes p e below G (T.setTop (mkF m pc Ls st)) := by
  subst hst
  obtain ⟨v, _, ⟨T', L', k', n'⟩, -, X', ⟨L, hQ, l1, y1, z1⟩, st⟩ := superBack X hx hZ hown w1 (own_same w5 hc0 w6 hy) w6 w2 hn (backOf (W := W) hM hZ w4 w3 hf hl) eT (Ins.self E) (g := mkF m pc Ls (argsL.reverse ++ .ref a :: rest)) rfl hsize w4 (argsL := argsL) (rest := rest) (lenOf hpd hlen) rfl (by show 2 * 0 + _ ≤ _; omega) hd (fun _ _ => ⟨has, eT, hc, hs⟩)
  dsimp only [Pt.U, Pt.locs, Pt.cells, Pt.slots] at X' l1 y1 z1 st hQ
  subst l1 y1 z1
  exact go (fun _ => st.trans) (k T' v L X' hQ)
/-- the virtual call of y that goes to z, another class's -/
theorem goCallVZ (X : Stand p l e R s m args below meth c T locs cells slots) (hx : p.tables.exec = Jvm.exec) (hZ : Z.Warmed39 s.vm) {own C C0 : String} {y0 : MethodName} {index : Nat} {y z : MethodName} {bytes : ByteArray} {maxL : Nat} {ret : Option FieldType} (hown : s.vm.findClass own = some m.cls)
    (w1 : (Cond.methodLink own index y).before a0 Z = true) (w2 : (Cond.declares y).before a0 Z = true) (w0 : (Cond.selects C0 y0 y0).before a0 Z = true) (hc0 : y0.cls = y.cls) (w5 : (Cond.selects C y z).before a0 Z = true) (w6 : (Cond.instanceMethod z).before a0 Z = true) (w3 : (Cond.initialized z.cls).before a0 Z = true) (w4 : (Cond.code z bytes maxL ret).before a0 Z = true) (hy : y.cls ≠ "java/lang/invoke/MethodHandle" ∧ y.cls ≠ "java/lang/invoke/VarHandle")
    {rm : Room} {as : Array Value} {Q' : Option Value → Heap → List Loc → Prop} (hM : Ctr l Z z bytes maxL ret [] rm as h Q') (W : Nat) (hf : rm.frames + 1 ≤ R.frames) (hl : W + (maxL + 11) + rm.locals ≤ R.locals) (eT : T.heap = h) {a : Addr} (E : Exa Z h a C)
    {pc : Nat} {Ls : Array Slot} {st : List Value} (hsize : Ls.size = c.maxLocals) (argsL rest : List Value) {ps : List FieldType} {rt : Option FieldType} (hpd : parseMethodDescriptor y.desc = some ⟨ps, rt⟩) (hlen : argsL.length = ps.length) (hst : st = argsL.reverse ++ .ref a :: rest) (has : (.ref a :: argsL).toArray = as) (hW : (rest.map fun v => v.category).sum ≤ W)
    (hd : decode c.code pc = .ok (.invokevirtual index, 3)) (hc : cells + rm.cells ≤ R.cells) (hs : slots + rm.slots ≤ R.slots)
    (k : ∀ T' v L, Stand p l e R s m args below meth c T' (locs ++ L) (cells + rm.cells) (slots + rm.slots) → Q' v T'.heap L → Goes p e below G (T'.setTop (mkF m (pc + 3) Ls (v.toList ++ rest)))) : Goes p e below G (T.setTop (mkF m pc Ls st)) := by
  subst hst
  obtain ⟨cq, kq, qa, qb, qc⟩ := isOf hZ eT E
  obtain ⟨v, _, ⟨T', L', k', n'⟩, -, X', ⟨L, hQ, l1, y1, z1⟩, st⟩ := X.virtualBack hx (y := y) (z := z) hown (mvT hZ w1) (mvT hZ w2) (own_notFace hZ w0 hc0) (mvT hZ w5) (mvT hZ w6) hy (backOf (W := W) hM hZ w4 w3 hf hl) qa qc (g := mkF m pc Ls (argsL.reverse ++ .ref a :: rest)) rfl hsize (Steps.refl _) (argsL := argsL) (rest := rest) (lenOf hpd hlen) rfl (by show 2 * 0 + _ ≤ _; omega) hd (fun _ _ => ⟨has, eT, hc, hs⟩)
  dsimp only [Pt.U, Pt.locs, Pt.cells, Pt.slots] at X' l1 y1 z1 st hQ
  subst l1 y1 z1
  exact go (fun _ => st.trans) (k T' v L X' hQ)
theorem own_natc {n : Nat} (h : n < 2 ^ 31) : n.toInt32.toNatClampNeg = n := by simp only [Int32.toNatClampNeg, len_toInt h]; rfl
theorem own_natn {n : Nat} (h : n < 2 ^ 31) : ¬ n.toInt32 < 0 := by
  rw [Int32.lt_iff_toInt_lt, len_toInt h]
  show ¬ ((n : Int) < 0)
  omega
/-- System.arraycopy of bytes between two arrays -/
theorem goCopy (X : Stand p l e R s m args below meth c T locs cells slots) (hx : p.tables.exec = Jvm.exec) (hZ : Z.Warmed39 s.vm) {own : String} {index : Nat} (hown : s.vm.findClass own = some m.cls)
    (w1 : (Cond.methodLink own index acN).before a0 Z = true) (w2 : (Cond.static acN).before a0 Z = true) (w3 : (Cond.initialized "java/lang/System").before a0 Z = true) (w4 : (Cond.native acN).before a0 Z = true) (eT : T.heap = h)
    {src dst : Addr} {xs ys : List Int8} (F : Ary Z h src .byte (own_bv xs)) (D : Ary Z h dst .byte (own_bv ys)) (sp dp n : Nat) (h1 : sp + n ≤ xs.length) (h2 : dp + n ≤ ys.length) (zs : List Int8) (hz : ys.take dp ++ ((xs.drop sp).take n ++ ys.drop (dp + n)) = zs)
    {i1 i2 i3 : Int32} (e1 : sp.toInt32 = i1) (e2 : dp.toInt32 = i2) (e3 : n.toInt32 = i3) (W : Nat) (hf : 1 ≤ R.frames) (hl : W + 18 ≤ R.locals) {pc : Nat} {Ls : Array Slot} {rest : List Value} (hsize : Ls.size = c.maxLocals) (hW : (rest.map fun v => v.category).sum ≤ W) (hd : decode c.code pc = .ok (.invokestatic index, 3))
    (k : ∀ T' h' L, Stand p l e R s m args below meth c T' (locs ++ L) cells slots → T'.heap = h' → (∀ x ∈ L, x.base = dst) → Keep h h' [dst] → Ary Z h' dst .byte (own_bv zs) → Goes p e below G (T'.setTop (mkF m (pc + 3) Ls rest))) :
    Goes p e below G (T.setTop (mkF m pc Ls (.int i3 :: .int i2 :: .ref dst :: .int i1 :: .ref src :: rest))) := by
  subst e1 e2 e3
  obtain ⟨cs, A, r, q⟩ := F
  obtain ⟨cd, B, r', q'⟩ := D
  rw [own_bv_len] at q q'
  obtain ⟨a1, ks, a2, sc, a3⟩ := A.2.1
  obtain ⟨b1, kd, b2, dc, b3⟩ := B.2.1
  obtain ⟨ks1, hks1, es⟩ := hZ.alike.2.2 _ _ a2
  obtain ⟨kd1, hkd1, ed⟩ := hZ.alike.2.2 _ _ b2
  have hsz : cs.slots.size = xs.length := by rw [← Array.length_toList, r, own_bv_len]
  have hdz : cd.slots.size = ys.length := by rw [← Array.length_toList, r', own_bv_len]
  have t1 := own_natc (n := sp) (by omega)
  have t2 := own_natc (n := dp) (by omega)
  have t3 := own_natc (n := n) (by omega)
  have u1 := len_toInt (n := sp) (by omega)
  have u2 := len_toInt (n := dp) (by omega)
  have u3 := len_toInt (n := n) (by omega)
  have at_ : ∀ i, i < xs.length → cs.slots.getD i .null = Value.int (xs[i]!).toInt32 := fun i hi => by
    have e : cs.slots[i]? = some (Value.int (xs[i]!).toInt32) := by
      rw [← Array.getElem?_toList, r]
      exact own_bv_at (by simp [hi])
    rw [Array.getD_eq_getD_getElem?, e]; rfl
  obtain ⟨vm1, hW1, X', st⟩ := X.arraycopyK hx hown (mvT hZ w1) (mvT hZ w4) (mvT hZ w2) (mvT hZ w3) (src := src) (dst := dst) (srcPos := sp.toInt32) (destPos := dp.toInt32) (n := n.toInt32) (cs := cs) (cd := cd) (by rw [eT]; exact A.1) (by rw [eT]; exact B.1) a1 b1 A.2.2 B.2.2 hks1 hkd1 (by rw [es]; exact a3) (by rw [ed]; exact b3) (by decide)
    (own_natn (by omega)) (own_natn (by omega)) (own_natn (by omega)) (by rw [u1, u3, hsz]; omega) (by rw [u2, u3, hdz]; omega)
    (fun vm2 _ i hi => by rw [t3] at hi; rw [t1, at_ _ (by omega)]; exact ⟨own_bfit _, trivial⟩)
    (g := mkF m pc Ls (.int n.toInt32 :: .int dp.toInt32 :: .ref dst :: .int sp.toInt32 :: .ref src :: rest)) rfl hsize rfl hd hf (by show 2 * 0 + _ + (7 + 11) ≤ _; omega)
  have ln : (cs.stretch sp n).length = n := Cell.stretch_length cs sp n
  have fc := Cell.storeRun_facts cd dp (cs.stretch sp n)
  have nl : (cd.storeRun dp (cs.stretch sp n)).slots.toList = own_bv zs := by
    apply List.ext_getElem?
    intro j
    rw [Array.getElem?_toList, Cell.storeRun_get _ _ _ _ (by rw [ln, hdz]; omega), ln, ← hz]
    have cdj : cd.slots[j]? = (own_bv ys)[j]? := by rw [← Array.getElem?_toList, r']
    by_cases g : dp ≤ j ∧ j < dp + n
    · rw [if_pos g]
      have e : (cs.stretch sp n)[j - dp]? = some (Value.int (xs[sp + (j - dp)]!).toInt32) := by
        rw [Cell.stretch, List.getElem?_map, List.getElem?_range (by omega), Option.map_some, at_ _ (by omega)]
      rw [e]
      refine (own_bv_at ?_).symm
      rw [List.getElem?_append_right (by rw [List.length_take]; omega), List.length_take, Nat.min_eq_left (by omega), List.getElem?_append_left (by rw [List.length_take, List.length_drop]; omega), List.getElem?_take_of_lt (by omega), List.getElem?_drop]
      rw [List.getElem!_eq_getElem?_getD, List.getElem?_eq_getElem (by omega)]; rfl
    · rw [if_neg g, cdj]
      simp only [own_bv, List.getElem?_map]
      congr 1
      by_cases g1 : j < dp
      · rw [List.getElem?_append_left (by rw [List.length_take]; omega), List.getElem?_take_of_lt g1]
      · rw [List.getElem?_append_right (by rw [List.length_take]; omega), List.length_take, Nat.min_eq_left (by omega), List.getElem?_append_right (by rw [List.length_take, List.length_drop]; omega), List.length_take, List.length_drop, Nat.min_eq_left (by omega), List.getElem?_drop]
        congr 1; omega
  have hlt : dst < h.size := B.lt
  have hcp : copied cs cd sp.toInt32 dp.toInt32 n.toInt32 = cd.storeRun dp (cs.stretch sp n) := by
    show cd.storeRun dp.toInt32.toNatClampNeg (cs.stretch sp.toInt32.toNatClampNeg n.toInt32.toNatClampNeg) = _
    rw [t1, t2, t3]
  rw [hcp] at X' st
  refine go st (k _ _ _ X' rfl (fun x q => copyLocs_base q) ?_ ?_)
  · show Keep h (T.heap.setIfInBounds dst _) [dst]
    rw [eT]
    refine ⟨by simp, fun x cl hq hn => ?_, fun x cl hq => ?_⟩
    · have : dst ≠ x := fun z => hn (by simp [z])
      rw [Array.getElem?_setIfInBounds_ne this]; exact hq
    · by_cases z : dst = x
      · subst z
        cases B.1.symm.trans hq
        exact ⟨_, by rw [Array.getElem?_setIfInBounds_self_of_lt hlt], fc.1, fc.2.1, fc.2.2.1⟩
      · exact ⟨cl, by rw [Array.getElem?_setIfInBounds_ne z]; exact hq, rfl, rfl, rfl⟩
  · show Ary Z (T.heap.setIfInBounds dst _) dst .byte _
    rw [eT]
    refine ⟨_, ⟨by rw [Array.getElem?_setIfInBounds_self_of_lt hlt], ⟨fun k => by rw [fc.2.1]; exact b1 k, kd, by rw [fc.1]; exact b2, dc, b3⟩, by rw [fc.2.1]; exact B.2.2⟩, nl, ?_⟩
    rw [own_bv_len, ← hz]
    simp only [List.length_append, List.length_take, List.length_drop]
    omega
/-- newarray byte, with the class of what it makes -/
theorem goNewB (X : Stand p l e R s m args below meth c T locs cells slots) (hx : p.tables.exec = Jvm.exec) (hZ : Z.Warmed39 s.vm) (w : (Cond.arrayClass .byte).before a0 Z = true) (eT : T.heap = h) {pc : Nat} {Ls : Array Slot} {rest : List Value} (hd : decode c.code pc = .ok (.newarray .byte, 2)) (n : Nat) (cap : Nat) (hcap : n ≤ cap) (hbig : cap ≤ 1000) {i : Int32} (ei : n.toInt32 = i) (hc : cells + 1 ≤ R.cells) (hl : slots + cap ≤ R.slots)
    (k : ∀ T' h' b, b = h.size → Stand p l e R s m args below meth c T' locs (cells + 1) (slots + cap) → T'.heap = h' → Ext h h' → Ary Z h' b .byte (own_bv (List.replicate n 0)) → Exa Z h' b "[B" → Goes p e below G (T'.setTop (mkF m (pc + 2) Ls (.ref b :: rest)))) :
    Goes p e below G (T.setTop (mkF m pc Ls (.int i :: rest))) := by
  subst ei
  have t1 := own_natc (n := n) (by omega)
  obtain ⟨cA, kA, comp, h1, h2, h3, X', st⟩ := X.newarrayPrim hx (atype := .byte) (mvA hZ w) (g := mkF m pc Ls (.int n.toInt32 :: rest)) rfl hd rfl (own_natn (by omega)) (by rw [t1]; show n * 1 ≤ _; omega) hc (by rw [t1]; omega)
  subst eT
  rw [hZ.alike.findClass] at h1
  obtain ⟨kZ, z1, -⟩ := Vm.findClass_spec h1
  obtain ⟨k', z2, z3⟩ := hZ.alike.2.2 _ _ z1
  cases h2.symm.trans z2
  have hk : kZ.kind = .array comp .byte := by
    have q : kA.kind = .array comp .byte := h3
    rw [← q, z3]
  have hname : Z.vm.findClass "[B" = some cA := h1
  have pl : ∀ (x : Addr) (cl cn : Cell), T.heap[x]? = some cl → (T.heap.push cn)[x]? = some cl := fun x cl cn q => by
    rw [Array.getElem?_push_lt (Array.getElem?_eq_some_iff.mp q).1, ← Array.getElem?_eq_getElem]; exact q
  have ps : (T.heap.push (newA cA .byte n.toInt32))[T.heap.size]? = some (newA cA .byte n.toInt32) := by simp
  refine go st (k _ _ _ rfl (X'.more (Nat.le_refl _) (by rw [t1]; omega)) rfl ⟨by show T.heap.size ≤ (T.heap.push _).size; simp, fun x cl q => pl x cl _ q⟩ ?_ ?_)
  · refine ⟨newA cA .byte n.toInt32, ⟨ps, ⟨by simp [newA], kZ, z1, comp, hk⟩, by simp [newA]⟩, ?_, ?_⟩
    · show (Array.replicate n.toInt32.toNatClampNeg (defaultValue .byte)).toList = _
      rw [t1, Array.toList_replicate, own_bv, List.map_replicate]; rfl
    · rw [own_bv_len, List.length_replicate]; omega
  · exact ⟨newA cA .byte n.toInt32, kZ, ps, hname, z1, rfl, fun q => by rw [hk] at q; cases q⟩
/-- [B.clone() -/
theorem goClone (X : Stand p l e R s m args below meth c T locs cells slots) (hx : p.tables.exec = Jvm.exec) (hZ : Z.Warmed39 s.vm) {own : String} {index : Nat} (hown : s.vm.findClass own = some m.cls)
    (w1 : (Cond.methodLink own index ⟨"[B", "clone", "()Ljava/lang/Object;"⟩).before a0 Z = true) (w2 : (Cond.sameMethod "[B" "java/lang/Object" "clone" "()Ljava/lang/Object;").before a0 Z = true)
    (w3 : (Cond.native ⟨"java/lang/Object", "clone", "()Ljava/lang/Object;"⟩).before a0 Z = true) (w4 : (Cond.instanceMethod ⟨"java/lang/Object", "clone", "()Ljava/lang/Object;"⟩).before a0 Z = true)
    (w5 : (Cond.selects "[B" ⟨"[B", "clone", "()Ljava/lang/Object;"⟩ ⟨"java/lang/Object", "clone", "()Ljava/lang/Object;"⟩).before a0 Z = true) (w6 : (Cond.castable "[B" "java/lang/Cloneable").before a0 Z = true)
    (eT : T.heap = h) {a : Addr} {xs : List Int8} (F : Ary Z h a .byte (own_bv xs)) (E : Exa Z h a "[B") (n : Nat) (hn : xs.length = n) {pc : Nat} {Ls : Array Slot} {rest : List Value} (hsize : Ls.size = c.maxLocals) (W : Nat) (hW : (rest.map fun v => v.category).sum ≤ W) (hd : decode c.code pc = .ok (.invokevirtual index, 3))
    (hf : 1 ≤ R.frames) (hl : W + 14 ≤ R.locals) (hc : cells + 1 ≤ R.cells) (hs : slots + n ≤ R.slots)
    (k : ∀ T' h' b, b = h.size → Stand p l e R s m args below meth c T' locs (cells + 1) (slots + n) → T'.heap = h' → Ext h h' → Ary Z h' b .byte (own_bv xs) → Exa Z h' b "[B" → Goes p e below G (T'.setTop (mkF m (pc + 3) Ls (.ref b :: rest)))) :
    Goes p e below G (T.setTop (mkF m pc Ls (.ref a :: rest))) := by
  obtain ⟨cl, A, r, q⟩ := F
  obtain ⟨cl2, kc, e1, e2, e3, e4, e5⟩ := E
  cases A.1.symm.trans e1
  obtain ⟨a1, ks, a2, sc, a3⟩ := A.2.1
  obtain rfl : ks = kc := Option.some.inj (a2.symm.trans e3)
  obtain ⟨ks1, hks1, es⟩ := hZ.alike.2.2 _ _ a2
  have hka : ks1.kind = .array sc .byte := by rw [es]; exact a3
  have hsz : cl.slots.size = n := by rw [← Array.length_toList, r, own_bv_len, hn]
  obtain ⟨c1, c2, g1, g2, g3⟩ := Cond.castable_spec w6
  cases e2.symm.trans g1
  obtain ⟨vm', X', st⟩ := X.cloneArray hx hown (mvT hZ w1) (mvT hZ w2) (mvT hZ w3) (mvT hZ w4) (mvT hZ w5) (a := a) (cell := cl) (by rw [eT]; exact A.1) a1 A.2.2 (by rw [hZ.alike.findClass]; exact e2) (by rw [hZ.alike.findClass]; exact g2) (by rw [hZ.alike.assignable]; exact g3)
    (fun i v hv => by
      have hT := X.warmed.alike
      obtain ⟨kT, hkT, eT2⟩ := hT.2.2 _ _ hks1
      have hb : fits .byte v = true := by
        rw [← Array.getElem?_toList, r] at hv
        simp only [own_bv, List.getElem?_map, Option.map_eq_some_iff] at hv
        obtain ⟨b, -, rfl⟩ := hv
        exact own_bfit b
      have hkk : kT.kind = .array sc .byte := by rw [eT2]; exact hka
      simpa [State.fitsSlot, State.slotType?, hkT, hkk] using hb)
    (g := mkF m pc Ls (.ref a :: rest)) rfl hsize rfl hd hf (by show 2 * 0 + _ + 14 ≤ _; omega) hc (by rw [hsz]; exact hs)
  rw [hsz] at X'
  subst eT
  have pl : ∀ (x : Addr) (cl cn : Cell), T.heap[x]? = some cl → (T.heap.push cn)[x]? = some cl := fun x cl cn q => by
    rw [Array.getElem?_push_lt (Array.getElem?_eq_some_iff.mp q).1, ← Array.getElem?_eq_getElem]; exact q
  have ps : (T.heap.push { cls := cl.cls, slots := cl.slots })[T.heap.size]? = some { cls := cl.cls, slots := cl.slots } := by simp
  refine go st (k _ _ _ rfl X' rfl ⟨by show T.heap.size ≤ (T.heap.push _).size; simp, fun x cl q => pl x cl _ q⟩ ?_ ?_)
  · exact ⟨{ cls := cl.cls, slots := cl.slots }, ⟨ps, ⟨by simp, ks, a2, sc, a3⟩, by simp⟩, r, q⟩
  · exact ⟨{ cls := cl.cls, slots := cl.slots }, ks, ps, e2, a2, rfl, fun z => by rw [a3] at z; cases z⟩
/-- nothing of the start's heap has changed: the places written come off -/
theorem own_clean (X : Stand p l e R s m args below meth c T locs cells slots) (hold : ∀ (b : Addr) (cl : Cell), s.heap[b]? = some cl → T.heap[b]? = some cl) : Stand p l e R s m args below meth c T [] cells slots := by
  refine ⟨X.admits, X.cas, X.clock, X.frames, X.room, X.hears, X.method, X.code, X.here, X.tail, X.warmed, X.limits, X.bytes, ?_⟩
  obtain ⟨h1, h2, h3, h4, h5, h6⟩ := X.same
  refine ⟨h1, h2, h3, h4, h5, fun a cl hc => ?_⟩
  obtain ⟨c', hc', hce, hsz, hout⟩ := h6 a cl hc
  have e1 : some c' = some cl := hc'.symm.trans (hold a cl hc)
  cases e1
  exact ⟨cl, hc', hce, hsz, fun i _ => rfl⟩
end OwnB
end Jvm.OwnWalk
namespace Jvm.OwnWalk
open Sem ClassFile Op Lib Jvm.Stand Jvm.Free Jvm.LawKit Jvm.RoadKit
section OwnW
variable {p : Program} {l : Launch} {e : Env} {R : Room} {s : State} {m : MethodId} {args : Array Value} {below : List Frame} {meth : Method} {c : Code} {T : State} {locs : List Loc} {cells slots : Nat} {Z : State} {a0 : Array Value} {h h' : Heap} {Q : Option Value → Heap → List Loc → Vm → Prop} {kc ks : Nat} {G : Outcome → State → Prop} {A B : State} {vm0 : Vm} {Pv : Vm → Prop}
/-- the wide end: String constants may have been loaded -/
def EndW (s : State) (Q : Option Value → Heap → List Loc → Vm → Prop) (kc ks : Nat) (o : Outcome) (t : State) : Prop := ∃ v L, o = .returned v ∧ Q v t.heap L t.vm ∧ ReturnedEndW s o t L kc ks
/-- how far the tables have come since the start s: vm0 is what the walk is re-based on -/
def Sn (s : State) (vm : Vm) (h : Heap) : Prop := ∃ k, s.Since vm k ∧ k ≤ h.size
theorem Sn.ext (F : Sn s vm0 h) (E : Ext h h') : Sn s vm0 h' := by obtain ⟨k, a, b⟩ := F; exact ⟨k, a, Nat.le_trans b E.1⟩
theorem Sn.wr {a : Addr} {sl : Nat} {v : Value} (F : Sn s vm0 h) (W : Wr h h' a sl v) : Sn s vm0 h' := by obtain ⟨k, a, b⟩ := F; exact ⟨k, a, by rw [W.size]; exact b⟩
theorem Sn.keep {ws : List Addr} (F : Sn s vm0 h) (K : Keep h h' ws) : Sn s vm0 h' := by obtain ⟨k, a, b⟩ := F; exact ⟨k, a, Nat.le_trans b K.1⟩
theorem Sn.start (s : State) (h : Heap) : Sn s s.vm h := ⟨0, (State.WarmedH.refl s).since 0, Nat.zero_le _⟩
theorem IB.warm {Ts : List String} (I : IB Z vm0 Ts) {vm1 : Vm} (hW : (s.setVm vm0).WarmedH vm1) : IB Z vm1 Ts := by
  obtain ⟨more, e1, e2⟩ := I
  exact ⟨more, by rw [hW.interned_eq]; exact e1, e2⟩
theorem goEndW (X : Stand p l e R (s.setVm vm0) m args below meth c T locs cells slots) (hS : Sn s vm0 h) {v : Option Value} (hv : meth.sig.returnType = none → v = none) (hlocks : meth.locks = false) (hc : cells ≤ kc) (hs : slots ≤ ks) (eT : T.heap = h) (hq : Q v h locs T.vm)
    (k : ∀ fs, (∀ (f : JFrame) (acts : List Action), f.method = m → f.locked = none → f.entered = [] → (doReturn e (T.setTop f) acts v).1 = T.setFrames fs) → Steps p.tables e below A (T.setFrames fs)) : Goes p e below (EndW s Q kc ks) A := by
  obtain ⟨fs, hr, hrun, hended, hW, hsame⟩ := X.leave hv hlocks
  obtain ⟨k0, h1, h2⟩ := hS
  have h3 : s.Since T.vm T.heap.size := h1.trans (hW.since T.heap.size) (by rw [eT]; exact h2)
  exact ⟨_, _, k fs hr, hrun, hended, _, _, rfl, (by show Q v T.heap locs T.vm; rw [eT]; exact hq), ⟨_, rfl⟩, h3.1, h3.2, (hsame.setVm s.vm).mono hc hs⟩
theorem goRetVW (X : Stand p l e R (s.setVm vm0) m args below meth c T locs cells slots) (hx : p.tables.exec = Jvm.exec) (hS : Sn s vm0 h) {pc : Nat} {Ls : Array Slot} {w : Value} {t : FieldType} {i : Instr} {rest : List Value} (hret : meth.sig.returnType = some t) (hlocks : meth.locks = false) (hd : decode c.code pc = .ok (i, 1)) (hn : narrow t w = w)
    (hi : (i = .ireturn ∧ (t = .int ∨ t = .boolean ∨ t = .byte ∨ t = .char ∨ t = .short) ∧ ∃ z, w = .int z) ∨ (i = .lreturn ∧ t = .long ∧ ∃ z, w = .long z) ∨ (i = .dreturn ∧ t = .double ∧ ∃ z, w = .double z) ∨ (i = .freturn ∧ t = .float ∧ ∃ z, w = .float z) ∨ (i = .areturn ∧ t.isReference = true ∧ w.isRef = true))
    (hc : cells ≤ kc) (hs : slots ≤ ks) (eT : T.heap = h) (hq : Q (some w) h locs T.vm) : Goes p e below (EndW s Q kc ks) (T.setTop (mkF m pc Ls (w :: rest))) :=
  goEndW X hS (v := some w) (fun q => by rw [hret] at q; cases q) hlocks hc hs eT hq fun fs hr => retOut X hx hret hn hi hd hr
theorem goRetIW (X : Stand p l e R (s.setVm vm0) m args below meth c T locs cells slots) (hx : p.tables.exec = Jvm.exec) (hS : Sn s vm0 h) {pc : Nat} {Ls : Array Slot} {z : Int32} {rest : List Value} (hret : meth.sig.returnType = some .int) (hlocks : meth.locks = false) (hd : decode c.code pc = .ok (.ireturn, 1))
    (hc : cells ≤ kc) (hs : slots ≤ ks) (eT : T.heap = h) (hq : Q (some (.int z)) h locs T.vm) : Goes p e below (EndW s Q kc ks) (T.setTop (mkF m pc Ls (.int z :: rest))) :=
  goRetVW X hx hS hret hlocks hd rfl (Or.inl ⟨rfl, Or.inl rfl, _, rfl⟩) hc hs eT hq
theorem goRetAW (X : Stand p l e R (s.setVm vm0) m args below meth c T locs cells slots) (hx : p.tables.exec = Jvm.exec) (hS : Sn s vm0 h) {pc : Nat} {Ls : Array Slot} {w : Value} {t : FieldType} {rest : List Value} (hret : meth.sig.returnType = some t) (hlocks : meth.locks = false) (ht : t.isReference = true) (hw : w.isRef = true) (hd : decode c.code pc = .ok (.areturn, 1))
    (hc : cells ≤ kc) (hs : slots ≤ ks) (eT : T.heap = h) (hq : Q (some w) h locs T.vm) : Goes p e below (EndW s Q kc ks) (T.setTop (mkF m pc Ls (w :: rest))) :=
  goRetVW X hx hS hret hlocks hd (by cases t <;> first | (cases ht; done) | rfl) (Or.inr (Or.inr (Or.inr (Or.inr ⟨rfl, ht, hw⟩)))) hc hs eT hq
theorem goRetNW (X : Stand p l e R (s.setVm vm0) m args below meth c T locs cells slots) (hx : p.tables.exec = Jvm.exec) (hS : Sn s vm0 h) {pc : Nat} {Ls : Array Slot} {z z' : Int32} {t : FieldType} {rest : List Value} (hret : meth.sig.returnType = some t) (hlocks : meth.locks = false) (ht : t = .boolean ∨ t = .byte ∨ t = .char ∨ t = .short) (hd : decode c.code pc = .ok (.ireturn, 1)) (hz : nar t z = z')
    (hc : cells ≤ kc) (hs : slots ≤ ks) (eT : T.heap = h) (hq : Q (some (.int z')) h locs T.vm) : Goes p e below (EndW s Q kc ks) (T.setTop (mkF m pc Ls (.int z :: rest))) := by
  subst hz
  exact goEndW X hS (v := some (.int (nar t z))) (fun q => by rw [hret] at q; cases q) hlocks hc hs eT hq fun fs hr => retN X hx hret ht hd hr
theorem goRet0W (X : Stand p l e R (s.setVm vm0) m args below meth c T locs cells slots) (hx : p.tables.exec = Jvm.exec) (hS : Sn s vm0 h) {pc : Nat} {Ls : Array Slot} (hret : meth.sig.returnType = none) (hlocks : meth.locks = false) (hd : decode c.code pc = .ok (.return_, 1))
    (hc : cells ≤ kc) (hs : slots ≤ ks) (eT : T.heap = h) (hq : Q none h locs T.vm) : Goes p e below (EndW s Q kc ks) (T.setTop (mkF m pc Ls [])) :=
  goEndW X hS (v := none) (fun _ => rfl) hlocks hc hs eT hq fun fs hr => X.returnOut hx hret hd hr
/-- a body's wide contract; Pv: what it asks of the tables where it is called -/
def CtrW (l : Launch) (Z : State) (y : MethodName) (bytes : ByteArray) (maxL : Nat) (ret : Option FieldType) (ws : List Cond) (rm : Room) (as : Array Value) (h0 : Heap) (Pv : Vm → Prop) (Q : Option Value → Heap → List Loc → Vm → Prop) : Prop :=
  MetFree l y (head1 (Cond.code y bytes maxL ret :: ws) rm) (fun a U => a = as ∧ Z.Warmed39 U.vm ∧ U.heap = h0 ∧ Pv U.vm) (fun _ _ _ _ _ => True) (fun _ U o U' => EndW U Q rm.cells rm.slots o U')
theorem ctrW {y : MethodName} {bytes : ByteArray} {maxL : Nat} {ret : Option FieldType} {ws : List Cond} {rm : Room} {as : Array Value} {h0 : Heap} (hpn : plainFor y = true)
    (body : ∀ (p : Program) (e : Env) (s : State) (m : MethodId) (below : List Frame) (meth : Method) (c : Code) (s₁ : State) (vm0 : Vm), p.tables.exec = Jvm.exec → c.code = bytes → c.maxLocals = maxL → vm0.findClass y.cls = some m.cls → meth.name = y.name → meth.sig.returnType = ret → meth.locks = false → Z.Warmed39 vm0 →
      Stand p l e rm (s.setVm vm0) m as below meth c s₁ [] 0 0 → s₁.heap = h0 → Sn s vm0 h0 → s.heap = h0 → Pv vm0 → Goes p e below (EndW s Q rm.cells rm.slots) (s₁.setTop (entryFrame m as maxL))) : CtrW l Z y bytes maxL ret ws rm as h0 Pv Q := by
  refine MetFree.of_bodySF hpn hisR ?_
  intro p e s m args below meth c s₁ Bd hml0 hP hK
  obtain ⟨rfl, hZ, hh, hv⟩ := hP
  exact body p e s m below meth c s₁ s.vm Bd.exec Bd.bytes hml0 (findClass_of_methodNamed Bd.named) (name_of_methodNamed Bd.named Bd.method).1 Bd.returns Bd.notSynchronized hZ (Stand.of_body Bd) (by rw [← hh, Bd.state]; rfl) (Sn.start s _) hh hv
theorem backW {y : MethodName} {bytes : ByteArray} {maxL : Nat} {ret : Option FieldType} {rm : Room} {len W : Nat} {as : Array Value}
    (hM : CtrW l Z y bytes maxL ret [] rm as h Pv Q) (hPv : ∀ vm1, s.WarmedH vm1 → Pv vm1)
    (hZ : Z.Warmed39 s.vm) (wc : (Cond.code y bytes maxL ret).before a0 Z = true) (wz : (Cond.initialized y.cls).before a0 Z = true) (hf : rm.frames + 1 ≤ R.frames) (hl : W + (maxL + 11) + rm.locals ≤ R.locals) :
    BackS l R p e below s args y len W (fun A a => a = as ∧ A.U.heap = h ∧ A.cells + rm.cells ≤ R.cells ∧ A.slots + rm.slots ≤ R.slots)
      (fun A _ v B => ∃ L, Q v B.U.heap L B.U.vm ∧ B.locs = A.locs ++ L ∧ B.cells = A.cells + rm.cells ∧ B.slots = A.slots + rm.slots) :=
  BackS.of_freeW (bytes := bytes) (maxL := maxL) (ret := ret) (E := fun _ _ o t L k n => k = rm.cells ∧ n = rm.slots ∧ ∃ v, o = .returned v ∧ Q v t.heap L t.vm) hM hf hl
    (fun m meth c A a Y hp => have hU : Z.Warmed39 A.U.vm := wtrans hZ Y.warmed
      ⟨by show (Cond.and _ .tt).before a A.U = true; rw [Cond.before_and, mv hU wc]; rfl, mv hU wc, mv hU wz, hp.2.2.1, hp.2.2.2⟩)
    (fun m meth c A a g mk Y hp => ⟨hp.1, wtrans hZ Y.warmed, hp.2.1, hPv _ Y.warmed⟩) (fun _ _ _ _ _ _ _ _ _ => trivial)
    (fun _ _ _ _ ⟨v, L, h1, h2, h3⟩ => ⟨L, _, _, h3, rfl, rfl, v, h1, h2⟩)
    (fun m meth c A a g mk v t L k n Y hp _ _ ⟨e1, e2, v', e3, e4⟩ => by cases e3; subst e1 e2; exact ⟨L, e4, rfl, rfl, rfl⟩)
theorem goCallSW (X : Stand p l e R (s.setVm vm0) m args below meth c T locs cells slots) (hx : p.tables.exec = Jvm.exec) (hZ : Z.Warmed39 vm0) (hS : Sn s vm0 h) {own : String} {index : Nat} {y : MethodName} {bytes : ByteArray} {maxL : Nat} {ret : Option FieldType} (hown : vm0.findClass own = some m.cls)
    (w1 : (Cond.methodLink own index y).before a0 Z = true) (w2 : (Cond.static y).before a0 Z = true) (w3 : (Cond.initialized y.cls).before a0 Z = true) (w4 : (Cond.code y bytes maxL ret).before a0 Z = true) (hy : y.cls ≠ "java/lang/invoke/MethodHandle" ∧ y.cls ≠ "java/lang/invoke/VarHandle")
    {rm : Room} {as : Array Value} {Q' : Option Value → Heap → List Loc → Vm → Prop} (hM : CtrW l Z y bytes maxL ret [] rm as h Pv Q') (hPv : ∀ vm1, (s.setVm vm0).WarmedH vm1 → Pv vm1) (W : Nat) (hf : rm.frames + 1 ≤ R.frames) (hl : W + (maxL + 11) + rm.locals ≤ R.locals) (eT : T.heap = h)
    {pc : Nat} {Ls : Array Slot} {st : List Value} (hsize : Ls.size = c.maxLocals) (argsL rest : List Value) {ps : List FieldType} {rt : Option FieldType} (hpd : parseMethodDescriptor y.desc = some ⟨ps, rt⟩) (hlen : argsL.length = ps.length) (hst : st = argsL.reverse ++ rest) (has : argsL.toArray = as) (hW : (rest.map fun v => v.category).sum ≤ W)
    (hd : decode c.code pc = .ok (.invokestatic index, 3)) (hc : cells + rm.cells ≤ R.cells) (hs : slots + rm.slots ≤ R.slots)
    (k : ∀ T' v L, Stand p l e R (s.setVm T'.vm) m args below meth c T' (locs ++ L) (cells + rm.cells) (slots + rm.slots) → Z.Warmed39 T'.vm → T'.vm.findClass own = some m.cls → Sn s T'.vm T'.heap → (s.setVm vm0).Warmed39 T'.vm → Q' v T'.heap L T'.vm → Goes p e below G (T'.setTop (mkF m (pc + 3) Ls (v.toList ++ rest)))) : Goes p e below G (T.setTop (mkF m pc Ls st)) := by
  subst hst
  obtain ⟨v, _, ⟨T', L', k', n'⟩, -, X', hS', hgr, ⟨L, hQ, l1, y1, z1⟩, st⟩ := callSS X hx (y := y) hown (mvT (s := s.setVm vm0) hZ w1) (mvT (s := s.setVm vm0) hZ w2) (mvT (s := s.setVm vm0) hZ w3) (mvT (s := s.setVm vm0) hZ w4) hy (backW (W := W) hM hPv hZ w4 w3 hf hl) (g := mkF m pc Ls (argsL.reverse ++ rest)) rfl hsize (argsL := argsL) (rest := rest) (lenOf hpd hlen) rfl (by show 2 * 0 + _ ≤ _; omega) hd (fun _ _ => ⟨has, eT, hc, hs⟩)
  dsimp only [Pt.U, Pt.locs, Pt.cells, Pt.slots] at X' l1 y1 z1 st hQ hS' hgr
  subst l1 y1 z1
  obtain ⟨k0, s1, s2⟩ := hS
  have h3 : s.Since T'.vm T'.heap.size := s1.trans hS' (Nat.le_trans s2 (by rw [← eT]; exact hgr))
  exact go (fun _ => st.trans) (k T' v L X' (State.Warmed39.trans (t := s.setVm vm0) hZ hS'.1) (by rw [hS'.1.alike.findClass]; exact hown) ⟨_, h3, Nat.le_refl _⟩ hS'.1 hQ)
theorem goCallIW (X : Stand p l e R (s.setVm vm0) m args below meth c T locs cells slots) (hx : p.tables.exec = Jvm.exec) (hZ : Z.Warmed39 vm0) (hS : Sn s vm0 h) {own : String} {index : Nat} {y : MethodName} {bytes : ByteArray} {maxL : Nat} (hy1 : y.name = "<init>") (hown : vm0.findClass own = some m.cls)
    (w1 : (Cond.methodLink own index y).before a0 Z = true) (w2 : (Cond.instanceMethod y).before a0 Z = true) (w3 : (Cond.initialized y.cls).before a0 Z = true) (w4 : (Cond.code y bytes maxL none).before a0 Z = true) (hy : y.cls ≠ "java/lang/invoke/MethodHandle" ∧ y.cls ≠ "java/lang/invoke/VarHandle")
    {rm : Room} {as : Array Value} {Q' : Option Value → Heap → List Loc → Vm → Prop} (hM : CtrW l Z y bytes maxL none [] rm as h Pv Q') (hPv : ∀ vm1, (s.setVm vm0).WarmedH vm1 → Pv vm1) (W : Nat) (hf : rm.frames + 1 ≤ R.frames) (hl : W + (maxL + 11) + rm.locals ≤ R.locals) (eT : T.heap = h)
    {pc : Nat} {Ls : Array Slot} {st : List Value} (hsize : Ls.size = c.maxLocals) (a : Addr) (argsL rest : List Value) {ps : List FieldType} {rt : Option FieldType} (hpd : parseMethodDescriptor y.desc = some ⟨ps, rt⟩) (hlen : argsL.length = ps.length) (hst : st = argsL.reverse ++ .ref a :: rest) (has : (.ref a :: argsL).toArray = as) (hW : (rest.map fun v => v.category).sum ≤ W)
    (hd : decode c.code pc = .ok (.invokespecial index, 3)) (hc : cells + rm.cells ≤ R.cells) (hs : slots + rm.slots ≤ R.slots)
    (k : ∀ T' v L, Stand p l e R (s.setVm T'.vm) m args below meth c T' (locs ++ L) (cells + rm.cells) (slots + rm.slots) → Z.Warmed39 T'.vm → T'.vm.findClass own = some m.cls → Sn s T'.vm T'.heap → (s.setVm vm0).Warmed39 T'.vm → Q' v T'.heap L T'.vm → Goes p e below G (T'.setTop (mkF m (pc + 3) Ls (v.toList ++ rest)))) : Goes p e below G (T.setTop (mkF m pc Ls st)) := by
  subst hst
  obtain ⟨v, _, ⟨T', L', k', n'⟩, -, X', hS', hgr, ⟨L, hQ, l1, y1, z1⟩, st⟩ := X.specialBackS hx (y := y) hy1 hown (mvT (s := s.setVm vm0) hZ w1) (mvT (s := s.setVm vm0) hZ w2) (mvT (s := s.setVm vm0) hZ w4) hy (backW (W := W) hM hPv hZ w4 w3 hf hl) (g := mkF m pc Ls (argsL.reverse ++ .ref a :: rest)) rfl hsize (Steps.refl _) (a := a) (argsL := argsL) (rest := rest) (lenOf hpd hlen) rfl (by show 2 * 0 + _ ≤ _; omega) hd (fun _ _ => ⟨has, eT, hc, hs⟩)
  dsimp only [Pt.U, Pt.locs, Pt.cells, Pt.slots] at X' l1 y1 z1 st hQ hS' hgr
  subst l1 y1 z1
  obtain ⟨k0, s1, s2⟩ := hS
  have h3 : s.Since T'.vm T'.heap.size := s1.trans hS' (Nat.le_trans s2 (by rw [← eT]; exact hgr))
  exact go (fun _ => st.trans) (k T' v L X' (State.Warmed39.trans (t := s.setVm vm0) hZ hS'.1) (by rw [hS'.1.alike.findClass]; exact hown) ⟨_, h3, Nat.le_refl _⟩ hS'.1 hQ)
theorem goCallVW (X : Stand p l e R (s.setVm vm0) m args below meth c T locs cells slots) (hx : p.tables.exec = Jvm.exec) (hZ : Z.Warmed39 vm0) (hS : Sn s vm0 h) {own C : String} {index : Nat} {y : MethodName} {bytes : ByteArray} {maxL : Nat} {ret : Option FieldType} (hown : vm0.findClass own = some m.cls)
    (w1 : (Cond.methodLink own index y).before a0 Z = true) (w2 : (Cond.declares y).before a0 Z = true) (w5 : (Cond.selects C y y).before a0 Z = true) (w6 : (Cond.instanceMethod y).before a0 Z = true) (w3 : (Cond.initialized y.cls).before a0 Z = true) (w4 : (Cond.code y bytes maxL ret).before a0 Z = true) (hy : y.cls ≠ "java/lang/invoke/MethodHandle" ∧ y.cls ≠ "java/lang/invoke/VarHandle")
    {rm : Room} {as : Array Value} {Q' : Option Value → Heap → List Loc → Vm → Prop} (hM : CtrW l Z y bytes maxL ret [] rm as h Pv Q') (hPv : ∀ vm1, (s.setVm vm0).WarmedH vm1 → Pv vm1) (W : Nat) (hf : rm.frames + 1 ≤ R.frames) (hl : W + (maxL + 11) + rm.locals ≤ R.locals) (eT : T.heap = h) {a : Addr} (E : Exa Z h a C)
    {pc : Nat} {Ls : Array Slot} {st : List Value} (hsize : Ls.size = c.maxLocals) (argsL rest : List Value) {ps : List FieldType} {rt : Option FieldType} (hpd : parseMethodDescriptor y.desc = some ⟨ps, rt⟩) (hlen : argsL.length = ps.length) (hst : st = argsL.reverse ++ .ref a :: rest) (has : (.ref a :: argsL).toArray = as) (hW : (rest.map fun v => v.category).sum ≤ W)
    (hd : decode c.code pc = .ok (.invokevirtual index, 3)) (hc : cells + rm.cells ≤ R.cells) (hs : slots + rm.slots ≤ R.slots)
    (k : ∀ T' v L, Stand p l e R (s.setVm T'.vm) m args below meth c T' (locs ++ L) (cells + rm.cells) (slots + rm.slots) → Z.Warmed39 T'.vm → T'.vm.findClass own = some m.cls → Sn s T'.vm T'.heap → (s.setVm vm0).Warmed39 T'.vm → Q' v T'.heap L T'.vm → Goes p e below G (T'.setTop (mkF m (pc + 3) Ls (v.toList ++ rest)))) : Goes p e below G (T.setTop (mkF m pc Ls st)) := by
  subst hst
  obtain ⟨cq, kq, qa, qb, qc⟩ := isOf (s := s.setVm vm0) hZ eT E
  obtain ⟨v, _, ⟨T', L', k', n'⟩, -, X', hS', hgr, ⟨L, hQ, l1, y1, z1⟩, st⟩ := X.virtualBackS hx (y := y) (z := y) hown (mvT (s := s.setVm vm0) hZ w1) (mvT (s := s.setVm vm0) hZ w2) (notFace_of_selects (args := #[]) (mvT (s := s.setVm vm0) hZ w5)) (mvT (s := s.setVm vm0) hZ w5) (mvT (s := s.setVm vm0) hZ w6) hy (backW (W := W) hM hPv hZ w4 w3 hf hl) qa qc (g := mkF m pc Ls (argsL.reverse ++ .ref a :: rest)) rfl hsize (Steps.refl _) (argsL := argsL) (rest := rest) (lenOf hpd hlen) rfl (by show 2 * 0 + _ ≤ _; omega) hd (fun _ _ => ⟨has, eT, hc, hs⟩)
  dsimp only [Pt.U, Pt.locs, Pt.cells, Pt.slots] at X' l1 y1 z1 st hQ hS' hgr
  subst l1 y1 z1
  obtain ⟨k0, s1, s2⟩ := hS
  have h3 : s.Since T'.vm T'.heap.size := s1.trans hS' (Nat.le_trans s2 (by rw [← eT]; exact hgr))
  exact go (fun _ => st.trans) (k T' v L X' (State.Warmed39.trans (t := s.setVm vm0) hZ hS'.1) (by rw [hS'.1.alike.findClass]; exact hown) ⟨_, h3, Nat.le_refl _⟩ hS'.1 hQ)
/-- Arv with its whole list is Ary -/
theorem Arv.ary {b : Addr} {k : ClassId} {ty : FieldType} {z : Int32} {vs : List Value} {d : Value} (F : Arv Z h b k ty z vs d) (hl : z.toNatClampNeg = vs.length) : Ary Z h b ty vs := by
  obtain ⟨cl, A, -, hs, hz, H, -⟩ := F
  refine ⟨cl, A, ?_, ?_⟩
  · apply List.ext_getElem?
    intro i
    by_cases hi : i < cl.slots.size
    · have := H i hi
      rw [Array.getElem?_toList, this]
      rw [List.getD_eq_getElem?_getD]
      have hv : i < vs.length := by omega
      simp [hv]
    · rw [List.getElem?_eq_none (by rw [Array.length_toList]; omega), List.getElem?_eq_none (by omega)]
  · rw [← hl]; exact (back32 hz).2
end OwnW
end Jvm.OwnWalk
namespace Jvm.Pilot.@@N@@
open Jvm Jvm.ClassFile Sem Op Lib Jvm.Free Jvm.Stand Jvm.LawKit Jvm.RoadKit Jvm.OwnWalk Bundle Jvm.Pilot.@@N@@.Jvm.D
theorem own_wS {Z : State} {a0 : Array Value} (hw : ∀ d ∈ tables_1, d.before a0 Z = true) : ∀ a ∈ Bundle.stringAtoms, a.before a0 Z = true := by
  intro d hd
  simp only [Bundle.stringAtoms, Bundle.sN, List.mem_cons, List.not_mem_nil, or_false] at hd
  rcases hd with rfl | rfl | rfl | rfl | rfl | rfl | rfl
  · exact hw _ (List.mem_of_getElem? (i := 4) rfl)
  · exact hw _ (List.mem_of_getElem? (i := 3) rfl)
  · exact hw _ (List.mem_of_getElem? (i := 21) rfl)
  · exact hw _ (List.mem_of_getElem? (i := 31) rfl)
  · exact hw _ (List.mem_of_getElem? (i := 29) rfl)
  · exact hw _ (List.mem_of_getElem? (i := 50) rfl)
  · exact hw _ (List.mem_of_getElem? (i := 51) rfl)
theorem own_fits {n : String} {v : Value} (h : v.isRef = true) : fits (.object n) v = true := by cases v <;> first | rfl | (simp [Value.isRef] at h)
theorem own_shr0 (x : Int32) : x >>> ((0 : Int32) &&& 31) = x := by
  apply Int32.toInt_inj.mp
  have a : (x >>> ((0 : Int32) &&& 31)).toInt = x.toInt / 1 := c_ishr x 0 0 (by decide)
  omega
theorem own_shl0 (x : Int32) : x <<< ((0 : Int32) &&& 31) = x := by
  apply Int32.toInt_inj.mp
  have a : ((x <<< ((0 : Int32) &&& 31)).toInt - x.toInt * 1) % 4294967296 = 0 := c_ishl x 0 0 (by decide)
  have b1 := Int32.toInt_lt x
  have b2 := Int32.le_toInt x
  have b3 := Int32.toInt_lt (x <<< ((0 : Int32) &&& 31))
  have b4 := Int32.le_toInt (x <<< ((0 : Int32) &&& 31))
  omega
theorem own_addn {a b : Nat} (h : a + b < 2 ^ 31) : a.toInt32 + b.toInt32 = (a + b).toInt32 := by
  apply Int32.toInt_inj.mp
  have q := c_iadd a.toInt32 b.toInt32
  rw [len_toInt (by omega), len_toInt (by omega)] at q
  rw [len_toInt h]
  have b3 := Int32.toInt_lt (a.toInt32 + b.toInt32)
  have b4 := Int32.le_toInt (a.toInt32 + b.toInt32)
  omega
theorem own_subn {a b : Nat} (h : b ≤ a) (ha : a < 2 ^ 31) : a.toInt32 - b.toInt32 = (a - b).toInt32 := by
  apply Int32.toInt_inj.mp
  have q := c_isub a.toInt32 b.toInt32
  rw [len_toInt (by omega), len_toInt (by omega)] at q
  rw [len_toInt (by omega)]
  have b3 := Int32.toInt_lt (a.toInt32 - b.toInt32)
  have b4 := Int32.le_toInt (a.toInt32 - b.toInt32)
  omega
theorem own_gt0 {a b : Nat} (ha : a < 2 ^ 31) (hB : b < 2 ^ 31) : 0 < a.toInt32 - b.toInt32 ↔ b < a := by
  rw [Int32.lt_iff_toInt_lt]
  have q := c_isub a.toInt32 b.toInt32
  rw [len_toInt ha, len_toInt hB] at q
  have b3 := Int32.toInt_lt (a.toInt32 - b.toInt32)
  have b4 := Int32.le_toInt (a.toInt32 - b.toInt32)
  show (0 : Int) < _ ↔ _
  omega
theorem own_ltn {a b : Nat} (ha : a < 2 ^ 31) (hB : b < 2 ^ 31) : a.toInt32 < b.toInt32 ↔ a < b := by
  rw [Int32.lt_iff_toInt_lt, len_toInt ha, len_toInt hB]; omega
theorem own_eqn {a b : Nat} (ha : a < 2 ^ 31) (hB : b < 2 ^ 31) : a.toInt32 = b.toInt32 ↔ a = b := by
  rw [← Int32.toInt_inj, len_toInt ha, len_toInt hB]; omega
theorem own_len {bs : List Int8} {n : Nat} (h : bs.length = n) : (own_bv bs).length.toInt32 = n.toInt32 := by rw [own_bv_len, h]
theorem own_une {x u v : Addr} {n : Nat} (hu : v = u ∨ n ≤ v) (ne : x ≠ u) (lt : x < n) : x ≠ v := by
  rcases hu with rfl | hu
  · exact ne
  · exact Nat.ne_of_lt (Nat.lt_of_lt_of_le lt hu)
theorem own_uge {k u v : Addr} {n : Nat} (hu : v = u ∨ n ≤ v) (h1 : k ≤ u) (h2 : k ≤ n) : k ≤ v := by
  rcases hu with rfl | hu
  · exact h1
  · exact Nat.le_trans h2 hu
def own_D (m e : Nat) : Prop := 1 ≤ e ∧ 10 ^ (e - 1) ≤ m ∧ m < 10 ^ e
theorem own_Dle {m a b : Nat} (h1 : 10 ^ (a - 1) ≤ m) (h2 : m < 10 ^ b) : a ≤ b := by
  apply Nat.le_of_not_lt
  intro q
  have : 10 ^ b ≤ 10 ^ (a - 1) := Nat.pow_le_pow_right (by decide) (by omega)
  omega
theorem own_Duniq {m a b : Nat} (h1 : own_D m a) (h2 : own_D m b) : a = b := Nat.le_antisymm (own_Dle h1.2.1 h2.2.2) (own_Dle h2.2.1 h1.2.2)
theorem own_D100 {m e : Nat} (h : own_D m e) (g : ¬ m < 100) : 3 ≤ e ∧ own_D (m / 100) (e - 2) := by
  have h3 : 3 ≤ e := own_Dle (a := 3) (by show 100 ≤ m; omega) h.2.2
  obtain ⟨f, rfl⟩ : ∃ f, e = f + 3 := ⟨e - 3, by omega⟩
  have a : 10 ^ (f + 2) ≤ m := h.2.1
  have b : m < 10 ^ (f + 3) := h.2.2
  have p2 : 10 ^ (f + 2) = 10 ^ f * 100 := by rw [Nat.pow_add]
  have p3 : 10 ^ (f + 3) = 10 ^ (f + 1) * 100 := by rw [Nat.pow_add, Nat.pow_add, Nat.mul_assoc]
  rw [p2] at a
  rw [p3] at b
  refine ⟨h3, by omega, ?_, ?_⟩
  · show 10 ^ f ≤ m / 100
    exact (Nat.le_div_iff_mul_le (by decide)).mpr a
  · show m / 100 < 10 ^ (f + 1)
    exact (Nat.div_lt_iff_lt_mul (by decide)).mpr b
def own_dg : Nat → Nat → List Int8
  | 0, _ => []
  | e + 1, m => own_dg e (m / 10) ++ [(48 + m % 10).toInt8]
theorem own_dg2 {e m : Nat} (h : 2 ≤ e) : own_dg e m = own_dg (e - 2) (m / 100) ++ [(48 + m % 100 / 10).toInt8, (48 + m % 100 % 10).toInt8] := by
  obtain ⟨f, rfl⟩ : ∃ f, e = f + 2 := ⟨e - 2, by omega⟩
  show (own_dg f (m / 10 / 10) ++ [(48 + m / 10 % 10).toInt8]) ++ [(48 + m % 10).toInt8] = own_dg f (m / 100) ++ _
  rw [Nat.div_div_eq_div_mul, show m % 100 / 10 = m / 10 % 10 by omega, show m % 100 % 10 = m % 10 by omega, List.append_assoc]
  rfl
theorem own_dg_len (e m : Nat) : (own_dg e m).length = e := by
  induction e generalizing m with
  | zero => rfl
  | succ e ih => rw [own_dg, List.length_append, ih]; rfl
theorem own_dg_at {e m k : Nat} (h : k < e) : (own_dg e m)[k]? = some (48 + m / 10 ^ (e - 1 - k) % 10).toInt8 := by
  induction e generalizing m with
  | zero => omega
  | succ e ih =>
    rw [own_dg]
    by_cases q : k < e
    · rw [List.getElem?_append_left (by rw [own_dg_len]; exact q), ih q, Nat.div_div_eq_div_mul]
      rw [show 10 * 10 ^ (e - 1 - k) = 10 ^ (e + 1 - 1 - k) by
        rw [Nat.mul_comm, ← Nat.pow_succ]; congr 1; omega]
    · obtain rfl : k = e := by omega
      rw [List.getElem?_append_right (by rw [own_dg_len]; omega), own_dg_len, Nat.sub_self]
      rw [show k + 1 - 1 - k = 0 by omega, Nat.pow_zero, Nat.div_one]; rfl
theorem own_ng {n k : Nat} (hn : n < 2 ^ 31) {P : Int32} (hP : P.toInt = -(k : Int)) : P < -n.toInt32 ↔ n < k := by
  rw [Int32.lt_iff_toInt_lt, hP]
  have q := c_ineg n.toInt32
  rw [len_toInt hn] at q
  have b3 := Int32.toInt_lt (-n.toInt32)
  have b4 := Int32.le_toInt (-n.toInt32)
  omega
theorem own_ng2 {n k : Nat} (hn : n < 2 ^ 31) {P : Int32} (hP : P.toInt = -(k : Int)) : -n.toInt32 < P ↔ k < n := by
  rw [Int32.lt_iff_toInt_lt, hP]
  have q := c_ineg n.toInt32
  rw [len_toInt hn] at q
  have b3 := Int32.toInt_lt (-n.toInt32)
  have b4 := Int32.le_toInt (-n.toInt32)
  omega
theorem own_negI {n : Nat} (hn : n < 2 ^ 31) : (-n.toInt32).toInt = -(n : Int) := by
  have q := c_ineg n.toInt32
  rw [len_toInt hn] at q
  have b3 := Int32.toInt_lt (-n.toInt32)
  have b4 := Int32.le_toInt (-n.toInt32)
  omega
theorem own_nd {m : Nat} (hm : m < 2 ^ 31) : -m.toInt32 / (100 : Int32) = -(m / 100).toInt32 := by
  apply Int32.toInt_inj.mp
  have a := own_negI hm
  rw [own_negI (by omega)]
  have q := c_idiv (-m.toInt32) 100 100 (by decide) (by decide)
  rw [a] at q
  by_cases z : m = 0
  · subst z; decide
  · rw [q.2 (by omega)]
    omega
theorem own_nr {m : Nat} (hm : m < 2 ^ 31) : -(m / 100).toInt32 * (100 : Int32) - -m.toInt32 = (m % 100).toInt32 := by
  apply Int32.toInt_inj.mp
  have a := own_negI hm
  have b := own_negI (n := m / 100) (by omega)
  have q := c_imul (-(m / 100).toInt32) 100
  rw [b, show (100 : Int32).toInt = 100 by decide] at q
  have r := c_isub (-(m / 100).toInt32 * (100 : Int32)) (-m.toInt32)
  rw [a] at r
  have b3 := Int32.toInt_lt (-(m / 100).toInt32 * (100 : Int32) - -m.toInt32)
  have b4 := Int32.le_toInt (-(m / 100).toInt32 * (100 : Int32) - -m.toInt32)
  have b5 := Int32.toInt_lt (-(m / 100).toInt32 * (100 : Int32))
  have b6 := Int32.le_toInt (-(m / 100).toInt32 * (100 : Int32))
  rw [len_toInt (by omega)]
  omega
theorem own_nn2 {m : Nat} (hm : m < 2 ^ 31) : -(-m.toInt32) = m.toInt32 := by
  apply Int32.toInt_inj.mp
  have a := own_negI hm
  have q := c_ineg (-m.toInt32)
  rw [a] at q
  rw [len_toInt hm]
  have b3 := Int32.toInt_lt (-(-m.toInt32))
  have b4 := Int32.le_toInt (-(-m.toInt32))
  omega
theorem own_pred {n : Nat} (h : 0 < n) (hn : n < 2 ^ 31) : n.toInt32 + (-1 : Int32) = (n - 1).toInt32 := by
  apply Int32.toInt_inj.mp
  have q := c_iadd n.toInt32 (-1)
  rw [len_toInt hn, show (-1 : Int32).toInt = -1 by decide] at q
  rw [len_toInt (by omega)]
  have b3 := Int32.toInt_lt (n.toInt32 + (-1 : Int32))
  have b4 := Int32.le_toInt (n.toInt32 + (-1 : Int32))
  omega
def own_on : List Int8 := (List.range 100).map fun i => (48 + i % 10).toInt8
def own_te : List Int8 := (List.range 100).map fun i => (48 + i / 10).toInt8
theorem own_on_at {i : Nat} (h : i < 100) : (own_bv own_on)[i.toInt32.toNatClampNeg]? = some (.int (48 + i % 10).toInt8.toInt32) := by
  rw [own_natc (by omega)]; exact own_bv_at (by simp [own_on, h])
theorem own_te_at {i : Nat} (h : i < 100) : (own_bv own_te)[i.toInt32.toNatClampNeg]? = some (.int (48 + i / 10).toInt8.toInt32) := by
  rw [own_natc (by omega)]; exact own_bv_at (by simp [own_te, h])
theorem own_bex {bs : List Int8} {i : Nat} (h : i < bs.length) (hi : i < 2 ^ 31) : (own_bv bs)[i.toInt32.toNatClampNeg]? = some (.int (bs[i]'h).toInt32) := by
  rw [own_natc hi]; exact own_bv_at (List.getElem?_eq_getElem h)
theorem own_setl {X R : List Int8} {i : Nat} (b : Int8) (h : X.length = i + 1) (hi : i < 2 ^ 31) : (own_bv (X ++ R)).set i.toInt32.toNatClampNeg (.int (nar .byte b.toInt32)) = own_bv (X.dropLast ++ b :: R) := by
  rw [own_natc hi]
  have hn : nar .byte b.toInt32 = b.toInt32 := by
    have e : b = b.toInt32.toInt8 := by simp
    rw [e]; exact narb _
  rw [hn]
  have hX : X ≠ [] := fun z => by rw [z] at h; cases h
  obtain ⟨Y, y, rfl⟩ : ∃ Y y, X = Y ++ [y] := ⟨X.dropLast, X.getLast hX, (List.dropLast_concat_getLast hX).symm⟩
  have hY : Y.length = i := by rw [List.length_append] at h; simpa using h
  rw [List.dropLast_concat, List.append_assoc]
  simp only [own_bv, List.map_append, List.map_cons, List.singleton_append]
  rw [List.set_append_right _ _ (by rw [List.length_map]; omega), List.length_map, hY, Nat.sub_self]
  rfl
theorem own_dlt {X : List Int8} {st : Nat} (h : st < X.length) : X.dropLast.take st = X.take st := by
  rw [List.dropLast_eq_take, List.take_take, Nat.min_eq_left (by omega)]
theorem d_jdk_29_method_65_0 : decode jdk_29_method_65_code 0 = .ok (.iload_n 0, 1) := by decide +kernel
theorem d_jdk_29_method_65_1 : decode jdk_29_method_65_code 1 = .ok (.iload_n 1, 1) := by decide +kernel
theorem d_jdk_29_method_65_2 : decode jdk_29_method_65_code 2 = .ok (.if_icmp .lt 7, 3) := by decide +kernel
theorem d_jdk_29_method_65_9 : decode jdk_29_method_65_code 9 = .ok (.iload_n 1, 1) := by decide +kernel
theorem d_jdk_29_method_65_10 : decode jdk_29_method_65_code 10 = .ok (.ireturn, 1) := by decide +kernel
theorem d_jdk_29_method_65_5 : decode jdk_29_method_65_code 5 = .ok (.iload_n 0, 1) := by decide +kernel
theorem d_jdk_29_method_65_6 : decode jdk_29_method_65_code 6 = .ok (.goto 4, 3) := by decide +kernel
theorem ef_rmMx (m : MethodId) (x0 : Int32) (x1 : Int32) : entryFrame m #[(.int x0), (.int x1)] 2 = mkF m 0 #[.val (.int x0), .val (.int x1)] [] := by first | (simp [entryFrame, mkF, argsToLocals, Value.category]; done) | rfl
set_option maxRecDepth 65536 in
set_option maxHeartbeats 40000000 in
theorem rmMx (l : Launch) (Z : State) (a0 : Array Value) (hw : ∀ d ∈ tables_1, d.before a0 Z = true) (z : Int32) (p0 : Int32) (p1 : Int32) (h0 : Heap) (O0 : Ext Z.heap h0) (hz : (p0 < p1 → p1 = z) ∧ (¬ p0 < p1 → p0 = z)) :
    Ctr l Z (⟨"java/lang/Math", "max", "(II)I"⟩ : MethodName) jdk_29_method_65_code 2 (some .int) [] ({ frames := 0, cells := 0, slots := 0, locals := 0 } : Room) #[(.int p0), (.int p1)] h0 (fun v h L => v = some (.int z) ∧ Fr Z.heap.size L ∧ h = h0) := by
  refine ctr (Jvm.Free.JP.mathPlain rfl (by decide +kernel)) ?_
  intro p e s m below meth c s₁ hx hby hml hown hnm hret hlocks hZ X0 e0
  have N0 := Fr.nil Z.heap.size
  have hsz : ∀ {Ls : Array Slot}, Ls.size = 2 → Ls.size = c.maxLocals := fun q => q.trans hml.symm
  refine goE (ef_rmMx m (p0) (p1)) ?_
  show Goes p e below _ (s₁.setTop (mkF m 0 #[.val (.int p0), .val (.int p1)] []))
  refine gIloadN X0 hx (hb hby d_jdk_29_method_65_0) rfl ?_
  refine gIloadN X0 hx (hb hby d_jdk_29_method_65_1) rfl ?_
  by_cases g : p0 < p1
  · refine gIcmpY X0 hx (hb hby d_jdk_29_method_65_2) (pc' := 9) (XT.ii_lt_t g) (by decide) (by decide) ?_
    show Goes p e below _ (s₁.setTop (mkF m 9 #[.val (.int p0), .val (.int p1)] []))
    refine gIloadN X0 hx (hb hby d_jdk_29_method_65_9) rfl ?_
    exact goRetI X0 hx hret hlocks (hb hby d_jdk_29_method_65_10) (by decide) (by decide) e0 (⟨by rw [hz.1 g], N0, rfl⟩)
  · refine gIcmpN X0 hx (hb hby d_jdk_29_method_65_2) (XT.ii_lt_f g) ?_
    show Goes p e below _ (s₁.setTop (mkF m 5 #[.val (.int p0), .val (.int p1)] []))
    refine gIloadN X0 hx (hb hby d_jdk_29_method_65_5) rfl ?_
    refine gGoto X0 hx (hb hby d_jdk_29_method_65_6) (pc' := 10) (by decide) (by decide) ?_
    show Goes p e below _ (s₁.setTop (mkF m 10 #[.val (.int p0), .val (.int p1)] [(.int p0)]))
    exact goRetI X0 hx hret hlocks (hb hby d_jdk_29_method_65_10) (by decide) (by decide) e0 (⟨by rw [hz.2 g], N0, rfl⟩)
theorem d_jdk_29_method_69_0 : decode jdk_29_method_69_code 0 = .ok (.iload_n 0, 1) := by decide +kernel
theorem d_jdk_29_method_69_1 : decode jdk_29_method_69_code 1 = .ok (.iload_n 1, 1) := by decide +kernel
theorem d_jdk_29_method_69_2 : decode jdk_29_method_69_code 2 = .ok (.if_icmp .gt 7, 3) := by decide +kernel
theorem d_jdk_29_method_69_9 : decode jdk_29_method_69_code 9 = .ok (.iload_n 1, 1) := by decide +kernel
theorem d_jdk_29_method_69_10 : decode jdk_29_method_69_code 10 = .ok (.ireturn, 1) := by decide +kernel
theorem d_jdk_29_method_69_5 : decode jdk_29_method_69_code 5 = .ok (.iload_n 0, 1) := by decide +kernel
theorem d_jdk_29_method_69_6 : decode jdk_29_method_69_code 6 = .ok (.goto 4, 3) := by decide +kernel
theorem ef_rmMn (m : MethodId) (x0 : Int32) (x1 : Int32) : entryFrame m #[(.int x0), (.int x1)] 2 = mkF m 0 #[.val (.int x0), .val (.int x1)] [] := by first | (simp [entryFrame, mkF, argsToLocals, Value.category]; done) | rfl
set_option maxRecDepth 65536 in
set_option maxHeartbeats 40000000 in
theorem rmMn (l : Launch) (Z : State) (a0 : Array Value) (hw : ∀ d ∈ tables_1, d.before a0 Z = true) (z : Int32) (p0 : Int32) (p1 : Int32) (h0 : Heap) (O0 : Ext Z.heap h0) (hz : (p1 < p0 → p1 = z) ∧ (¬ p1 < p0 → p0 = z)) :
    Ctr l Z (⟨"java/lang/Math", "min", "(II)I"⟩ : MethodName) jdk_29_method_69_code 2 (some .int) [] ({ frames := 0, cells := 0, slots := 0, locals := 0 } : Room) #[(.int p0), (.int p1)] h0 (fun v h L => v = some (.int z) ∧ Fr Z.heap.size L ∧ h = h0) := by
  refine ctr (Jvm.Free.JP.mathPlain rfl (by decide +kernel)) ?_
  intro p e s m below meth c s₁ hx hby hml hown hnm hret hlocks hZ X0 e0
  have N0 := Fr.nil Z.heap.size
  have hsz : ∀ {Ls : Array Slot}, Ls.size = 2 → Ls.size = c.maxLocals := fun q => q.trans hml.symm
  refine goE (ef_rmMn m (p0) (p1)) ?_
  show Goes p e below _ (s₁.setTop (mkF m 0 #[.val (.int p0), .val (.int p1)] []))
  refine gIloadN X0 hx (hb hby d_jdk_29_method_69_0) rfl ?_
  refine gIloadN X0 hx (hb hby d_jdk_29_method_69_1) rfl ?_
  by_cases g : p1 < p0
  · refine gIcmpY X0 hx (hb hby d_jdk_29_method_69_2) (pc' := 9) (XT.ii_gt_t g) (by decide) (by decide) ?_
    show Goes p e below _ (s₁.setTop (mkF m 9 #[.val (.int p0), .val (.int p1)] []))
    refine gIloadN X0 hx (hb hby d_jdk_29_method_69_9) rfl ?_
    exact goRetI X0 hx hret hlocks (hb hby d_jdk_29_method_69_10) (by decide) (by decide) e0 (⟨by rw [hz.1 g], N0, rfl⟩)
  · refine gIcmpN X0 hx (hb hby d_jdk_29_method_69_2) (XT.ii_gt_f g) ?_
    show Goes p e below _ (s₁.setTop (mkF m 5 #[.val (.int p0), .val (.int p1)] []))
    refine gIloadN X0 hx (hb hby d_jdk_29_method_69_5) rfl ?_
    refine gGoto X0 hx (hb hby d_jdk_29_method_69_6) (pc' := 10) (by decide) (by decide) ?_
    show Goes p e below _ (s₁.setTop (mkF m 10 #[.val (.int p0), .val (.int p1)] [(.int p0)]))
    exact goRetI X0 hx hret hlocks (hb hby d_jdk_29_method_69_10) (by decide) (by decide) e0 (⟨by rw [hz.2 g], N0, rfl⟩)
theorem d_jdk_68_method_2_0 : decode jdk_68_method_2_code 0 = .ok (.aload_n 0, 1) := by decide +kernel
theorem d_jdk_68_method_2_1 : decode jdk_68_method_2_code 1 = .ok (.invokespecial 3, 3) := by decide +kernel
theorem d_jdk_68_method_2_4 : decode jdk_68_method_2_code 4 = .ok (.getstatic 18, 3) := by decide +kernel
theorem d_jdk_68_method_2_7 : decode jdk_68_method_2_code 7 = .ok (.ifCond .eq 18, 3) := by decide +kernel
theorem d_jdk_68_method_2_10 : decode jdk_68_method_2_code 10 = .ok (.aload_n 0, 1) := by decide +kernel
theorem d_jdk_68_method_2_11 : decode jdk_68_method_2_code 11 = .ok (.iload_n 1, 1) := by decide +kernel
theorem d_jdk_68_method_2_12 : decode jdk_68_method_2_code 12 = .ok (.newarray .byte, 2) := by decide +kernel
theorem d_jdk_68_method_2_14 : decode jdk_68_method_2_code 14 = .ok (.putfield 15, 3) := by decide +kernel
theorem d_jdk_68_method_2_17 : decode jdk_68_method_2_code 17 = .ok (.aload_n 0, 1) := by decide +kernel
theorem d_jdk_68_method_2_18 : decode jdk_68_method_2_code 18 = .ok (.iconst 0, 1) := by decide +kernel
theorem d_jdk_68_method_2_19 : decode jdk_68_method_2_code 19 = .ok (.putfield 22, 3) := by decide +kernel
theorem d_jdk_68_method_2_22 : decode jdk_68_method_2_code 22 = .ok (.goto 16, 3) := by decide +kernel
theorem d_jdk_68_method_2_38 : decode jdk_68_method_2_code 38 = .ok (.return_, 1) := by decide +kernel
theorem pn_0 : plainName "java/lang/AbstractStringBuilder" = true := by first | (simp [plainName, overriddenIn]; done) | decide +kernel
theorem ef_rmAi (m : MethodId) (x0 : Addr) (x1 : Int32) : entryFrame m #[(.ref x0), (.int x1)] 2 = mkF m 0 #[.val (.ref x0), .val (.int x1)] [] := by first | (simp [entryFrame, mkF, argsToLocals, Value.category]; done) | rfl
set_option maxRecDepth 65536 in
set_option maxHeartbeats 40000000 in
theorem rmAi (l : Launch) (Z : State) (a0 : Array Value) (hw : ∀ d ∈ tables_1, d.before a0 Z = true) (cs : Int32) (a1 : Addr) (h0 : Heap) (O0 : Ext Z.heap h0) (S_cs : Sta Z Z.heap "java/lang/String" "COMPACT_STRINGS" "Z" (.int cs)) (hcs : ¬ cs = 0) (E1 : Exa Z h0 a1 "java/lang/StringBuilder") (V1 : Fld Z h0 a1 "java/lang/AbstractStringBuilder" "value" "[B" .null) (C1 : Fld Z h0 a1 "java/lang/AbstractStringBuilder" "coder" "B" (.int (0 : Int32))) (N1 : Fld Z h0 a1 "java/lang/AbstractStringBuilder" "count" "I" (.int (0 : Int32))) (fr1 : Z.heap.size ≤ a1) :
    Ctr l Z (⟨"java/lang/AbstractStringBuilder", "<init>", "(I)V"⟩ : MethodName) jdk_68_method_2_code 2 none [] ({ frames := 1, cells := 1, slots := 16, locals := 13 } : Room) #[(.ref a1), (.int (16 : Int32))] h0 (fun v h L => v = none ∧ Fr Z.heap.size L ∧ Keep h0 h [a1] ∧ ∃ u, h0.size ≤ u ∧ Fld Z h a1 "java/lang/AbstractStringBuilder" "value" "[B" (.ref u) ∧ Fld Z h a1 "java/lang/AbstractStringBuilder" "coder" "B" (.int (0 : Int32)) ∧ Fld Z h a1 "java/lang/AbstractStringBuilder" "count" "I" (.int (0 : Int32)) ∧ Ary Z h u .byte (own_bv (List.replicate 16 0)) ∧ Exa Z h u "[B") := by
  refine ctr (plainFor_of_name pn_0) ?_
  intro p e s m below meth c s₁ hx hby hml hown hnm hret hlocks hZ X0 e0
  have N0 := Fr.nil Z.heap.size
  have hsz : ∀ {Ls : Array Slot}, Ls.size = 2 → Ls.size = c.maxLocals := fun q => q.trans hml.symm
  have K0 := Keep.refl h0 [a1]
  refine goE (ef_rmAi m (a1) ((16 : Int32))) ?_
  show Goes p e below _ (s₁.setTop (mkF m 0 #[.val (.ref a1), .val (.int (16 : Int32))] []))
  refine gAloadN X0 hx (hb hby d_jdk_68_method_2_0) rfl rfl ?_
  obtain ⟨Tt1, Xt1, et1, stt1⟩ := initO X0 hx hZ hown (hw _ (List.mem_of_getElem? (i := 79) rfl)) (hw _ (List.mem_of_getElem? (i := 14) rfl)) (hw _ (List.mem_of_getElem? (i := 15) rfl)) e0 (g := (mkF m 1 #[.val (.ref a1), .val (.int (16 : Int32))] [(.ref a1)])) rfl (by rw [hml]; rfl) rfl (hb hby d_jdk_68_method_2_1) (by decide) (W := 0) (Nat.le_of_eq rfl) (by decide)
  refine go stt1 ?_
  show Goes p e below _ (Tt1.setTop (mkF m 4 #[.val (.ref a1), .val (.int (16 : Int32))] []))
  obtain ⟨Tt2, Xt2, et2, stt2⟩ := getS2 Xt1 hx hZ hown (host := "") (Or.inl (hw _ (List.mem_of_getElem? (i := 80) rfl))) Via.refl et1 (S_cs.ext O0) (g := (mkF m 4 #[.val (.ref a1), .val (.int (16 : Int32))] [])) rfl (hb hby d_jdk_68_method_2_4)
  refine go stt2 ?_
  show Goes p e below _ (Tt2.setTop (mkF m 7 #[.val (.ref a1), .val (.int (16 : Int32))] [(.int cs)]))
  refine gIfN Xt2 hx (hb hby d_jdk_68_method_2_7) (XT.i0_eq_f hcs) ?_
  show Goes p e below _ (Tt2.setTop (mkF m 10 #[.val (.ref a1), .val (.int (16 : Int32))] []))
  refine gAloadN Xt2 hx (hb hby d_jdk_68_method_2_10) rfl rfl ?_
  refine gIloadN Xt2 hx (hb hby d_jdk_68_method_2_11) rfl ?_
  refine goNewB Xt2 hx hZ (hw _ (List.mem_of_getElem? (i := 21) rfl)) et2 (hb hby d_jdk_68_method_2_12) 16 16 (by decide) (by decide) rfl (by decide) (by decide) (fun Tt3 ht3 ob4 gob4 Xt3 et3 Et3 At3 Bt3 => ?_)
  have ne_a1_ob4 : a1 ≠ ob4 := Nat.ne_of_lt (gob4 ▸ E1.lt)
  have fr_ob4 : Z.heap.size ≤ ob4 := gob4 ▸ O0.1
  have pa_ob4 : h0.size ≤ ob4 := gob4 ▸ K0.1
  replace E1 := E1.ext Et3
  replace V1 := V1.ext Et3
  replace C1 := C1.ext Et3
  replace N1 := N1.ext Et3
  have O5 : Ext Z.heap ht3 := extT O0 Et3
  have K6 := K0.ext Et3
  show Goes p e below _ (Tt3.setTop (mkF m 14 #[.val (.ref a1), .val (.int (16 : Int32))] [(.ref ob4), (.ref a1)]))
  obtain ⟨Tt7, ht7, Xt7, et7, Wt7, stt7⟩ := putF Xt3 hx hZ hown (host := "") (Or.inl (hw _ (List.mem_of_getElem? (i := 81) rfl))) Via.refl et3 V1 E1 (Or.inl (hw _ (List.mem_of_getElem? (i := 82) rfl))) (hw _ (List.mem_of_getElem? (i := 68) rfl)) (ty := (.array .byte)) (by decide) rfl rfl (g := (mkF m 14 #[.val (.ref a1), .val (.int (16 : Int32))] [(.ref ob4), (.ref a1)])) rfl rfl (hb hby d_jdk_68_method_2_14)
  refine go stt7 ?_
  have N8 := Fr.snoc Xt7 N0 fr1
  replace V1 := V1.same Wt7
  replace E1 := E1.wr Wt7
  replace C1 := C1.other Wt7 (Or.inr (slot_ne (Or.inl (hw _ (List.mem_of_getElem? (i := 84) rfl))) (Or.inl (hw _ (List.mem_of_getElem? (i := 82) rfl))) (by decide) (t := .byte) (by decide) (t' := (.array .byte)) (by decide)))
  replace N1 := N1.other Wt7 (Or.inr (slot_ne (Or.inl (hw _ (List.mem_of_getElem? (i := 106) rfl))) (Or.inl (hw _ (List.mem_of_getElem? (i := 82) rfl))) (by decide) (t := .int) (by decide) (t' := (.array .byte)) (by decide)))
  replace At3 := At3.other Wt7 (Ne.symm ne_a1_ob4)
  replace Bt3 := Bt3.wr Wt7
  have O9 : Ext Z.heap ht7 := extW O5 Wt7 fr1
  have K10 := K6.wr Wt7 (Or.inl (by simp))
  show Goes p e below _ (Tt7.setTop (mkF m 17 #[.val (.ref a1), .val (.int (16 : Int32))] []))
  refine gAloadN Xt7 hx (hb hby d_jdk_68_method_2_17) rfl rfl ?_
  refine gIconst Xt7 hx (hb hby d_jdk_68_method_2_18) (v := (0 : Int32)) rfl ?_
  obtain ⟨Tt11, ht11, Xt11, et11, Wt11, stt11⟩ := putF Xt7 hx hZ hown (host := "") (Or.inl (hw _ (List.mem_of_getElem? (i := 83) rfl))) Via.refl et7 C1 E1 (Or.inl (hw _ (List.mem_of_getElem? (i := 84) rfl))) (hw _ (List.mem_of_getElem? (i := 68) rfl)) (ty := .byte) (by decide) rfl rfl (g := (mkF m 19 #[.val (.ref a1), .val (.int (16 : Int32))] [(.int (0 : Int32)), (.ref a1)])) rfl rfl (hb hby d_jdk_68_method_2_19)
  refine go stt11 ?_
  have N12 := Fr.snoc Xt11 N8 fr1
  replace C1 := C1.same Wt11
  replace E1 := E1.wr Wt11
  replace V1 := V1.other Wt11 (Or.inr (slot_ne (Or.inl (hw _ (List.mem_of_getElem? (i := 82) rfl))) (Or.inl (hw _ (List.mem_of_getElem? (i := 84) rfl))) (by decide) (t := (.array .byte)) (by decide) (t' := .byte) (by decide)))
  replace N1 := N1.other Wt11 (Or.inr (slot_ne (Or.inl (hw _ (List.mem_of_getElem? (i := 106) rfl))) (Or.inl (hw _ (List.mem_of_getElem? (i := 84) rfl))) (by decide) (t := .int) (by decide) (t' := .byte) (by decide)))
  replace At3 := At3.other Wt11 (Ne.symm ne_a1_ob4)
  replace Bt3 := Bt3.wr Wt11
  have O13 : Ext Z.heap ht11 := extW O9 Wt11 fr1
  have K14 := K10.wr Wt11 (Or.inl (by simp))
  show Goes p e below _ (Tt11.setTop (mkF m 22 #[.val (.ref a1), .val (.int (16 : Int32))] []))
  refine gGoto Xt11 hx (hb hby d_jdk_68_method_2_22) (pc' := 38) (by decide) (by decide) ?_
  show Goes p e below _ (Tt11.setTop (mkF m 38 #[.val (.ref a1), .val (.int (16 : Int32))] []))
  exact goRet0 Xt11 hx hret hlocks (hb hby d_jdk_68_method_2_38) (by decide) (by decide) et11 (⟨rfl, N12, K14, ob4, pa_ob4, V1, C1, N1, At3, Bt3⟩)
theorem d_jdk_67_method_1_0 : decode jdk_67_method_1_code 0 = .ok (.aload_n 0, 1) := by decide +kernel
theorem d_jdk_67_method_1_1 : decode jdk_67_method_1_code 1 = .ok (.bipush 16, 2) := by decide +kernel
theorem pd_0 : parseMethodDescriptor "(I)V" = some ⟨[.int], none⟩ := by decide +kernel
theorem d_jdk_67_method_1_3 : decode jdk_67_method_1_code 3 = .ok (.invokespecial 1, 3) := by decide +kernel
theorem d_jdk_67_method_1_6 : decode jdk_67_method_1_code 6 = .ok (.return_, 1) := by decide +kernel
theorem pn_1 : plainName "java/lang/StringBuilder" = true := by first | (simp [plainName, overriddenIn]; done) | decide +kernel
theorem ef_rmBi (m : MethodId) (x0 : Addr) : entryFrame m #[(.ref x0)] 1 = mkF m 0 #[.val (.ref x0)] [] := by first | (simp [entryFrame, mkF, argsToLocals, Value.category]; done) | rfl
set_option maxRecDepth 65536 in
set_option maxHeartbeats 40000000 in
theorem rmBi (l : Launch) (Z : State) (a0 : Array Value) (hw : ∀ d ∈ tables_1, d.before a0 Z = true) (cs : Int32) (a1 : Addr) (h0 : Heap) (O0 : Ext Z.heap h0) (S_cs : Sta Z Z.heap "java/lang/String" "COMPACT_STRINGS" "Z" (.int cs)) (hcs : ¬ cs = 0) (E1 : Exa Z h0 a1 "java/lang/StringBuilder") (V1 : Fld Z h0 a1 "java/lang/AbstractStringBuilder" "value" "[B" .null) (C1 : Fld Z h0 a1 "java/lang/AbstractStringBuilder" "coder" "B" (.int (0 : Int32))) (N1 : Fld Z h0 a1 "java/lang/AbstractStringBuilder" "count" "I" (.int (0 : Int32))) (fr1 : Z.heap.size ≤ a1) :
    Ctr l Z (⟨"java/lang/StringBuilder", "<init>", "()V"⟩ : MethodName) jdk_67_method_1_code 1 none [] ({ frames := 2, cells := 1, slots := 16, locals := 28 } : Room) #[(.ref a1)] h0 (fun v h L => v = none ∧ Fr Z.heap.size L ∧ Keep h0 h [a1] ∧ ∃ u, h0.size ≤ u ∧ Fld Z h a1 "java/lang/AbstractStringBuilder" "value" "[B" (.ref u) ∧ Fld Z h a1 "java/lang/AbstractStringBuilder" "coder" "B" (.int (0 : Int32)) ∧ Fld Z h a1 "java/lang/AbstractStringBuilder" "count" "I" (.int (0 : Int32)) ∧ Ary Z h u .byte (own_bv (List.replicate 16 0)) ∧ Exa Z h u "[B") := by
  refine ctr (plainFor_of_name pn_1) ?_
  intro p e s m below meth c s₁ hx hby hml hown hnm hret hlocks hZ X0 e0
  have N0 := Fr.nil Z.heap.size
  have hsz : ∀ {Ls : Array Slot}, Ls.size = 1 → Ls.size = c.maxLocals := fun q => q.trans hml.symm
  have K0 := Keep.refl h0 [a1]
  refine goE (ef_rmBi m (a1)) ?_
  show Goes p e below _ (s₁.setTop (mkF m 0 #[.val (.ref a1)] []))
  refine gAloadN X0 hx (hb hby d_jdk_67_method_1_0) rfl rfl ?_
  refine gBipush X0 hx (hb hby d_jdk_67_method_1_1) (v := (16 : Int32)) rfl ?_
  have lt_a1_t1 := E1.lt
  refine goCallI X0 hx hZ rfl hown (hw _ (List.mem_of_getElem? (i := 73) rfl)) (hw _ (List.mem_of_getElem? (i := 74) rfl)) (hw _ (List.mem_of_getElem? (i := 77) rfl)) (hw _ (List.mem_of_getElem? (i := 78) rfl)) (by decide) (rmAi l Z a0 hw cs a1 h0 O0 S_cs hcs E1 V1 C1 N1 fr1) 0 (by decide) (by decide) e0 (hsz rfl) a1 [(.int (16 : Int32))] [] pd_0 rfl rfl rfl (Nat.le_of_eq rfl) (hb hby d_jdk_67_method_1_3) (by decide) (by decide) (fun Tt1 vt1 Lt1 Xt1 qt1 => ?_)
  obtain ⟨ht1, et1⟩ : ∃ z, Tt1.heap = z := ⟨_, rfl⟩
  rw [et1] at qt1
  obtain ⟨rfl, N2, Kct1, u, pu, V1, C1, N1, Yu, Xu⟩ := qt1
  have N3 := Fr.app N0 N2
  replace E1 := E1.keep Kct1
  have O4 : Ext Z.heap ht1 := extK O0 Kct1 (allS fr1 all0)
  have K5 := K0.trans Kct1 (allS (Or.inl (by simp)) all0)
  have ne_a1_u : a1 ≠ u := Nat.ne_of_lt (Nat.lt_of_lt_of_le lt_a1_t1 pu)
  have fr_u : Z.heap.size ≤ u := Nat.le_trans O0.1 pu
  have pa_u : h0.size ≤ u := Nat.le_trans K0.1 pu
  show Goes p e below _ (Tt1.setTop (mkF m 6 #[.val (.ref a1)] []))
  exact goRet0 Xt1 hx hret hlocks (hb hby d_jdk_67_method_1_6) (by decide) (by decide) et1 (⟨rfl, N3, K5, u, pa_u, V1, C1, N1, Yu, Xu⟩)
theorem d_jdk_48_method_27_0 : decode jdk_48_method_27_code 0 = .ok (.iload_n 0, 1) := by decide +kernel
theorem d_jdk_48_method_27_1 : decode jdk_48_method_27_code 1 = .ok (.iload_n 1, 1) := by decide +kernel
theorem d_jdk_48_method_27_2 : decode jdk_48_method_27_code 2 = .ok (.iload_n 2, 1) := by decide +kernel
theorem pd_1 : parseMethodDescriptor "(II)I" = some ⟨[.int, .int], some .int⟩ := by decide +kernel
theorem d_jdk_48_method_27_3 : decode jdk_48_method_27_code 3 = .ok (.invokestatic 194, 3) := by decide +kernel
theorem d_jdk_48_method_27_6 : decode jdk_48_method_27_code 6 = .ok (.iadd, 1) := by decide +kernel
theorem d_jdk_48_method_27_7 : decode jdk_48_method_27_code 7 = .ok (.istore_n 3, 1) := by decide +kernel
theorem d_jdk_48_method_27_8 : decode jdk_48_method_27_code 8 = .ok (.iconst 0, 1) := by decide +kernel
theorem d_jdk_48_method_27_9 : decode jdk_48_method_27_code 9 = .ok (.iload_n 3, 1) := by decide +kernel
theorem d_jdk_48_method_27_10 : decode jdk_48_method_27_code 10 = .ok (.if_icmp .ge 11, 3) := by decide +kernel
theorem d_jdk_48_method_27_13 : decode jdk_48_method_27_code 13 = .ok (.iload_n 3, 1) := by decide +kernel
theorem d_jdk_48_method_27_14 : decode jdk_48_method_27_code 14 = .ok (.ldc 200, 2) := by decide +kernel
theorem d_jdk_48_method_27_16 : decode jdk_48_method_27_code 16 = .ok (.if_icmp .gt 5, 3) := by decide +kernel
theorem d_jdk_48_method_27_19 : decode jdk_48_method_27_code 19 = .ok (.iload_n 3, 1) := by decide +kernel
theorem d_jdk_48_method_27_20 : decode jdk_48_method_27_code 20 = .ok (.ireturn, 1) := by decide +kernel
theorem pn_2 : plainName "jdk/internal/util/ArraysSupport" = true := by first | (simp [plainName, overriddenIn]; done) | decide +kernel
theorem ef_rmNl (m : MethodId) (x0 : Int32) (x1 : Int32) (x2 : Int32) : entryFrame m #[(.int x0), (.int x1), (.int x2)] 4 = mkF m 0 #[.val (.int x0), .val (.int x1), .val (.int x2), .unset] [] := by first | (simp [entryFrame, mkF, argsToLocals, Value.category]; done) | rfl
set_option maxRecDepth 65536 in
set_option maxHeartbeats 40000000 in
theorem rmNl (l : Launch) (Z : State) (a0 : Array Value) (hw : ∀ d ∈ tables_1, d.before a0 Z = true)  (p1 : Int32) (h0 : Heap) (O0 : Ext Z.heap h0) (hz : (p1 < (18 : Int32) → (18 : Int32) = (18 : Int32)) ∧ (¬ p1 < (18 : Int32) → p1 = (18 : Int32))) :
    Ctr l Z (⟨"jdk/internal/util/ArraysSupport", "newLength", "(III)I"⟩ : MethodName) jdk_48_method_27_code 4 (some .int) [] ({ frames := 1, cells := 0, slots := 0, locals := 16 } : Room) #[(.int (16 : Int32)), (.int p1), (.int (18 : Int32))] h0 (fun v h L => v = some (.int (34 : Int32)) ∧ Fr Z.heap.size L ∧ h = h0) := by
  refine ctr (plainFor_of_name pn_2) ?_
  intro p e s m below meth c s₁ hx hby hml hown hnm hret hlocks hZ X0 e0
  have N0 := Fr.nil Z.heap.size
  have hsz : ∀ {Ls : Array Slot}, Ls.size = 4 → Ls.size = c.maxLocals := fun q => q.trans hml.symm
  refine goE (ef_rmNl m ((16 : Int32)) (p1) ((18 : Int32))) ?_
  show Goes p e below _ (s₁.setTop (mkF m 0 #[.val (.int (16 : Int32)), .val (.int p1), .val (.int (18 : Int32)), .unset] []))
  refine gIloadN X0 hx (hb hby d_jdk_48_method_27_0) rfl ?_
  refine gIloadN X0 hx (hb hby d_jdk_48_method_27_1) rfl ?_
  refine gIloadN X0 hx (hb hby d_jdk_48_method_27_2) rfl ?_
  refine goCallS X0 hx hZ hown (hw _ (List.mem_of_getElem? (i := 242) rfl)) (hw _ (List.mem_of_getElem? (i := 34) rfl)) (hw _ (List.mem_of_getElem? (i := 35) rfl)) (hw _ (List.mem_of_getElem? (i := 36) rfl)) (by decide) (rmMx l Z a0 hw (18 : Int32) p1 (18 : Int32) h0 O0 hz) 1 (by decide) (by decide) e0 (hsz rfl) [(.int p1), (.int (18 : Int32))] [(.int (16 : Int32))] pd_1 rfl rfl rfl (Nat.le_of_eq rfl) (hb hby d_jdk_48_method_27_3) (by decide) (by decide) (fun Tt1 vt1 Lt1 Xt1 qt1 => ?_)
  obtain ⟨rfl, N2, et1⟩ := qt1
  have N3 := Fr.app N0 N2
  show Goes p e below _ (Tt1.setTop (mkF m 6 #[.val (.int (16 : Int32)), .val (.int p1), .val (.int (18 : Int32)), .unset] [(.int (18 : Int32)), (.int (16 : Int32))]))
  refine gIadd Xt1 hx (hb hby d_jdk_48_method_27_6) ?_
  refine gIstoreN Xt1 hx (hb hby d_jdk_48_method_27_7) (l' := #[.val (.int (16 : Int32)), .val (.int p1), .val (.int (18 : Int32)), .val (.int (34 : Int32))]) rfl ?_
  refine gIconst Xt1 hx (hb hby d_jdk_48_method_27_8) (v := (0 : Int32)) rfl ?_
  refine gIloadN Xt1 hx (hb hby d_jdk_48_method_27_9) rfl ?_
  refine gIcmpN Xt1 hx (hb hby d_jdk_48_method_27_10) (XT.ii_ge_f (by decide)) ?_
  show Goes p e below _ (Tt1.setTop (mkF m 13 #[.val (.int (16 : Int32)), .val (.int p1), .val (.int (18 : Int32)), .val (.int (34 : Int32))] []))
  refine gIloadN Xt1 hx (hb hby d_jdk_48_method_27_13) rfl ?_
  refine gLdcI Xt1 hx hZ hown (hw _ (List.mem_of_getElem? (i := 243) rfl)) (hb hby d_jdk_48_method_27_14) ?_
  refine gIcmpN Xt1 hx (hb hby d_jdk_48_method_27_16) (XT.ii_gt_f (by decide)) ?_
  show Goes p e below _ (Tt1.setTop (mkF m 19 #[.val (.int (16 : Int32)), .val (.int p1), .val (.int (18 : Int32)), .val (.int (34 : Int32))] []))
  refine gIloadN Xt1 hx (hb hby d_jdk_48_method_27_19) rfl ?_
  exact goRetI Xt1 hx hret hlocks (hb hby d_jdk_48_method_27_20) (by decide) (by decide) et1 (⟨rfl, N3, rfl⟩)
theorem d_jdk_68_method_10_0 : decode jdk_68_method_10_code 0 = .ok (.aload_n 0, 1) := by decide +kernel
theorem d_jdk_68_method_10_1 : decode jdk_68_method_10_code 1 = .ok (.getfield 15, 3) := by decide +kernel
theorem d_jdk_68_method_10_4 : decode jdk_68_method_10_code 4 = .ok (.arraylength, 1) := by decide +kernel
theorem d_jdk_68_method_10_5 : decode jdk_68_method_10_code 5 = .ok (.istore_n 2, 1) := by decide +kernel
theorem d_jdk_68_method_10_6 : decode jdk_68_method_10_code 6 = .ok (.iload_n 1, 1) := by decide +kernel
theorem d_jdk_68_method_10_7 : decode jdk_68_method_10_code 7 = .ok (.aload_n 0, 1) := by decide +kernel
theorem d_jdk_68_method_10_8 : decode jdk_68_method_10_code 8 = .ok (.getfield 22, 3) := by decide +kernel
theorem d_jdk_68_method_10_11 : decode jdk_68_method_10_code 11 = .ok (.ishl, 1) := by decide +kernel
theorem d_jdk_68_method_10_12 : decode jdk_68_method_10_code 12 = .ok (.istore_n 3, 1) := by decide +kernel
theorem d_jdk_68_method_10_13 : decode jdk_68_method_10_code 13 = .ok (.iload_n 3, 1) := by decide +kernel
theorem d_jdk_68_method_10_14 : decode jdk_68_method_10_code 14 = .ok (.iload_n 2, 1) := by decide +kernel
theorem d_jdk_68_method_10_15 : decode jdk_68_method_10_code 15 = .ok (.isub, 1) := by decide +kernel
theorem d_jdk_68_method_10_16 : decode jdk_68_method_10_code 16 = .ok (.istore 4, 2) := by decide +kernel
theorem d_jdk_68_method_10_18 : decode jdk_68_method_10_code 18 = .ok (.iload_n 2, 1) := by decide +kernel
theorem d_jdk_68_method_10_19 : decode jdk_68_method_10_code 19 = .ok (.iload 4, 2) := by decide +kernel
theorem d_jdk_68_method_10_21 : decode jdk_68_method_10_code 21 = .ok (.iload_n 2, 1) := by decide +kernel
theorem d_jdk_68_method_10_22 : decode jdk_68_method_10_code 22 = .ok (.iconst 2, 1) := by decide +kernel
theorem d_jdk_68_method_10_23 : decode jdk_68_method_10_code 23 = .ok (.aload_n 0, 1) := by decide +kernel
theorem d_jdk_68_method_10_24 : decode jdk_68_method_10_code 24 = .ok (.getfield 22, 3) := by decide +kernel
theorem d_jdk_68_method_10_27 : decode jdk_68_method_10_code 27 = .ok (.ishl, 1) := by decide +kernel
theorem d_jdk_68_method_10_28 : decode jdk_68_method_10_code 28 = .ok (.iadd, 1) := by decide +kernel
theorem pd_2 : parseMethodDescriptor "(III)I" = some ⟨[.int, .int, .int], some .int⟩ := by decide +kernel
theorem d_jdk_68_method_10_29 : decode jdk_68_method_10_code 29 = .ok (.invokestatic 114, 3) := by decide +kernel
theorem d_jdk_68_method_10_32 : decode jdk_68_method_10_code 32 = .ok (.istore 5, 2) := by decide +kernel
theorem d_jdk_68_method_10_34 : decode jdk_68_method_10_code 34 = .ok (.iload 5, 2) := by decide +kernel
theorem d_jdk_68_method_10_36 : decode jdk_68_method_10_code 36 = .ok (.ldc 39, 2) := by decide +kernel
theorem d_jdk_68_method_10_38 : decode jdk_68_method_10_code 38 = .ok (.if_icmp .ne 13, 3) := by decide +kernel
theorem d_jdk_68_method_10_51 : decode jdk_68_method_10_code 51 = .ok (.iload 5, 2) := by decide +kernel
theorem d_jdk_68_method_10_53 : decode jdk_68_method_10_code 53 = .ok (.aload_n 0, 1) := by decide +kernel
theorem d_jdk_68_method_10_54 : decode jdk_68_method_10_code 54 = .ok (.getfield 22, 3) := by decide +kernel
theorem d_jdk_68_method_10_57 : decode jdk_68_method_10_code 57 = .ok (.ishr, 1) := by decide +kernel
theorem d_jdk_68_method_10_58 : decode jdk_68_method_10_code 58 = .ok (.ireturn, 1) := by decide +kernel
theorem ef_rmNc (m : MethodId) (x0 : Addr) (x1 : Int32) : entryFrame m #[(.ref x0), (.int x1)] 6 = mkF m 0 #[.val (.ref x0), .val (.int x1), .unset, .unset, .unset, .unset] [] := by first | (simp [entryFrame, mkF, argsToLocals, Value.category]; done) | rfl
set_option maxRecDepth 65536 in
set_option maxHeartbeats 40000000 in
theorem rmNc (l : Launch) (Z : State) (a0 : Array Value) (hw : ∀ d ∈ tables_1, d.before a0 Z = true) (a1 u : Addr) (xs : List Int8) (mn : Nat)  (h0 : Heap) (O0 : Ext Z.heap h0) (V1 : Fld Z h0 a1 "java/lang/AbstractStringBuilder" "value" "[B" (.ref u)) (C1 : Fld Z h0 a1 "java/lang/AbstractStringBuilder" "coder" "B" (.int (0 : Int32))) (Y1 : Ary Z h0 u .byte (own_bv xs)) (hx16 : xs.length = 16) (h16 : 16 < mn) (h34 : mn ≤ 34) :
    Ctr l Z (⟨"java/lang/AbstractStringBuilder", "newCapacity", "(I)I"⟩ : MethodName) jdk_68_method_10_code 6 (some .int) [] ({ frames := 2, cells := 0, slots := 0, locals := 40 } : Room) #[(.ref a1), (.int mn.toInt32)] h0 (fun v h L => v = some (.int (34 : Int32)) ∧ Fr Z.heap.size L ∧ h = h0) := by
  refine ctr (plainFor_of_name pn_0) ?_
  intro p e s m below meth c s₁ hx hby hml hown hnm hret hlocks hZ X0 e0
  have N0 := Fr.nil Z.heap.size
  have hsz : ∀ {Ls : Array Slot}, Ls.size = 6 → Ls.size = c.maxLocals := fun q => q.trans hml.symm
  refine goE (ef_rmNc m (a1) (mn.toInt32)) ?_
  show Goes p e below _ (s₁.setTop (mkF m 0 #[.val (.ref a1), .val (.int mn.toInt32), .unset, .unset, .unset, .unset] []))
  refine gAloadN X0 hx (hb hby d_jdk_68_method_10_0) rfl rfl ?_
  obtain ⟨Tt1, Xt1, et1, stt1⟩ := getF X0 hx hZ hown (host := "") (Or.inl (hw _ (List.mem_of_getElem? (i := 81) rfl))) Via.refl e0 V1 (g := (mkF m 1 #[.val (.ref a1), .val (.int mn.toInt32), .unset, .unset, .unset, .unset] [(.ref a1)])) rfl rfl (hb hby d_jdk_68_method_10_1)
  refine go stt1 ?_
  show Goes p e below _ (Tt1.setTop (mkF m 4 #[.val (.ref a1), .val (.int mn.toInt32), .unset, .unset, .unset, .unset] [(.ref u)]))
  refine goAlen Xt1 hx hZ et1 Y1 (n := (16 : Int32)) (hb hby d_jdk_68_method_10_4) (own_len hx16) ?_
  refine gIstoreN Xt1 hx (hb hby d_jdk_68_method_10_5) (l' := #[.val (.ref a1), .val (.int mn.toInt32), .val (.int (16 : Int32)), .unset, .unset, .unset]) rfl ?_
  refine gIloadN Xt1 hx (hb hby d_jdk_68_method_10_6) rfl ?_
  refine gAloadN Xt1 hx (hb hby d_jdk_68_method_10_7) rfl rfl ?_
  obtain ⟨Tt2, Xt2, et2, stt2⟩ := getF Xt1 hx hZ hown (host := "") (Or.inl (hw _ (List.mem_of_getElem? (i := 83) rfl))) Via.refl et1 C1 (g := (mkF m 8 #[.val (.ref a1), .val (.int mn.toInt32), .val (.int (16 : Int32)), .unset, .unset, .unset] [(.ref a1), (.int mn.toInt32)])) rfl rfl (hb hby d_jdk_68_method_10_8)
  refine go stt2 ?_
  show Goes p e below _ (Tt2.setTop (mkF m 11 #[.val (.ref a1), .val (.int mn.toInt32), .val (.int (16 : Int32)), .unset, .unset, .unset] [(.int (0 : Int32)), (.int mn.toInt32)]))
  refine gIshl Xt2 hx (hb hby d_jdk_68_method_10_11) ?_
  show Goes p e below _ (Tt2.setTop (mkF m 12 #[.val (.ref a1), .val (.int mn.toInt32), .val (.int (16 : Int32)), .unset, .unset, .unset] [(.int (mn.toInt32 <<< ((0 : Int32) &&& 31)))]))
  rw [own_shl0]
  show Goes p e below _ (Tt2.setTop (mkF m 12 #[.val (.ref a1), .val (.int mn.toInt32), .val (.int (16 : Int32)), .unset, .unset, .unset] [(.int mn.toInt32)]))
  refine gIstoreN Xt2 hx (hb hby d_jdk_68_method_10_12) (l' := #[.val (.ref a1), .val (.int mn.toInt32), .val (.int (16 : Int32)), .val (.int mn.toInt32), .unset, .unset]) rfl ?_
  refine gIloadN Xt2 hx (hb hby d_jdk_68_method_10_13) rfl ?_
  refine gIloadN Xt2 hx (hb hby d_jdk_68_method_10_14) rfl ?_
  show Goes p e below _ (Tt2.setTop (mkF m 15 #[.val (.ref a1), .val (.int mn.toInt32), .val (.int (16 : Int32)), .val (.int mn.toInt32), .unset, .unset] [(.int (16 : Nat).toInt32), (.int mn.toInt32)]))
  refine gIsub Xt2 hx (hb hby d_jdk_68_method_10_15) ?_
  show Goes p e below _ (Tt2.setTop (mkF m 16 #[.val (.ref a1), .val (.int mn.toInt32), .val (.int (16 : Int32)), .val (.int mn.toInt32), .unset, .unset] [(.int (mn.toInt32 - (16 : Nat).toInt32))]))
  rw [own_subn (by omega) (by omega)]
  show Goes p e below _ (Tt2.setTop (mkF m 16 #[.val (.ref a1), .val (.int mn.toInt32), .val (.int (16 : Int32)), .val (.int mn.toInt32), .unset, .unset] [(.int (mn - 16).toInt32)]))
  refine gIstore Xt2 hx (hb hby d_jdk_68_method_10_16) (l' := #[.val (.ref a1), .val (.int mn.toInt32), .val (.int (16 : Int32)), .val (.int mn.toInt32), .val (.int (mn - 16).toInt32), .unset]) rfl ?_
  refine gIloadN Xt2 hx (hb hby d_jdk_68_method_10_18) rfl ?_
  refine gIload Xt2 hx (hb hby d_jdk_68_method_10_19) rfl ?_
  refine gIloadN Xt2 hx (hb hby d_jdk_68_method_10_21) rfl ?_
  refine gIconst Xt2 hx (hb hby d_jdk_68_method_10_22) (v := (2 : Int32)) rfl ?_
  refine gAloadN Xt2 hx (hb hby d_jdk_68_method_10_23) rfl rfl ?_
  obtain ⟨Tt3, Xt3, et3, stt3⟩ := getF Xt2 hx hZ hown (host := "") (Or.inl (hw _ (List.mem_of_getElem? (i := 83) rfl))) Via.refl et2 C1 (g := (mkF m 24 #[.val (.ref a1), .val (.int mn.toInt32), .val (.int (16 : Int32)), .val (.int mn.toInt32), .val (.int (mn - 16).toInt32), .unset] [(.ref a1), (.int (2 : Int32)), (.int (16 : Int32)), (.int (mn - 16).toInt32), (.int (16 : Int32))])) rfl rfl (hb hby d_jdk_68_method_10_24)
  refine go stt3 ?_
  show Goes p e below _ (Tt3.setTop (mkF m 27 #[.val (.ref a1), .val (.int mn.toInt32), .val (.int (16 : Int32)), .val (.int mn.toInt32), .val (.int (mn - 16).toInt32), .unset] [(.int (0 : Int32)), (.int (2 : Int32)), (.int (16 : Int32)), (.int (mn - 16).toInt32), (.int (16 : Int32))]))
  refine gIshl Xt3 hx (hb hby d_jdk_68_method_10_27) ?_
  show Goes p e below _ (Tt3.setTop (mkF m 28 #[.val (.ref a1), .val (.int mn.toInt32), .val (.int (16 : Int32)), .val (.int mn.toInt32), .val (.int (mn - 16).toInt32), .unset] [(.int ((2 : Int32) <<< ((0 : Int32) &&& 31))), (.int (16 : Int32)), (.int (mn - 16).toInt32), (.int (16 : Int32))]))
  rw [own_shl0]
  show Goes p e below _ (Tt3.setTop (mkF m 28 #[.val (.ref a1), .val (.int mn.toInt32), .val (.int (16 : Int32)), .val (.int mn.toInt32), .val (.int (mn - 16).toInt32), .unset] [(.int (2 : Int32)), (.int (16 : Int32)), (.int (mn - 16).toInt32), (.int (16 : Int32))]))
  refine gIadd Xt3 hx (hb hby d_jdk_68_method_10_28) ?_
  refine goCallS Xt3 hx hZ hown (hw _ (List.mem_of_getElem? (i := 238) rfl)) (hw _ (List.mem_of_getElem? (i := 239) rfl)) (hw _ (List.mem_of_getElem? (i := 240) rfl)) (hw _ (List.mem_of_getElem? (i := 241) rfl)) (by decide) (rmNl l Z a0 hw (mn - 16).toInt32 h0 O0 ⟨fun _ => rfl, fun q => by
      have e : ¬ mn - 16 < 18 := fun z => q ((own_ltn (b := 18) (by omega) (by decide)).mpr z)
      have : mn - 16 = 18 := by omega
      rw [this]; rfl⟩) 0 (by decide) (by decide) et3 (hsz rfl) [(.int (16 : Int32)), (.int (mn - 16).toInt32), (.int (18 : Int32))] [] pd_2 rfl rfl rfl (Nat.le_of_eq rfl) (hb hby d_jdk_68_method_10_29) (by decide) (by decide) (fun Tt4 vt4 Lt4 Xt4 qt4 => ?_)
  obtain ⟨rfl, N5, et4⟩ := qt4
  have N6 := Fr.app N0 N5
  show Goes p e below _ (Tt4.setTop (mkF m 32 #[.val (.ref a1), .val (.int mn.toInt32), .val (.int (16 : Int32)), .val (.int mn.toInt32), .val (.int (mn - 16).toInt32), .unset] [(.int (34 : Int32))]))
  refine gIstore Xt4 hx (hb hby d_jdk_68_method_10_32) (l' := #[.val (.ref a1), .val (.int mn.toInt32), .val (.int (16 : Int32)), .val (.int mn.toInt32), .val (.int (mn - 16).toInt32), .val (.int (34 : Int32))]) rfl ?_
  refine gIload Xt4 hx (hb hby d_jdk_68_method_10_34) rfl ?_
  refine gLdcI Xt4 hx hZ hown (hw _ (List.mem_of_getElem? (i := 244) rfl)) (hb hby d_jdk_68_method_10_36) ?_
  refine gIcmpY Xt4 hx (hb hby d_jdk_68_method_10_38) (pc' := 51) (XT.ii_ne_t (by decide)) (by decide) (by decide) ?_
  show Goes p e below _ (Tt4.setTop (mkF m 51 #[.val (.ref a1), .val (.int mn.toInt32), .val (.int (16 : Int32)), .val (.int mn.toInt32), .val (.int (mn - 16).toInt32), .val (.int (34 : Int32))] []))
  refine gIload Xt4 hx (hb hby d_jdk_68_method_10_51) rfl ?_
  refine gAloadN Xt4 hx (hb hby d_jdk_68_method_10_53) rfl rfl ?_
  obtain ⟨Tt7, Xt7, et7, stt7⟩ := getF Xt4 hx hZ hown (host := "") (Or.inl (hw _ (List.mem_of_getElem? (i := 83) rfl))) Via.refl et4 C1 (g := (mkF m 54 #[.val (.ref a1), .val (.int mn.toInt32), .val (.int (16 : Int32)), .val (.int mn.toInt32), .val (.int (mn - 16).toInt32), .val (.int (34 : Int32))] [(.ref a1), (.int (34 : Int32))])) rfl rfl (hb hby d_jdk_68_method_10_54)
  refine go stt7 ?_
  show Goes p e below _ (Tt7.setTop (mkF m 57 #[.val (.ref a1), .val (.int mn.toInt32), .val (.int (16 : Int32)), .val (.int mn.toInt32), .val (.int (mn - 16).toInt32), .val (.int (34 : Int32))] [(.int (0 : Int32)), (.int (34 : Int32))]))
  refine gIshr Xt7 hx (hb hby d_jdk_68_method_10_57) ?_
  show Goes p e below _ (Tt7.setTop (mkF m 58 #[.val (.ref a1), .val (.int mn.toInt32), .val (.int (16 : Int32)), .val (.int mn.toInt32), .val (.int (mn - 16).toInt32), .val (.int (34 : Int32))] [(.int ((34 : Int32) >>> ((0 : Int32) &&& 31)))]))
  rw [own_shr0]
  show Goes p e below _ (Tt7.setTop (mkF m 58 #[.val (.ref a1), .val (.int mn.toInt32), .val (.int (16 : Int32)), .val (.int mn.toInt32), .val (.int (mn - 16).toInt32), .val (.int (34 : Int32))] [(.int (34 : Int32))]))
  exact goRetI Xt7 hx hret hlocks (hb hby d_jdk_68_method_10_58) (by decide) (by decide) et7 (⟨rfl, N6, rfl⟩)
theorem d_jdk_65_method_121_0 : decode jdk_65_method_121_code 0 = .ok (.iload_n 1, 1) := by decide +kernel
theorem d_jdk_65_method_121_1 : decode jdk_65_method_121_code 1 = .ok (.aload_n 0, 1) := by decide +kernel
theorem d_jdk_65_method_121_2 : decode jdk_65_method_121_code 2 = .ok (.arraylength, 1) := by decide +kernel
theorem d_jdk_65_method_121_3 : decode jdk_65_method_121_code 3 = .ok (.if_icmp .ne 11, 3) := by decide +kernel
theorem d_jdk_65_method_121_14 : decode jdk_65_method_121_code 14 = .ok (.iload_n 1, 1) := by decide +kernel
theorem d_jdk_65_method_121_15 : decode jdk_65_method_121_code 15 = .ok (.newarray .byte, 2) := by decide +kernel
theorem d_jdk_65_method_121_17 : decode jdk_65_method_121_code 17 = .ok (.astore_n 2, 1) := by decide +kernel
theorem d_jdk_65_method_121_18 : decode jdk_65_method_121_code 18 = .ok (.aload_n 0, 1) := by decide +kernel
theorem d_jdk_65_method_121_19 : decode jdk_65_method_121_code 19 = .ok (.iconst 0, 1) := by decide +kernel
theorem d_jdk_65_method_121_20 : decode jdk_65_method_121_code 20 = .ok (.aload_n 2, 1) := by decide +kernel
theorem d_jdk_65_method_121_21 : decode jdk_65_method_121_code 21 = .ok (.iconst 0, 1) := by decide +kernel
theorem d_jdk_65_method_121_22 : decode jdk_65_method_121_code 22 = .ok (.aload_n 0, 1) := by decide +kernel
theorem d_jdk_65_method_121_23 : decode jdk_65_method_121_code 23 = .ok (.arraylength, 1) := by decide +kernel
theorem d_jdk_65_method_121_24 : decode jdk_65_method_121_code 24 = .ok (.iload_n 1, 1) := by decide +kernel
theorem d_jdk_65_method_121_25 : decode jdk_65_method_121_code 25 = .ok (.invokestatic 304, 3) := by decide +kernel
theorem d_jdk_65_method_121_28 : decode jdk_65_method_121_code 28 = .ok (.invokestatic 150, 3) := by decide +kernel
theorem d_jdk_65_method_121_31 : decode jdk_65_method_121_code 31 = .ok (.aload_n 2, 1) := by decide +kernel
theorem d_jdk_65_method_121_32 : decode jdk_65_method_121_code 32 = .ok (.areturn, 1) := by decide +kernel
theorem pn_3 : plainName "java/util/Arrays" = true := by first | (simp [plainName, overriddenIn]; done) | decide +kernel
theorem ef_rmCo (m : MethodId) (x0 : Addr) (x1 : Int32) : entryFrame m #[(.ref x0), (.int x1)] 3 = mkF m 0 #[.val (.ref x0), .val (.int x1), .unset] [] := by first | (simp [entryFrame, mkF, argsToLocals, Value.category]; done) | rfl
set_option maxRecDepth 65536 in
set_option maxHeartbeats 40000000 in
theorem rmCo (l : Launch) (Z : State) (a0 : Array Value) (hw : ∀ d ∈ tables_1, d.before a0 Z = true) (xs : List Int8) (a1 : Addr) (h0 : Heap) (O0 : Ext Z.heap h0) (Y1 : Ary Z h0 a1 .byte (own_bv xs)) (hx16 : xs.length = 16) :
    Ctr l Z (⟨"java/util/Arrays", "copyOf", "([BI)[B"⟩ : MethodName) jdk_65_method_121_code 3 (some (.array .byte)) [] ({ frames := 1, cells := 1, slots := 34, locals := 24 } : Room) #[(.ref a1), (.int (34 : Int32))] h0 (fun v h L => ∃ u, v = some (.ref u) ∧ Fr Z.heap.size L ∧ Keep h0 h [] ∧ h0.size ≤ u ∧ Ary Z h u .byte (own_bv (xs ++ List.replicate 18 0)) ∧ Exa Z h u "[B") := by
  refine ctr (plainFor_of_name pn_3) ?_
  intro p e s m below meth c s₁ hx hby hml hown hnm hret hlocks hZ X0 e0
  have N0 := Fr.nil Z.heap.size
  have hsz : ∀ {Ls : Array Slot}, Ls.size = 3 → Ls.size = c.maxLocals := fun q => q.trans hml.symm
  have K0 := Keep.refl h0 []
  refine goE (ef_rmCo m (a1) ((34 : Int32))) ?_
  show Goes p e below _ (s₁.setTop (mkF m 0 #[.val (.ref a1), .val (.int (34 : Int32)), .unset] []))
  refine gIloadN X0 hx (hb hby d_jdk_65_method_121_0) rfl ?_
  refine gAloadN X0 hx (hb hby d_jdk_65_method_121_1) rfl rfl ?_
  refine goAlen X0 hx hZ e0 Y1 (n := (16 : Int32)) (hb hby d_jdk_65_method_121_2) (own_len hx16) ?_
  refine gIcmpY X0 hx (hb hby d_jdk_65_method_121_3) (pc' := 14) (XT.ii_ne_t (by decide)) (by decide) (by decide) ?_
  show Goes p e below _ (s₁.setTop (mkF m 14 #[.val (.ref a1), .val (.int (34 : Int32)), .unset] []))
  refine gIloadN X0 hx (hb hby d_jdk_65_method_121_14) rfl ?_
  refine goNewB X0 hx hZ (hw _ (List.mem_of_getElem? (i := 21) rfl)) e0 (hb hby d_jdk_65_method_121_15) 34 34 (by decide) (by decide) rfl (by decide) (by decide) (fun Tt1 ht1 ob2 gob2 Xt1 et1 Et1 At1 Bt1 => ?_)
  have ne_a1_ob2 : a1 ≠ ob2 := Nat.ne_of_lt (gob2 ▸ Y1.lt)
  have fr_ob2 : Z.heap.size ≤ ob2 := gob2 ▸ O0.1
  have pa_ob2 : h0.size ≤ ob2 := gob2 ▸ K0.1
  replace Y1 := Y1.ext Et1
  have O3 : Ext Z.heap ht1 := extT O0 Et1
  have K4 := K0.ext Et1
  show Goes p e below _ (Tt1.setTop (mkF m 17 #[.val (.ref a1), .val (.int (34 : Int32)), .unset] [(.ref ob2)]))
  refine gAstoreN Xt1 hx (hb hby d_jdk_65_method_121_17) rfl (l' := #[.val (.ref a1), .val (.int (34 : Int32)), .val (.ref ob2)]) rfl ?_
  refine gAloadN Xt1 hx (hb hby d_jdk_65_method_121_18) rfl rfl ?_
  refine gIconst Xt1 hx (hb hby d_jdk_65_method_121_19) (v := (0 : Int32)) rfl ?_
  refine gAloadN Xt1 hx (hb hby d_jdk_65_method_121_20) rfl rfl ?_
  refine gIconst Xt1 hx (hb hby d_jdk_65_method_121_21) (v := (0 : Int32)) rfl ?_
  refine gAloadN Xt1 hx (hb hby d_jdk_65_method_121_22) rfl rfl ?_
  refine goAlen Xt1 hx hZ et1 Y1 (n := (16 : Int32)) (hb hby d_jdk_65_method_121_23) (own_len hx16) ?_
  show Goes p e below _ (Tt1.setTop (mkF m 24 #[.val (.ref a1), .val (.int (34 : Int32)), .val (.ref ob2)] [(.int (16 : Int32)), (.int (0 : Int32)), (.ref ob2), (.int (0 : Int32)), (.ref a1)]))
  refine gIloadN Xt1 hx (hb hby d_jdk_65_method_121_24) rfl ?_
  refine goCallS Xt1 hx hZ hown (hw _ (List.mem_of_getElem? (i := 191) rfl)) (hw _ (List.mem_of_getElem? (i := 192) rfl)) (hw _ (List.mem_of_getElem? (i := 35) rfl)) (hw _ (List.mem_of_getElem? (i := 193) rfl)) (by decide) (rmMn l Z a0 hw (16 : Int32) (16 : Int32) (34 : Int32) ht1 O3 ⟨fun q => absurd q (by decide), fun _ => rfl⟩) 4 (by decide) (by decide) et1 (hsz rfl) [(.int (16 : Int32)), (.int (34 : Int32))] [(.int (0 : Int32)), (.ref ob2), (.int (0 : Int32)), (.ref a1)] pd_1 rfl rfl rfl (Nat.le_of_eq rfl) (hb hby d_jdk_65_method_121_25) (by decide) (by decide) (fun Tt5 vt5 Lt5 Xt5 qt5 => ?_)
  obtain ⟨rfl, N6, et5⟩ := qt5
  have N7 := Fr.app N0 N6
  show Goes p e below _ (Tt5.setTop (mkF m 28 #[.val (.ref a1), .val (.int (34 : Int32)), .val (.ref ob2)] [(.int (16 : Int32)), (.int (0 : Int32)), (.ref ob2), (.int (0 : Int32)), (.ref a1)]))
  refine goCopy Xt5 hx hZ hown (hw _ (List.mem_of_getElem? (i := 194) rfl)) (hw _ (List.mem_of_getElem? (i := 129) rfl)) (hw _ (List.mem_of_getElem? (i := 130) rfl)) (hw _ (List.mem_of_getElem? (i := 131) rfl)) et5 Y1 At1 0 0 16 (by omega) (by decide) (xs ++ List.replicate 18 0) (by simp [hx16, List.take_of_length_le]) rfl rfl rfl 0 (by decide) (by decide) (hsz rfl) (Nat.le_of_eq rfl) (hb hby d_jdk_65_method_121_28) (fun Tt8 ht8 Lt8 Xt8 et8 Lbt8 Kct8 Yct8 => ?_)
  have N9 := Fr.app N7 (fun y q => by rw [Lbt8 y q]; exact fr_ob2)
  replace Y1 := Y1.keep Kct8 (ninS ne_a1_ob2 nin0)
  replace Bt1 := Bt1.keep Kct8
  have O10 : Ext Z.heap ht8 := extK O3 Kct8 (allS fr_ob2 all0)
  have K11 := K4.trans Kct8 (allS (Or.inr pa_ob2) all0)
  show Goes p e below _ (Tt8.setTop (mkF m 31 #[.val (.ref a1), .val (.int (34 : Int32)), .val (.ref ob2)] []))
  refine gAloadN Xt8 hx (hb hby d_jdk_65_method_121_31) rfl rfl ?_
  exact goRetA Xt8 hx hret hlocks rfl rfl (hb hby d_jdk_65_method_121_32) (by decide) (by decide) et8 (⟨ob2, rfl, N9, K11, pa_ob2, Yct8, Bt1⟩)
theorem d_jdk_68_method_9_0 : decode jdk_68_method_9_code 0 = .ok (.aload_n 0, 1) := by decide +kernel
theorem d_jdk_68_method_9_1 : decode jdk_68_method_9_code 1 = .ok (.getfield 15, 3) := by decide +kernel
theorem d_jdk_68_method_9_4 : decode jdk_68_method_9_code 4 = .ok (.arraylength, 1) := by decide +kernel
theorem d_jdk_68_method_9_5 : decode jdk_68_method_9_code 5 = .ok (.aload_n 0, 1) := by decide +kernel
theorem d_jdk_68_method_9_6 : decode jdk_68_method_9_code 6 = .ok (.getfield 22, 3) := by decide +kernel
theorem d_jdk_68_method_9_9 : decode jdk_68_method_9_code 9 = .ok (.ishr, 1) := by decide +kernel
theorem d_jdk_68_method_9_10 : decode jdk_68_method_9_code 10 = .ok (.istore_n 2, 1) := by decide +kernel
theorem d_jdk_68_method_9_11 : decode jdk_68_method_9_code 11 = .ok (.iload_n 1, 1) := by decide +kernel
theorem d_jdk_68_method_9_12 : decode jdk_68_method_9_code 12 = .ok (.iload_n 2, 1) := by decide +kernel
theorem d_jdk_68_method_9_13 : decode jdk_68_method_9_code 13 = .ok (.isub, 1) := by decide +kernel
theorem d_jdk_68_method_9_14 : decode jdk_68_method_9_code 14 = .ok (.ifCond .le 24, 3) := by decide +kernel
theorem d_jdk_68_method_9_38 : decode jdk_68_method_9_code 38 = .ok (.return_, 1) := by decide +kernel
theorem d_jdk_68_method_9_17 : decode jdk_68_method_9_code 17 = .ok (.aload_n 0, 1) := by decide +kernel
theorem d_jdk_68_method_9_18 : decode jdk_68_method_9_code 18 = .ok (.aload_n 0, 1) := by decide +kernel
theorem d_jdk_68_method_9_19 : decode jdk_68_method_9_code 19 = .ok (.getfield 15, 3) := by decide +kernel
theorem d_jdk_68_method_9_22 : decode jdk_68_method_9_code 22 = .ok (.aload_n 0, 1) := by decide +kernel
theorem d_jdk_68_method_9_23 : decode jdk_68_method_9_code 23 = .ok (.iload_n 1, 1) := by decide +kernel
theorem pd_3 : parseMethodDescriptor "(I)I" = some ⟨[.int], some .int⟩ := by decide +kernel
theorem d_jdk_68_method_9_24 : decode jdk_68_method_9_code 24 = .ok (.invokevirtual 104, 3) := by decide +kernel
theorem d_jdk_68_method_9_27 : decode jdk_68_method_9_code 27 = .ok (.aload_n 0, 1) := by decide +kernel
theorem d_jdk_68_method_9_28 : decode jdk_68_method_9_code 28 = .ok (.getfield 22, 3) := by decide +kernel
theorem d_jdk_68_method_9_31 : decode jdk_68_method_9_code 31 = .ok (.ishl, 1) := by decide +kernel
theorem pd_4 : parseMethodDescriptor "([BI)[B" = some ⟨[(.array .byte), .int], some (.array .byte)⟩ := by decide +kernel
theorem d_jdk_68_method_9_32 : decode jdk_68_method_9_code 32 = .ok (.invokestatic 108, 3) := by decide +kernel
theorem d_jdk_68_method_9_35 : decode jdk_68_method_9_code 35 = .ok (.putfield 15, 3) := by decide +kernel
theorem ef_rmEn (m : MethodId) (x0 : Addr) (x1 : Int32) : entryFrame m #[(.ref x0), (.int x1)] 3 = mkF m 0 #[.val (.ref x0), .val (.int x1), .unset] [] := by first | (simp [entryFrame, mkF, argsToLocals, Value.category]; done) | rfl
set_option maxRecDepth 65536 in
set_option maxHeartbeats 40000000 in
theorem rmEn (l : Launch) (Z : State) (a0 : Array Value) (hw : ∀ d ∈ tables_1, d.before a0 Z = true) (a1 u : Addr) (txt pad : List Int8) (kap : Nat) (mn : Nat)  (h0 : Heap) (O0 : Ext Z.heap h0) (E1 : Exa Z h0 a1 "java/lang/StringBuilder") (V1 : Fld Z h0 a1 "java/lang/AbstractStringBuilder" "value" "[B" (.ref u)) (C1 : Fld Z h0 a1 "java/lang/AbstractStringBuilder" "coder" "B" (.int (0 : Int32))) (N1 : Fld Z h0 a1 "java/lang/AbstractStringBuilder" "count" "I" (.int txt.length.toInt32)) (Y1 : Ary Z h0 u .byte (own_bv (txt ++ pad))) (X1 : Exa Z h0 u "[B") (hk : (txt ++ pad).length = kap) (hkk : kap = 16 ∨ kap = 34) (ne : a1 ≠ u) (fr1 : Z.heap.size ≤ a1) (fr2 : Z.heap.size ≤ u) (h34 : mn ≤ 34) :
    Ctr l Z (⟨"java/lang/AbstractStringBuilder", "ensureCapacityInternal", "(I)V"⟩ : MethodName) jdk_68_method_9_code 3 none [] ({ frames := 3, cells := 1, slots := 34, locals := 59 } : Room) #[(.ref a1), (.int mn.toInt32)] h0 (fun v h L => v = none ∧ Fr Z.heap.size L ∧ Keep h0 h [a1] ∧ ∃ (u2 : Addr) (pad2 : List Int8) (kap2 : Nat), (u2 = u ∨ h0.size ≤ u2) ∧ Fld Z h a1 "java/lang/AbstractStringBuilder" "value" "[B" (.ref u2) ∧ Fld Z h a1 "java/lang/AbstractStringBuilder" "coder" "B" (.int (0 : Int32)) ∧ Fld Z h a1 "java/lang/AbstractStringBuilder" "count" "I" (.int txt.length.toInt32) ∧ Ary Z h u2 .byte (own_bv (txt ++ pad2)) ∧ Exa Z h u2 "[B" ∧ (txt ++ pad2).length = kap2 ∧ (kap2 = 16 ∨ kap2 = 34) ∧ mn ≤ kap2) := by
  refine ctr (plainFor_of_name pn_0) ?_
  intro p e s m below meth c s₁ hx hby hml hown hnm hret hlocks hZ X0 e0
  have N0 := Fr.nil Z.heap.size
  have hsz : ∀ {Ls : Array Slot}, Ls.size = 3 → Ls.size = c.maxLocals := fun q => q.trans hml.symm
  have K0 := Keep.refl h0 [a1]
  refine goE (ef_rmEn m (a1) (mn.toInt32)) ?_
  show Goes p e below _ (s₁.setTop (mkF m 0 #[.val (.ref a1), .val (.int mn.toInt32), .unset] []))
  refine gAloadN X0 hx (hb hby d_jdk_68_method_9_0) rfl rfl ?_
  obtain ⟨Tt1, Xt1, et1, stt1⟩ := getF X0 hx hZ hown (host := "") (Or.inl (hw _ (List.mem_of_getElem? (i := 81) rfl))) Via.refl e0 V1 (g := (mkF m 1 #[.val (.ref a1), .val (.int mn.toInt32), .unset] [(.ref a1)])) rfl rfl (hb hby d_jdk_68_method_9_1)
  refine go stt1 ?_
  show Goes p e below _ (Tt1.setTop (mkF m 4 #[.val (.ref a1), .val (.int mn.toInt32), .unset] [(.ref u)]))
  refine goAlen Xt1 hx hZ et1 Y1 (n := kap.toInt32) (hb hby d_jdk_68_method_9_4) (own_len hk) ?_
  refine gAloadN Xt1 hx (hb hby d_jdk_68_method_9_5) rfl rfl ?_
  obtain ⟨Tt2, Xt2, et2, stt2⟩ := getF Xt1 hx hZ hown (host := "") (Or.inl (hw _ (List.mem_of_getElem? (i := 83) rfl))) Via.refl et1 C1 (g := (mkF m 6 #[.val (.ref a1), .val (.int mn.toInt32), .unset] [(.ref a1), (.int kap.toInt32)])) rfl rfl (hb hby d_jdk_68_method_9_6)
  refine go stt2 ?_
  show Goes p e below _ (Tt2.setTop (mkF m 9 #[.val (.ref a1), .val (.int mn.toInt32), .unset] [(.int (0 : Int32)), (.int kap.toInt32)]))
  refine gIshr Xt2 hx (hb hby d_jdk_68_method_9_9) ?_
  show Goes p e below _ (Tt2.setTop (mkF m 10 #[.val (.ref a1), .val (.int mn.toInt32), .unset] [(.int (kap.toInt32 >>> ((0 : Int32) &&& 31)))]))
  rw [own_shr0]
  show Goes p e below _ (Tt2.setTop (mkF m 10 #[.val (.ref a1), .val (.int mn.toInt32), .unset] [(.int kap.toInt32)]))
  refine gIstoreN Xt2 hx (hb hby d_jdk_68_method_9_10) (l' := #[.val (.ref a1), .val (.int mn.toInt32), .val (.int kap.toInt32)]) rfl ?_
  refine gIloadN Xt2 hx (hb hby d_jdk_68_method_9_11) rfl ?_
  refine gIloadN Xt2 hx (hb hby d_jdk_68_method_9_12) rfl ?_
  refine gIsub Xt2 hx (hb hby d_jdk_68_method_9_13) ?_
  by_cases g : kap < mn
  · have hx16 : (txt ++ pad).length = 16 := by omega
    refine gIfN Xt2 hx (hb hby d_jdk_68_method_9_14) (XT.i0_le_f ((own_gt0 (by omega) (by omega)).mpr g)) ?_
    show Goes p e below _ (Tt2.setTop (mkF m 17 #[.val (.ref a1), .val (.int mn.toInt32), .val (.int kap.toInt32)] []))
    refine gAloadN Xt2 hx (hb hby d_jdk_68_method_9_17) rfl rfl ?_
    refine gAloadN Xt2 hx (hb hby d_jdk_68_method_9_18) rfl rfl ?_
    obtain ⟨Tt3, Xt3, et3, stt3⟩ := getF Xt2 hx hZ hown (host := "") (Or.inl (hw _ (List.mem_of_getElem? (i := 81) rfl))) Via.refl et2 V1 (g := (mkF m 19 #[.val (.ref a1), .val (.int mn.toInt32), .val (.int kap.toInt32)] [(.ref a1), (.ref a1)])) rfl rfl (hb hby d_jdk_68_method_9_19)
    refine go stt3 ?_
    show Goes p e below _ (Tt3.setTop (mkF m 22 #[.val (.ref a1), .val (.int mn.toInt32), .val (.int kap.toInt32)] [(.ref u), (.ref a1)]))
    refine gAloadN Xt3 hx (hb hby d_jdk_68_method_9_22) rfl rfl ?_
    refine gIloadN Xt3 hx (hb hby d_jdk_68_method_9_23) rfl ?_
    refine goCallP2 Xt3 hx hZ hown (hw _ (List.mem_of_getElem? (i := 233) rfl)) (hw _ (List.mem_of_getElem? (i := 235) rfl)) (hw _ (List.mem_of_getElem? (i := 236) rfl)) (hw _ (List.mem_of_getElem? (i := 234) rfl)) (hw _ (List.mem_of_getElem? (i := 77) rfl)) (hw _ (List.mem_of_getElem? (i := 237) rfl)) (by decide) (rmNc l Z a0 hw a1 u (txt ++ pad) mn h0 O0 V1 C1 Y1 hx16 (by omega) h34) 2 (by decide) (by decide) et3 E1 (hsz rfl) [(.int mn.toInt32)] [(.ref u), (.ref a1)] pd_3 rfl rfl rfl (Nat.le_of_eq rfl) (hb hby d_jdk_68_method_9_24) (by decide) (by decide) (fun Tt4 vt4 Lt4 Xt4 qt4 => ?_)
    obtain ⟨rfl, N5, et4⟩ := qt4
    have N6 := Fr.app N0 N5
    show Goes p e below _ (Tt4.setTop (mkF m 27 #[.val (.ref a1), .val (.int mn.toInt32), .val (.int kap.toInt32)] [(.int (34 : Int32)), (.ref u), (.ref a1)]))
    refine gAloadN Xt4 hx (hb hby d_jdk_68_method_9_27) rfl rfl ?_
    obtain ⟨Tt7, Xt7, et7, stt7⟩ := getF Xt4 hx hZ hown (host := "") (Or.inl (hw _ (List.mem_of_getElem? (i := 83) rfl))) Via.refl et4 C1 (g := (mkF m 28 #[.val (.ref a1), .val (.int mn.toInt32), .val (.int kap.toInt32)] [(.ref a1), (.int (34 : Int32)), (.ref u), (.ref a1)])) rfl rfl (hb hby d_jdk_68_method_9_28)
    refine go stt7 ?_
    show Goes p e below _ (Tt7.setTop (mkF m 31 #[.val (.ref a1), .val (.int mn.toInt32), .val (.int kap.toInt32)] [(.int (0 : Int32)), (.int (34 : Int32)), (.ref u), (.ref a1)]))
    refine gIshl Xt7 hx (hb hby d_jdk_68_method_9_31) ?_
    show Goes p e below _ (Tt7.setTop (mkF m 32 #[.val (.ref a1), .val (.int mn.toInt32), .val (.int kap.toInt32)] [(.int ((34 : Int32) <<< ((0 : Int32) &&& 31))), (.ref u), (.ref a1)]))
    rw [own_shl0]
    show Goes p e below _ (Tt7.setTop (mkF m 32 #[.val (.ref a1), .val (.int mn.toInt32), .val (.int kap.toInt32)] [(.int (34 : Int32)), (.ref u), (.ref a1)]))
    have lt_a1_t8 := E1.lt
    have lt_u_t8 := Y1.lt
    refine goCallS Xt7 hx hZ hown (hw _ (List.mem_of_getElem? (i := 245) rfl)) (hw _ (List.mem_of_getElem? (i := 246) rfl)) (hw _ (List.mem_of_getElem? (i := 183) rfl)) (hw _ (List.mem_of_getElem? (i := 247) rfl)) (by decide) (rmCo l Z a0 hw (txt ++ pad) u h0 O0 Y1 hx16) 1 (by decide) (by decide) et7 (hsz rfl) [(.ref u), (.int (34 : Int32))] [(.ref a1)] pd_4 rfl rfl rfl (Nat.le_of_eq rfl) (hb hby d_jdk_68_method_9_32) (by decide) (by decide) (fun Tt8 vt8 Lt8 Xt8 qt8 => ?_)
    obtain ⟨ht8, et8⟩ : ∃ z, Tt8.heap = z := ⟨_, rfl⟩
    rw [et8] at qt8
    obtain ⟨un, rfl, N9, Kct8, pun, Yn, Xn⟩ := qt8
    have N10 := Fr.app N6 N9
    replace E1 := E1.keep Kct8
    replace V1 := V1.keep Kct8 nin0
    replace C1 := C1.keep Kct8 nin0
    replace N1 := N1.keep Kct8 nin0
    replace Y1 := Y1.keep Kct8 nin0
    replace X1 := X1.keep Kct8
    have O11 : Ext Z.heap ht8 := extK O0 Kct8 all0
    have K12 := K0.trans Kct8 all0
    have ne_a1_un : a1 ≠ un := Nat.ne_of_lt (Nat.lt_of_lt_of_le lt_a1_t8 pun)
    have ne_u_un : u ≠ un := Nat.ne_of_lt (Nat.lt_of_lt_of_le lt_u_t8 pun)
    have fr_un : Z.heap.size ≤ un := Nat.le_trans O0.1 pun
    have pa_un : h0.size ≤ un := Nat.le_trans K0.1 pun
    show Goes p e below _ (Tt8.setTop (mkF m 35 #[.val (.ref a1), .val (.int mn.toInt32), .val (.int kap.toInt32)] [(.ref un), (.ref a1)]))
    obtain ⟨Tt13, ht13, Xt13, et13, Wt13, stt13⟩ := putF Xt8 hx hZ hown (host := "") (Or.inl (hw _ (List.mem_of_getElem? (i := 81) rfl))) Via.refl et8 V1 E1 (Or.inl (hw _ (List.mem_of_getElem? (i := 82) rfl))) (hw _ (List.mem_of_getElem? (i := 68) rfl)) (ty := (.array .byte)) (by decide) rfl rfl (g := (mkF m 35 #[.val (.ref a1), .val (.int mn.toInt32), .val (.int kap.toInt32)] [(.ref un), (.ref a1)])) rfl rfl (hb hby d_jdk_68_method_9_35)
    refine go stt13 ?_
    have N14 := Fr.snoc Xt13 N10 fr1
    replace V1 := V1.same Wt13
    replace E1 := E1.wr Wt13
    replace C1 := C1.other Wt13 (Or.inr (slot_ne (Or.inl (hw _ (List.mem_of_getElem? (i := 84) rfl))) (Or.inl (hw _ (List.mem_of_getElem? (i := 82) rfl))) (by decide) (t := .byte) (by decide) (t' := (.array .byte)) (by decide)))
    replace N1 := N1.other Wt13 (Or.inr (slot_ne (Or.inl (hw _ (List.mem_of_getElem? (i := 106) rfl))) (Or.inl (hw _ (List.mem_of_getElem? (i := 82) rfl))) (by decide) (t := .int) (by decide) (t' := (.array .byte)) (by decide)))
    replace Y1 := Y1.other Wt13 (Ne.symm ne)
    replace X1 := X1.wr Wt13
    replace Yn := Yn.other Wt13 (Ne.symm ne_a1_un)
    replace Xn := Xn.wr Wt13
    have O15 : Ext Z.heap ht13 := extW O11 Wt13 fr1
    have K16 := K12.wr Wt13 (Or.inl (by simp))
    show Goes p e below _ (Tt13.setTop (mkF m 38 #[.val (.ref a1), .val (.int mn.toInt32), .val (.int kap.toInt32)] []))
    exact goRet0 Xt13 hx hret hlocks (hb hby d_jdk_68_method_9_38) (by decide) (by decide) et13 (⟨rfl, N14, K16, un, pad ++ List.replicate 18 0, 34, Or.inr pun, V1, C1, N1, by rw [← List.append_assoc]; exact Yn, Xn, by rw [← List.append_assoc, List.length_append, hx16, List.length_replicate], Or.inr rfl, h34⟩)
  · refine gIfY Xt2 hx (hb hby d_jdk_68_method_9_14) (pc' := 38) (XT.i0_le_t (fun q => g ((own_gt0 (by omega) (by omega)).mp q))) (by decide) (by decide) ?_
    show Goes p e below _ (Tt2.setTop (mkF m 38 #[.val (.ref a1), .val (.int mn.toInt32), .val (.int kap.toInt32)] []))
    exact goRet0 Xt2 hx hret hlocks (hb hby d_jdk_68_method_9_38) (by decide) (by decide) et2 (⟨rfl, N0, K0, u, pad, kap, Or.inl rfl, V1, C1, N1, Y1, X1, hk, hkk, by omega⟩)
theorem d_jdk_42_method_152_0 : decode jdk_42_method_152_code 0 = .ok (.getstatic 38, 3) := by decide +kernel
theorem d_jdk_42_method_152_3 : decode jdk_42_method_152_code 3 = .ok (.ifCond .eq 10, 3) := by decide +kernel
theorem d_jdk_42_method_152_6 : decode jdk_42_method_152_code 6 = .ok (.aload_n 0, 1) := by decide +kernel
theorem d_jdk_42_method_152_7 : decode jdk_42_method_152_code 7 = .ok (.getfield 15, 3) := by decide +kernel
theorem d_jdk_42_method_152_10 : decode jdk_42_method_152_code 10 = .ok (.goto 4, 3) := by decide +kernel
theorem d_jdk_42_method_152_14 : decode jdk_42_method_152_code 14 = .ok (.ireturn, 1) := by decide +kernel
theorem pn_4 : plainName "java/lang/String" = true := by first | (simp [plainName, overriddenIn]; done) | decide +kernel
theorem ef_rmCd (m : MethodId) (x0 : Addr) : entryFrame m #[(.ref x0)] 1 = mkF m 0 #[.val (.ref x0)] [] := by first | (simp [entryFrame, mkF, argsToLocals, Value.category]; done) | rfl
set_option maxRecDepth 65536 in
set_option maxHeartbeats 40000000 in
theorem rmCd (l : Launch) (Z : State) (a0 : Array Value) (hw : ∀ d ∈ tables_1, d.before a0 Z = true) (us : Addr) (sb : List Int8) (cs : Int32) (s1 : Addr) (h0 : Heap) (O0 : Ext Z.heap h0) (S_cs : Sta Z Z.heap "java/lang/String" "COMPACT_STRINGS" "Z" (.int cs)) (hcs : ¬ cs = 0) (Es : Exa Z h0 s1 "java/lang/String") (Sv : Fld Z h0 s1 "java/lang/String" "value" "[B" (.ref us)) (Sc : Fld Z h0 s1 "java/lang/String" "coder" "B" (.int (0 : Int32))) (Sy : Ary Z h0 us .byte (own_bv sb)) :
    Ctr l Z (⟨"java/lang/String", "coder", "()B"⟩ : MethodName) jdk_42_method_152_code 1 (some .byte) [] ({ frames := 0, cells := 0, slots := 0, locals := 0 } : Room) #[(.ref s1)] h0 (fun v h L => v = some (.int 0) ∧ Fr Z.heap.size L ∧ h = h0) := by
  refine ctr (plainFor_of_name pn_4) ?_
  intro p e s m below meth c s₁ hx hby hml hown hnm hret hlocks hZ X0 e0
  have N0 := Fr.nil Z.heap.size
  have hsz : ∀ {Ls : Array Slot}, Ls.size = 1 → Ls.size = c.maxLocals := fun q => q.trans hml.symm
  refine goE (ef_rmCd m (s1)) ?_
  show Goes p e below _ (s₁.setTop (mkF m 0 #[.val (.ref s1)] []))
  obtain ⟨Tt1, Xt1, et1, stt1⟩ := getS2 X0 hx hZ hown (host := "") (Or.inl (hw _ (List.mem_of_getElem? (i := 16) rfl))) Via.refl e0 (S_cs.ext O0) (g := (mkF m 0 #[.val (.ref s1)] [])) rfl (hb hby d_jdk_42_method_152_0)
  refine go stt1 ?_
  show Goes p e below _ (Tt1.setTop (mkF m 3 #[.val (.ref s1)] [(.int cs)]))
  refine gIfN Xt1 hx (hb hby d_jdk_42_method_152_3) (XT.i0_eq_f hcs) ?_
  show Goes p e below _ (Tt1.setTop (mkF m 6 #[.val (.ref s1)] []))
  refine gAloadN Xt1 hx (hb hby d_jdk_42_method_152_6) rfl rfl ?_
  obtain ⟨Tt2, Xt2, et2, stt2⟩ := getF Xt1 hx hZ hown (host := "") (Or.inl (hw _ (List.mem_of_getElem? (i := 28) rfl))) Via.refl et1 Sc (g := (mkF m 7 #[.val (.ref s1)] [(.ref s1)])) rfl rfl (hb hby d_jdk_42_method_152_7)
  refine go stt2 ?_
  show Goes p e below _ (Tt2.setTop (mkF m 10 #[.val (.ref s1)] [(.int (0 : Int32))]))
  refine gGoto Xt2 hx (hb hby d_jdk_42_method_152_10) (pc' := 14) (by decide) (by decide) ?_
  show Goes p e below _ (Tt2.setTop (mkF m 14 #[.val (.ref s1)] [(.int (0 : Int32))]))
  exact goRetN Xt2 hx (t := .byte) hret hlocks (by simp) (hb hby d_jdk_42_method_152_14) (z' := (0 : Int32)) rfl (by decide) (by decide) et2 (⟨rfl, N0, rfl⟩)
theorem d_jdk_42_method_54_0 : decode jdk_42_method_54_code 0 = .ok (.aload_n 0, 1) := by decide +kernel
theorem d_jdk_42_method_54_1 : decode jdk_42_method_54_code 1 = .ok (.getfield 9, 3) := by decide +kernel
theorem d_jdk_42_method_54_4 : decode jdk_42_method_54_code 4 = .ok (.arraylength, 1) := by decide +kernel
theorem d_jdk_42_method_54_5 : decode jdk_42_method_54_code 5 = .ok (.aload_n 0, 1) := by decide +kernel
theorem pd_5 : parseMethodDescriptor "()B" = some ⟨[], some .byte⟩ := by decide +kernel
theorem d_jdk_42_method_54_6 : decode jdk_42_method_54_code 6 = .ok (.invokevirtual 335, 3) := by decide +kernel
theorem d_jdk_42_method_54_9 : decode jdk_42_method_54_code 9 = .ok (.ishr, 1) := by decide +kernel
theorem d_jdk_42_method_54_10 : decode jdk_42_method_54_code 10 = .ok (.ireturn, 1) := by decide +kernel
theorem ef_rmLe (m : MethodId) (x0 : Addr) : entryFrame m #[(.ref x0)] 1 = mkF m 0 #[.val (.ref x0)] [] := by first | (simp [entryFrame, mkF, argsToLocals, Value.category]; done) | rfl
set_option maxRecDepth 65536 in
set_option maxHeartbeats 40000000 in
theorem rmLe (l : Launch) (Z : State) (a0 : Array Value) (hw : ∀ d ∈ tables_1, d.before a0 Z = true) (us : Addr) (sb : List Int8) (cs : Int32) (s1 : Addr) (h0 : Heap) (O0 : Ext Z.heap h0) (S_cs : Sta Z Z.heap "java/lang/String" "COMPACT_STRINGS" "Z" (.int cs)) (hcs : ¬ cs = 0) (Es : Exa Z h0 s1 "java/lang/String") (Sv : Fld Z h0 s1 "java/lang/String" "value" "[B" (.ref us)) (Sc : Fld Z h0 s1 "java/lang/String" "coder" "B" (.int (0 : Int32))) (Sy : Ary Z h0 us .byte (own_bv sb)) :
    Ctr l Z (⟨"java/lang/String", "length", "()I"⟩ : MethodName) jdk_42_method_54_code 1 (some .int) [] ({ frames := 1, cells := 0, slots := 0, locals := 13 } : Room) #[(.ref s1)] h0 (fun v h L => v = some (.int sb.length.toInt32) ∧ Fr Z.heap.size L ∧ h = h0) := by
  refine ctr (plainFor_of_name pn_4) ?_
  intro p e s m below meth c s₁ hx hby hml hown hnm hret hlocks hZ X0 e0
  have N0 := Fr.nil Z.heap.size
  have hsz : ∀ {Ls : Array Slot}, Ls.size = 1 → Ls.size = c.maxLocals := fun q => q.trans hml.symm
  refine goE (ef_rmLe m (s1)) ?_
  show Goes p e below _ (s₁.setTop (mkF m 0 #[.val (.ref s1)] []))
  refine gAloadN X0 hx (hb hby d_jdk_42_method_54_0) rfl rfl ?_
  obtain ⟨Tt1, Xt1, et1, stt1⟩ := getF X0 hx hZ hown (host := "") (Or.inl (hw _ (List.mem_of_getElem? (i := 30) rfl))) Via.refl e0 Sv (g := (mkF m 1 #[.val (.ref s1)] [(.ref s1)])) rfl rfl (hb hby d_jdk_42_method_54_1)
  refine go stt1 ?_
  show Goes p e below _ (Tt1.setTop (mkF m 4 #[.val (.ref s1)] [(.ref us)]))
  refine goAlen Xt1 hx hZ et1 Sy (n := sb.length.toInt32) (hb hby d_jdk_42_method_54_4) (own_len rfl) ?_
  refine gAloadN Xt1 hx (hb hby d_jdk_42_method_54_5) rfl rfl ?_
  refine goCallV Xt1 hx hZ hown (hw _ (List.mem_of_getElem? (i := 100) rfl)) (hw _ (List.mem_of_getElem? (i := 101) rfl)) (hw _ (List.mem_of_getElem? (i := 103) rfl)) (hw _ (List.mem_of_getElem? (i := 102) rfl)) (hw _ (List.mem_of_getElem? (i := 4) rfl)) (hw _ (List.mem_of_getElem? (i := 104) rfl)) (by decide) (rmCd l Z a0 hw us sb cs s1 h0 O0 S_cs hcs Es Sv Sc Sy) 1 (by decide) (by decide) et1 Es (hsz rfl) [] [(.int sb.length.toInt32)] pd_5 rfl rfl rfl (Nat.le_of_eq rfl) (hb hby d_jdk_42_method_54_6) (by decide) (by decide) (fun Tt2 vt2 Lt2 Xt2 qt2 => ?_)
  obtain ⟨rfl, N3, et2⟩ := qt2
  have N4 := Fr.app N0 N3
  show Goes p e below _ (Tt2.setTop (mkF m 9 #[.val (.ref s1)] [(.int (0 : Int32)), (.int sb.length.toInt32)]))
  refine gIshr Xt2 hx (hb hby d_jdk_42_method_54_9) ?_
  show Goes p e below _ (Tt2.setTop (mkF m 10 #[.val (.ref s1)] [(.int (sb.length.toInt32 >>> ((0 : Int32) &&& 31)))]))
  rw [own_shr0]
  show Goes p e below _ (Tt2.setTop (mkF m 10 #[.val (.ref s1)] [(.int sb.length.toInt32)]))
  exact goRetI Xt2 hx hret hlocks (hb hby d_jdk_42_method_54_10) (by decide) (by decide) et2 (⟨rfl, N4, rfl⟩)
theorem d_jdk_42_method_147_0 : decode jdk_42_method_147_code 0 = .ok (.aload_n 0, 1) := by decide +kernel
theorem d_jdk_42_method_147_1 : decode jdk_42_method_147_code 1 = .ok (.invokevirtual 335, 3) := by decide +kernel
theorem d_jdk_42_method_147_4 : decode jdk_42_method_147_code 4 = .ok (.iload_n 3, 1) := by decide +kernel
theorem d_jdk_42_method_147_5 : decode jdk_42_method_147_code 5 = .ok (.if_icmp .ne 23, 3) := by decide +kernel
theorem d_jdk_42_method_147_8 : decode jdk_42_method_147_code 8 = .ok (.aload_n 0, 1) := by decide +kernel
theorem d_jdk_42_method_147_9 : decode jdk_42_method_147_code 9 = .ok (.getfield 9, 3) := by decide +kernel
theorem d_jdk_42_method_147_12 : decode jdk_42_method_147_code 12 = .ok (.iconst 0, 1) := by decide +kernel
theorem d_jdk_42_method_147_13 : decode jdk_42_method_147_code 13 = .ok (.aload_n 1, 1) := by decide +kernel
theorem d_jdk_42_method_147_14 : decode jdk_42_method_147_code 14 = .ok (.iload_n 2, 1) := by decide +kernel
theorem d_jdk_42_method_147_15 : decode jdk_42_method_147_code 15 = .ok (.iload_n 3, 1) := by decide +kernel
theorem d_jdk_42_method_147_16 : decode jdk_42_method_147_code 16 = .ok (.ishl, 1) := by decide +kernel
theorem d_jdk_42_method_147_17 : decode jdk_42_method_147_code 17 = .ok (.aload_n 0, 1) := by decide +kernel
theorem d_jdk_42_method_147_18 : decode jdk_42_method_147_code 18 = .ok (.getfield 9, 3) := by decide +kernel
theorem d_jdk_42_method_147_21 : decode jdk_42_method_147_code 21 = .ok (.arraylength, 1) := by decide +kernel
theorem d_jdk_42_method_147_22 : decode jdk_42_method_147_code 22 = .ok (.invokestatic 212, 3) := by decide +kernel
theorem d_jdk_42_method_147_25 : decode jdk_42_method_147_code 25 = .ok (.goto 18, 3) := by decide +kernel
theorem d_jdk_42_method_147_43 : decode jdk_42_method_147_code 43 = .ok (.return_, 1) := by decide +kernel
theorem ef_rmGb (m : MethodId) (x0 : Addr) (x1 : Addr) (x2 : Int32) (x3 : Int32) : entryFrame m #[(.ref x0), (.ref x1), (.int x2), (.int x3)] 4 = mkF m 0 #[.val (.ref x0), .val (.ref x1), .val (.int x2), .val (.int x3)] [] := by first | (simp [entryFrame, mkF, argsToLocals, Value.category]; done) | rfl
set_option maxRecDepth 65536 in
set_option maxHeartbeats 40000000 in
theorem rmGb (l : Launch) (Z : State) (a0 : Array Value) (hw : ∀ d ∈ tables_1, d.before a0 Z = true) (us : Addr) (sb : List Int8) (cs : Int32) (ys : List Int8) (i : Nat) (s1 : Addr) (d1 : Addr) (h0 : Heap) (O0 : Ext Z.heap h0) (S_cs : Sta Z Z.heap "java/lang/String" "COMPACT_STRINGS" "Z" (.int cs)) (hcs : ¬ cs = 0) (Es : Exa Z h0 s1 "java/lang/String") (Sv : Fld Z h0 s1 "java/lang/String" "value" "[B" (.ref us)) (Sc : Fld Z h0 s1 "java/lang/String" "coder" "B" (.int (0 : Int32))) (Sy : Ary Z h0 us .byte (own_bv sb)) (Yd : Ary Z h0 d1 .byte (own_bv ys)) (hi : i + sb.length ≤ ys.length) (nd : s1 ≠ d1) (nu : us ≠ d1) (frd : Z.heap.size ≤ d1) :
    Ctr l Z (⟨"java/lang/String", "getBytes", "([BIB)V"⟩ : MethodName) jdk_42_method_147_code 4 none [] ({ frames := 1, cells := 0, slots := 0, locals := 18 } : Room) #[(.ref s1), (.ref d1), (.int i.toInt32), (.int (0 : Int32))] h0 (fun v h L => v = none ∧ Fr Z.heap.size L ∧ Keep h0 h [d1] ∧ Ary Z h d1 .byte (own_bv (ys.take i ++ (sb ++ ys.drop (i + sb.length))))) := by
  refine ctr (plainFor_of_name pn_4) ?_
  intro p e s m below meth c s₁ hx hby hml hown hnm hret hlocks hZ X0 e0
  have N0 := Fr.nil Z.heap.size
  have hsz : ∀ {Ls : Array Slot}, Ls.size = 4 → Ls.size = c.maxLocals := fun q => q.trans hml.symm
  have K0 := Keep.refl h0 [d1]
  refine goE (ef_rmGb m (s1) (d1) (i.toInt32) ((0 : Int32))) ?_
  show Goes p e below _ (s₁.setTop (mkF m 0 #[.val (.ref s1), .val (.ref d1), .val (.int i.toInt32), .val (.int (0 : Int32))] []))
  refine gAloadN X0 hx (hb hby d_jdk_42_method_147_0) rfl rfl ?_
  refine goCallV X0 hx hZ hown (hw _ (List.mem_of_getElem? (i := 100) rfl)) (hw _ (List.mem_of_getElem? (i := 101) rfl)) (hw _ (List.mem_of_getElem? (i := 103) rfl)) (hw _ (List.mem_of_getElem? (i := 102) rfl)) (hw _ (List.mem_of_getElem? (i := 4) rfl)) (hw _ (List.mem_of_getElem? (i := 104) rfl)) (by decide) (rmCd l Z a0 hw us sb cs s1 h0 O0 S_cs hcs Es Sv Sc Sy) 0 (by decide) (by decide) e0 Es (hsz rfl) [] [] pd_5 rfl rfl rfl (Nat.le_of_eq rfl) (hb hby d_jdk_42_method_147_1) (by decide) (by decide) (fun Tt1 vt1 Lt1 Xt1 qt1 => ?_)
  obtain ⟨rfl, N2, et1⟩ := qt1
  have N3 := Fr.app N0 N2
  show Goes p e below _ (Tt1.setTop (mkF m 4 #[.val (.ref s1), .val (.ref d1), .val (.int i.toInt32), .val (.int (0 : Int32))] [(.int (0 : Int32))]))
  refine gIloadN Xt1 hx (hb hby d_jdk_42_method_147_4) rfl ?_
  refine gIcmpN Xt1 hx (hb hby d_jdk_42_method_147_5) (XT.ii_ne_f rfl) ?_
  show Goes p e below _ (Tt1.setTop (mkF m 8 #[.val (.ref s1), .val (.ref d1), .val (.int i.toInt32), .val (.int (0 : Int32))] []))
  refine gAloadN Xt1 hx (hb hby d_jdk_42_method_147_8) rfl rfl ?_
  obtain ⟨Tt4, Xt4, et4, stt4⟩ := getF Xt1 hx hZ hown (host := "") (Or.inl (hw _ (List.mem_of_getElem? (i := 30) rfl))) Via.refl et1 Sv (g := (mkF m 9 #[.val (.ref s1), .val (.ref d1), .val (.int i.toInt32), .val (.int (0 : Int32))] [(.ref s1)])) rfl rfl (hb hby d_jdk_42_method_147_9)
  refine go stt4 ?_
  show Goes p e below _ (Tt4.setTop (mkF m 12 #[.val (.ref s1), .val (.ref d1), .val (.int i.toInt32), .val (.int (0 : Int32))] [(.ref us)]))
  refine gIconst Xt4 hx (hb hby d_jdk_42_method_147_12) (v := (0 : Int32)) rfl ?_
  refine gAloadN Xt4 hx (hb hby d_jdk_42_method_147_13) rfl rfl ?_
  refine gIloadN Xt4 hx (hb hby d_jdk_42_method_147_14) rfl ?_
  refine gIloadN Xt4 hx (hb hby d_jdk_42_method_147_15) rfl ?_
  refine gIshl Xt4 hx (hb hby d_jdk_42_method_147_16) ?_
  show Goes p e below _ (Tt4.setTop (mkF m 17 #[.val (.ref s1), .val (.ref d1), .val (.int i.toInt32), .val (.int (0 : Int32))] [(.int (i.toInt32 <<< ((0 : Int32) &&& 31))), (.ref d1), (.int (0 : Int32)), (.ref us)]))
  rw [own_shl0]
  show Goes p e below _ (Tt4.setTop (mkF m 17 #[.val (.ref s1), .val (.ref d1), .val (.int i.toInt32), .val (.int (0 : Int32))] [(.int i.toInt32), (.ref d1), (.int (0 : Int32)), (.ref us)]))
  refine gAloadN Xt4 hx (hb hby d_jdk_42_method_147_17) rfl rfl ?_
  obtain ⟨Tt5, Xt5, et5, stt5⟩ := getF Xt4 hx hZ hown (host := "") (Or.inl (hw _ (List.mem_of_getElem? (i := 30) rfl))) Via.refl et4 Sv (g := (mkF m 18 #[.val (.ref s1), .val (.ref d1), .val (.int i.toInt32), .val (.int (0 : Int32))] [(.ref s1), (.int i.toInt32), (.ref d1), (.int (0 : Int32)), (.ref us)])) rfl rfl (hb hby d_jdk_42_method_147_18)
  refine go stt5 ?_
  show Goes p e below _ (Tt5.setTop (mkF m 21 #[.val (.ref s1), .val (.ref d1), .val (.int i.toInt32), .val (.int (0 : Int32))] [(.ref us), (.int i.toInt32), (.ref d1), (.int (0 : Int32)), (.ref us)]))
  refine goAlen Xt5 hx hZ et5 Sy (n := sb.length.toInt32) (hb hby d_jdk_42_method_147_21) (own_len rfl) ?_
  refine goCopy Xt5 hx hZ hown (hw _ (List.mem_of_getElem? (i := 128) rfl)) (hw _ (List.mem_of_getElem? (i := 129) rfl)) (hw _ (List.mem_of_getElem? (i := 130) rfl)) (hw _ (List.mem_of_getElem? (i := 131) rfl)) et5 Sy Yd 0 i sb.length (by omega) hi (ys.take i ++ (sb ++ ys.drop (i + sb.length))) (by simp) rfl rfl rfl 0 (by decide) (by decide) (hsz rfl) (Nat.le_of_eq rfl) (hb hby d_jdk_42_method_147_22) (fun Tt6 ht6 Lt6 Xt6 et6 Lbt6 Kct6 Yct6 => ?_)
  have N7 := Fr.app N3 (fun y q => by rw [Lbt6 y q]; exact frd)
  replace Es := Es.keep Kct6
  replace Sv := Sv.keep Kct6 (ninS nd nin0)
  replace Sc := Sc.keep Kct6 (ninS nd nin0)
  replace Sy := Sy.keep Kct6 (ninS nu nin0)
  have O8 : Ext Z.heap ht6 := extK O0 Kct6 (allS frd all0)
  have K9 := K0.trans Kct6 (allS (Or.inl (by simp)) all0)
  show Goes p e below _ (Tt6.setTop (mkF m 25 #[.val (.ref s1), .val (.ref d1), .val (.int i.toInt32), .val (.int (0 : Int32))] []))
  refine gGoto Xt6 hx (hb hby d_jdk_42_method_147_25) (pc' := 43) (by decide) (by decide) ?_
  show Goes p e below _ (Tt6.setTop (mkF m 43 #[.val (.ref s1), .val (.ref d1), .val (.int i.toInt32), .val (.int (0 : Int32))] []))
  exact goRet0 Xt6 hx hret hlocks (hb hby d_jdk_42_method_147_43) (by decide) (by decide) et6 (⟨rfl, N7, K9, Yct6⟩)
theorem d_jdk_68_method_71_0 : decode jdk_68_method_71_code 0 = .ok (.getstatic 18, 3) := by decide +kernel
theorem d_jdk_68_method_71_3 : decode jdk_68_method_71_code 3 = .ok (.ifCond .eq 18, 3) := by decide +kernel
theorem d_jdk_68_method_71_6 : decode jdk_68_method_71_code 6 = .ok (.aload_n 0, 1) := by decide +kernel
theorem d_jdk_68_method_71_7 : decode jdk_68_method_71_code 7 = .ok (.getfield 22, 3) := by decide +kernel
theorem d_jdk_68_method_71_10 : decode jdk_68_method_71_code 10 = .ok (.aload_n 1, 1) := by decide +kernel
theorem d_jdk_68_method_71_11 : decode jdk_68_method_71_code 11 = .ok (.invokevirtual 40, 3) := by decide +kernel
theorem d_jdk_68_method_71_14 : decode jdk_68_method_71_code 14 = .ok (.if_icmp .eq 7, 3) := by decide +kernel
theorem d_jdk_68_method_71_21 : decode jdk_68_method_71_code 21 = .ok (.return_, 1) := by decide +kernel
theorem ef_rmIf (m : MethodId) (x0 : Addr) (x1 : Addr) : entryFrame m #[(.ref x0), (.ref x1)] 2 = mkF m 0 #[.val (.ref x0), .val (.ref x1)] [] := by first | (simp [entryFrame, mkF, argsToLocals, Value.category]; done) | rfl
set_option maxRecDepth 65536 in
set_option maxHeartbeats 40000000 in
theorem rmIf (l : Launch) (Z : State) (a0 : Array Value) (hw : ∀ d ∈ tables_1, d.before a0 Z = true) (us : Addr) (sb : List Int8) (cs : Int32) (a1 : Addr) (s1 : Addr) (h0 : Heap) (O0 : Ext Z.heap h0) (S_cs : Sta Z Z.heap "java/lang/String" "COMPACT_STRINGS" "Z" (.int cs)) (hcs : ¬ cs = 0) (Es : Exa Z h0 s1 "java/lang/String") (Sv : Fld Z h0 s1 "java/lang/String" "value" "[B" (.ref us)) (Sc : Fld Z h0 s1 "java/lang/String" "coder" "B" (.int (0 : Int32))) (Sy : Ary Z h0 us .byte (own_bv sb)) (C1 : Fld Z h0 a1 "java/lang/AbstractStringBuilder" "coder" "B" (.int (0 : Int32))) :
    Ctr l Z (⟨"java/lang/AbstractStringBuilder", "inflateIfNeededFor", "(Ljava/lang/String;)V"⟩ : MethodName) jdk_68_method_71_code 2 none [] ({ frames := 1, cells := 0, slots := 0, locals := 13 } : Room) #[(.ref a1), (.ref s1)] h0 (fun v h L => v = none ∧ Fr Z.heap.size L ∧ h = h0) := by
  refine ctr (plainFor_of_name pn_0) ?_
  intro p e s m below meth c s₁ hx hby hml hown hnm hret hlocks hZ X0 e0
  have N0 := Fr.nil Z.heap.size
  have hsz : ∀ {Ls : Array Slot}, Ls.size = 2 → Ls.size = c.maxLocals := fun q => q.trans hml.symm
  refine goE (ef_rmIf m (a1) (s1)) ?_
  show Goes p e below _ (s₁.setTop (mkF m 0 #[.val (.ref a1), .val (.ref s1)] []))
  obtain ⟨Tt1, Xt1, et1, stt1⟩ := getS2 X0 hx hZ hown (host := "") (Or.inl (hw _ (List.mem_of_getElem? (i := 80) rfl))) Via.refl e0 (S_cs.ext O0) (g := (mkF m 0 #[.val (.ref a1), .val (.ref s1)] [])) rfl (hb hby d_jdk_68_method_71_0)
  refine go stt1 ?_
  show Goes p e below _ (Tt1.setTop (mkF m 3 #[.val (.ref a1), .val (.ref s1)] [(.int cs)]))
  refine gIfN Xt1 hx (hb hby d_jdk_68_method_71_3) (XT.i0_eq_f hcs) ?_
  show Goes p e below _ (Tt1.setTop (mkF m 6 #[.val (.ref a1), .val (.ref s1)] []))
  refine gAloadN Xt1 hx (hb hby d_jdk_68_method_71_6) rfl rfl ?_
  obtain ⟨Tt2, Xt2, et2, stt2⟩ := getF Xt1 hx hZ hown (host := "") (Or.inl (hw _ (List.mem_of_getElem? (i := 83) rfl))) Via.refl et1 C1 (g := (mkF m 7 #[.val (.ref a1), .val (.ref s1)] [(.ref a1)])) rfl rfl (hb hby d_jdk_68_method_71_7)
  refine go stt2 ?_
  show Goes p e below _ (Tt2.setTop (mkF m 10 #[.val (.ref a1), .val (.ref s1)] [(.int (0 : Int32))]))
  refine gAloadN Xt2 hx (hb hby d_jdk_68_method_71_10) rfl rfl ?_
  refine goCallV Xt2 hx hZ hown (hw _ (List.mem_of_getElem? (i := 122) rfl)) (hw _ (List.mem_of_getElem? (i := 101) rfl)) (hw _ (List.mem_of_getElem? (i := 103) rfl)) (hw _ (List.mem_of_getElem? (i := 102) rfl)) (hw _ (List.mem_of_getElem? (i := 4) rfl)) (hw _ (List.mem_of_getElem? (i := 104) rfl)) (by decide) (rmCd l Z a0 hw us sb cs s1 h0 O0 S_cs hcs Es Sv Sc Sy) 1 (by decide) (by decide) et2 Es (hsz rfl) [] [(.int (0 : Int32))] pd_5 rfl rfl rfl (Nat.le_of_eq rfl) (hb hby d_jdk_68_method_71_11) (by decide) (by decide) (fun Tt3 vt3 Lt3 Xt3 qt3 => ?_)
  obtain ⟨rfl, N4, et3⟩ := qt3
  have N5 := Fr.app N0 N4
  show Goes p e below _ (Tt3.setTop (mkF m 14 #[.val (.ref a1), .val (.ref s1)] [(.int (0 : Int32)), (.int (0 : Int32))]))
  refine gIcmpY Xt3 hx (hb hby d_jdk_68_method_71_14) (pc' := 21) (XT.ii_eq_t rfl) (by decide) (by decide) ?_
  show Goes p e below _ (Tt3.setTop (mkF m 21 #[.val (.ref a1), .val (.ref s1)] []))
  exact goRet0 Xt3 hx hret hlocks (hb hby d_jdk_68_method_71_21) (by decide) (by decide) et3 (⟨rfl, N5, rfl⟩)
theorem d_jdk_68_method_73_0 : decode jdk_68_method_73_code 0 = .ok (.aload_n 0, 1) := by decide +kernel
theorem d_jdk_68_method_73_1 : decode jdk_68_method_73_code 1 = .ok (.aload_n 2, 1) := by decide +kernel
theorem pd_6 : parseMethodDescriptor "(Ljava/lang/String;)V" = some ⟨[(.object "java/lang/String")], none⟩ := by decide +kernel
theorem d_jdk_68_method_73_2 : decode jdk_68_method_73_code 2 = .ok (.invokevirtual 397, 3) := by decide +kernel
theorem d_jdk_68_method_73_5 : decode jdk_68_method_73_code 5 = .ok (.aload_n 2, 1) := by decide +kernel
theorem d_jdk_68_method_73_6 : decode jdk_68_method_73_code 6 = .ok (.aload_n 0, 1) := by decide +kernel
theorem d_jdk_68_method_73_7 : decode jdk_68_method_73_code 7 = .ok (.getfield 15, 3) := by decide +kernel
theorem d_jdk_68_method_73_10 : decode jdk_68_method_73_code 10 = .ok (.iload_n 1, 1) := by decide +kernel
theorem d_jdk_68_method_73_11 : decode jdk_68_method_73_code 11 = .ok (.aload_n 0, 1) := by decide +kernel
theorem d_jdk_68_method_73_12 : decode jdk_68_method_73_code 12 = .ok (.getfield 22, 3) := by decide +kernel
theorem pd_7 : parseMethodDescriptor "([BIB)V" = some ⟨[(.array .byte), .int, .byte], none⟩ := by decide +kernel
theorem d_jdk_68_method_73_15 : decode jdk_68_method_73_code 15 = .ok (.invokevirtual 399, 3) := by decide +kernel
theorem d_jdk_68_method_73_18 : decode jdk_68_method_73_code 18 = .ok (.return_, 1) := by decide +kernel
theorem ef_rmPs (m : MethodId) (x0 : Addr) (x1 : Int32) (x2 : Addr) : entryFrame m #[(.ref x0), (.int x1), (.ref x2)] 3 = mkF m 0 #[.val (.ref x0), .val (.int x1), .val (.ref x2)] [] := by first | (simp [entryFrame, mkF, argsToLocals, Value.category]; done) | rfl
set_option maxRecDepth 65536 in
set_option maxHeartbeats 40000000 in
theorem rmPs (l : Launch) (Z : State) (a0 : Array Value) (hw : ∀ d ∈ tables_1, d.before a0 Z = true) (a1 u : Addr) (txt pad : List Int8) (kap : Nat) (s1 : Addr) (us : Addr) (sb : List Int8) (cs : Int32)  (h0 : Heap) (O0 : Ext Z.heap h0) (S_cs : Sta Z Z.heap "java/lang/String" "COMPACT_STRINGS" "Z" (.int cs)) (hcs : ¬ cs = 0) (Es : Exa Z h0 s1 "java/lang/String") (Sv : Fld Z h0 s1 "java/lang/String" "value" "[B" (.ref us)) (Sc : Fld Z h0 s1 "java/lang/String" "coder" "B" (.int (0 : Int32))) (Sy : Ary Z h0 us .byte (own_bv sb)) (E1 : Exa Z h0 a1 "java/lang/StringBuilder") (V1 : Fld Z h0 a1 "java/lang/AbstractStringBuilder" "value" "[B" (.ref u)) (C1 : Fld Z h0 a1 "java/lang/AbstractStringBuilder" "coder" "B" (.int (0 : Int32))) (N1 : Fld Z h0 a1 "java/lang/AbstractStringBuilder" "count" "I" (.int txt.length.toInt32)) (Y1 : Ary Z h0 u .byte (own_bv (txt ++ pad))) (X1 : Exa Z h0 u "[B") (hk : (txt ++ pad).length = kap) (hkk : kap = 16 ∨ kap = 34) (ne : a1 ≠ u) (fr1 : Z.heap.size ≤ a1) (fr2 : Z.heap.size ≤ u) (n1 : s1 ≠ a1) (n2 : s1 ≠ u) (n3 : us ≠ a1) (n4 : us ≠ u) (hfit : txt.length + sb.length ≤ kap) :
    Ctr l Z (⟨"java/lang/AbstractStringBuilder", "putStringAt", "(ILjava/lang/String;)V"⟩ : MethodName) jdk_68_method_73_code 3 none [] ({ frames := 2, cells := 0, slots := 0, locals := 34 } : Room) #[(.ref a1), (.int txt.length.toInt32), (.ref s1)] h0 (fun v h L => v = none ∧ Fr Z.heap.size L ∧ Keep h0 h [u] ∧ Ary Z h u .byte (own_bv ((txt ++ sb) ++ pad.drop sb.length))) := by
  refine ctr (plainFor_of_name pn_0) ?_
  intro p e s m below meth c s₁ hx hby hml hown hnm hret hlocks hZ X0 e0
  have N0 := Fr.nil Z.heap.size
  have hsz : ∀ {Ls : Array Slot}, Ls.size = 3 → Ls.size = c.maxLocals := fun q => q.trans hml.symm
  have K0 := Keep.refl h0 [u]
  refine goE (ef_rmPs m (a1) (txt.length.toInt32) (s1)) ?_
  show Goes p e below _ (s₁.setTop (mkF m 0 #[.val (.ref a1), .val (.int txt.length.toInt32), .val (.ref s1)] []))
  refine gAloadN X0 hx (hb hby d_jdk_68_method_73_0) rfl rfl ?_
  refine gAloadN X0 hx (hb hby d_jdk_68_method_73_1) rfl rfl ?_
  refine goCallP2 X0 hx hZ hown (hw _ (List.mem_of_getElem? (i := 117) rfl)) (hw _ (List.mem_of_getElem? (i := 119) rfl)) (hw _ (List.mem_of_getElem? (i := 120) rfl)) (hw _ (List.mem_of_getElem? (i := 118) rfl)) (hw _ (List.mem_of_getElem? (i := 77) rfl)) (hw _ (List.mem_of_getElem? (i := 121) rfl)) (by decide) (rmIf l Z a0 hw us sb cs a1 s1 h0 O0 S_cs hcs Es Sv Sc Sy C1) 0 (by decide) (by decide) e0 E1 (hsz rfl) [(.ref s1)] [] pd_6 rfl rfl rfl (Nat.le_of_eq rfl) (hb hby d_jdk_68_method_73_2) (by decide) (by decide) (fun Tt1 vt1 Lt1 Xt1 qt1 => ?_)
  obtain ⟨rfl, N2, et1⟩ := qt1
  have N3 := Fr.app N0 N2
  show Goes p e below _ (Tt1.setTop (mkF m 5 #[.val (.ref a1), .val (.int txt.length.toInt32), .val (.ref s1)] []))
  refine gAloadN Xt1 hx (hb hby d_jdk_68_method_73_5) rfl rfl ?_
  refine gAloadN Xt1 hx (hb hby d_jdk_68_method_73_6) rfl rfl ?_
  obtain ⟨Tt4, Xt4, et4, stt4⟩ := getF Xt1 hx hZ hown (host := "") (Or.inl (hw _ (List.mem_of_getElem? (i := 81) rfl))) Via.refl et1 V1 (g := (mkF m 7 #[.val (.ref a1), .val (.int txt.length.toInt32), .val (.ref s1)] [(.ref a1), (.ref s1)])) rfl rfl (hb hby d_jdk_68_method_73_7)
  refine go stt4 ?_
  show Goes p e below _ (Tt4.setTop (mkF m 10 #[.val (.ref a1), .val (.int txt.length.toInt32), .val (.ref s1)] [(.ref u), (.ref s1)]))
  refine gIloadN Xt4 hx (hb hby d_jdk_68_method_73_10) rfl ?_
  refine gAloadN Xt4 hx (hb hby d_jdk_68_method_73_11) rfl rfl ?_
  obtain ⟨Tt5, Xt5, et5, stt5⟩ := getF Xt4 hx hZ hown (host := "") (Or.inl (hw _ (List.mem_of_getElem? (i := 83) rfl))) Via.refl et4 C1 (g := (mkF m 12 #[.val (.ref a1), .val (.int txt.length.toInt32), .val (.ref s1)] [(.ref a1), (.int txt.length.toInt32), (.ref u), (.ref s1)])) rfl rfl (hb hby d_jdk_68_method_73_12)
  refine go stt5 ?_
  show Goes p e below _ (Tt5.setTop (mkF m 15 #[.val (.ref a1), .val (.int txt.length.toInt32), .val (.ref s1)] [(.int (0 : Int32)), (.int txt.length.toInt32), (.ref u), (.ref s1)]))
  refine goCallV Xt5 hx hZ hown (hw _ (List.mem_of_getElem? (i := 123) rfl)) (hw _ (List.mem_of_getElem? (i := 124) rfl)) (hw _ (List.mem_of_getElem? (i := 126) rfl)) (hw _ (List.mem_of_getElem? (i := 125) rfl)) (hw _ (List.mem_of_getElem? (i := 4) rfl)) (hw _ (List.mem_of_getElem? (i := 127) rfl)) (by decide) (rmGb l Z a0 hw us sb cs (txt ++ pad) txt.length s1 u h0 O0 S_cs hcs Es Sv Sc Sy Y1 (by omega) n2 n4 fr2) 0 (by decide) (by decide) et5 Es (hsz rfl) [(.ref u), (.int txt.length.toInt32), (.int (0 : Int32))] [] pd_7 rfl rfl rfl (Nat.le_of_eq rfl) (hb hby d_jdk_68_method_73_15) (by decide) (by decide) (fun Tt6 vt6 Lt6 Xt6 qt6 => ?_)
  obtain ⟨ht6, et6⟩ : ∃ z, Tt6.heap = z := ⟨_, rfl⟩
  rw [et6] at qt6
  obtain ⟨rfl, N7, Kct6, Yg⟩ := qt6
  have N8 := Fr.app N3 N7
  replace Es := Es.keep Kct6
  replace Sv := Sv.keep Kct6 (ninS n2 nin0)
  replace Sc := Sc.keep Kct6 (ninS n2 nin0)
  replace Sy := Sy.keep Kct6 (ninS n4 nin0)
  replace E1 := E1.keep Kct6
  replace V1 := V1.keep Kct6 (ninS ne nin0)
  replace C1 := C1.keep Kct6 (ninS ne nin0)
  replace N1 := N1.keep Kct6 (ninS ne nin0)
  replace X1 := X1.keep Kct6
  have O9 : Ext Z.heap ht6 := extK O0 Kct6 (allS fr2 all0)
  have K10 := K0.trans Kct6 (allS (Or.inl (by simp)) all0)
  show Goes p e below _ (Tt6.setTop (mkF m 18 #[.val (.ref a1), .val (.int txt.length.toInt32), .val (.ref s1)] []))
  exact goRet0 Xt6 hx hret hlocks (hb hby d_jdk_68_method_73_18) (by decide) (by decide) et6 (⟨rfl, N8, K10, by
      have e : (txt ++ pad).take txt.length ++ (sb ++ (txt ++ pad).drop (txt.length + sb.length)) = (txt ++ sb) ++ pad.drop sb.length := by simp [List.drop_append]
      rw [← e]; exact Yg⟩)
theorem d_jdk_68_method_22_0 : decode jdk_68_method_22_code 0 = .ok (.aload_n 1, 1) := by decide +kernel
theorem d_jdk_68_method_22_1 : decode jdk_68_method_22_code 1 = .ok (.ifnonnull 8, 3) := by decide +kernel
theorem d_jdk_68_method_22_9 : decode jdk_68_method_22_code 9 = .ok (.aload_n 1, 1) := by decide +kernel
theorem pd_8 : parseMethodDescriptor "()I" = some ⟨[], some .int⟩ := by decide +kernel
theorem d_jdk_68_method_22_10 : decode jdk_68_method_22_code 10 = .ok (.invokevirtual 32, 3) := by decide +kernel
theorem d_jdk_68_method_22_13 : decode jdk_68_method_22_code 13 = .ok (.istore_n 2, 1) := by decide +kernel
theorem d_jdk_68_method_22_14 : decode jdk_68_method_22_code 14 = .ok (.aload_n 0, 1) := by decide +kernel
theorem d_jdk_68_method_22_15 : decode jdk_68_method_22_code 15 = .ok (.aload_n 0, 1) := by decide +kernel
theorem d_jdk_68_method_22_16 : decode jdk_68_method_22_code 16 = .ok (.getfield 79, 3) := by decide +kernel
theorem d_jdk_68_method_22_19 : decode jdk_68_method_22_code 19 = .ok (.iload_n 2, 1) := by decide +kernel
theorem d_jdk_68_method_22_20 : decode jdk_68_method_22_code 20 = .ok (.iadd, 1) := by decide +kernel
theorem d_jdk_68_method_22_21 : decode jdk_68_method_22_code 21 = .ok (.invokevirtual 100, 3) := by decide +kernel
theorem d_jdk_68_method_22_24 : decode jdk_68_method_22_code 24 = .ok (.aload_n 0, 1) := by decide +kernel
theorem d_jdk_68_method_22_25 : decode jdk_68_method_22_code 25 = .ok (.aload_n 0, 1) := by decide +kernel
theorem d_jdk_68_method_22_26 : decode jdk_68_method_22_code 26 = .ok (.getfield 79, 3) := by decide +kernel
theorem d_jdk_68_method_22_29 : decode jdk_68_method_22_code 29 = .ok (.aload_n 1, 1) := by decide +kernel
theorem pd_9 : parseMethodDescriptor "(ILjava/lang/String;)V" = some ⟨[.int, (.object "java/lang/String")], none⟩ := by decide +kernel
theorem d_jdk_68_method_22_30 : decode jdk_68_method_22_code 30 = .ok (.invokevirtual 208, 3) := by decide +kernel
theorem d_jdk_68_method_22_33 : decode jdk_68_method_22_code 33 = .ok (.aload_n 0, 1) := by decide +kernel
theorem d_jdk_68_method_22_34 : decode jdk_68_method_22_code 34 = .ok (.dup, 1) := by decide +kernel
theorem d_jdk_68_method_22_35 : decode jdk_68_method_22_code 35 = .ok (.getfield 79, 3) := by decide +kernel
theorem d_jdk_68_method_22_38 : decode jdk_68_method_22_code 38 = .ok (.iload_n 2, 1) := by decide +kernel
theorem d_jdk_68_method_22_39 : decode jdk_68_method_22_code 39 = .ok (.iadd, 1) := by decide +kernel
theorem d_jdk_68_method_22_40 : decode jdk_68_method_22_code 40 = .ok (.putfield 79, 3) := by decide +kernel
theorem d_jdk_68_method_22_43 : decode jdk_68_method_22_code 43 = .ok (.aload_n 0, 1) := by decide +kernel
theorem d_jdk_68_method_22_44 : decode jdk_68_method_22_code 44 = .ok (.areturn, 1) := by decide +kernel
theorem ef_rmAp (m : MethodId) (x0 : Addr) (x1 : Addr) : entryFrame m #[(.ref x0), (.ref x1)] 3 = mkF m 0 #[.val (.ref x0), .val (.ref x1), .unset] [] := by first | (simp [entryFrame, mkF, argsToLocals, Value.category]; done) | rfl
set_option maxRecDepth 65536 in
set_option maxHeartbeats 40000000 in
theorem rmAp (l : Launch) (Z : State) (a0 : Array Value) (hw : ∀ d ∈ tables_1, d.before a0 Z = true) (a1 u : Addr) (txt pad : List Int8) (kap : Nat) (s1 : Addr) (us : Addr) (sb : List Int8) (cs : Int32)  (h0 : Heap) (O0 : Ext Z.heap h0) (S_cs : Sta Z Z.heap "java/lang/String" "COMPACT_STRINGS" "Z" (.int cs)) (hcs : ¬ cs = 0) (Es : Exa Z h0 s1 "java/lang/String") (Sv : Fld Z h0 s1 "java/lang/String" "value" "[B" (.ref us)) (Sc : Fld Z h0 s1 "java/lang/String" "coder" "B" (.int (0 : Int32))) (Sy : Ary Z h0 us .byte (own_bv sb)) (E1 : Exa Z h0 a1 "java/lang/StringBuilder") (V1 : Fld Z h0 a1 "java/lang/AbstractStringBuilder" "value" "[B" (.ref u)) (C1 : Fld Z h0 a1 "java/lang/AbstractStringBuilder" "coder" "B" (.int (0 : Int32))) (N1 : Fld Z h0 a1 "java/lang/AbstractStringBuilder" "count" "I" (.int txt.length.toInt32)) (Y1 : Ary Z h0 u .byte (own_bv (txt ++ pad))) (X1 : Exa Z h0 u "[B") (hk : (txt ++ pad).length = kap) (hkk : kap = 16 ∨ kap = 34) (ne : a1 ≠ u) (fr1 : Z.heap.size ≤ a1) (fr2 : Z.heap.size ≤ u) (n1 : s1 ≠ a1) (n2 : s1 ≠ u) (n3 : us ≠ a1) (n4 : us ≠ u) (hfit : txt.length + sb.length ≤ 34) :
    Ctr l Z (⟨"java/lang/AbstractStringBuilder", "append", "(Ljava/lang/String;)Ljava/lang/AbstractStringBuilder;"⟩ : MethodName) jdk_68_method_22_code 3 (some (.object "java/lang/AbstractStringBuilder")) [] ({ frames := 4, cells := 1, slots := 34, locals := 75 } : Room) #[(.ref a1), (.ref s1)] h0 (fun v h L => v = some (.ref a1) ∧ Fr Z.heap.size L ∧ Keep h0 h [a1, u] ∧ ∃ (u2 : Addr) (pad2 : List Int8) (kap2 : Nat), (u2 = u ∨ h0.size ≤ u2) ∧ Fld Z h a1 "java/lang/AbstractStringBuilder" "value" "[B" (.ref u2) ∧ Fld Z h a1 "java/lang/AbstractStringBuilder" "coder" "B" (.int (0 : Int32)) ∧ Fld Z h a1 "java/lang/AbstractStringBuilder" "count" "I" (.int (txt ++ sb).length.toInt32) ∧ Ary Z h u2 .byte (own_bv ((txt ++ sb) ++ pad2)) ∧ Exa Z h u2 "[B" ∧ ((txt ++ sb) ++ pad2).length = kap2 ∧ (kap2 = 16 ∨ kap2 = 34)) := by
  refine ctr (plainFor_of_name pn_0) ?_
  intro p e s m below meth c s₁ hx hby hml hown hnm hret hlocks hZ X0 e0
  have N0 := Fr.nil Z.heap.size
  have hsz : ∀ {Ls : Array Slot}, Ls.size = 3 → Ls.size = c.maxLocals := fun q => q.trans hml.symm
  have K0 := Keep.refl h0 [a1, u]
  refine goE (ef_rmAp m (a1) (s1)) ?_
  show Goes p e below _ (s₁.setTop (mkF m 0 #[.val (.ref a1), .val (.ref s1), .unset] []))
  refine gAloadN X0 hx (hb hby d_jdk_68_method_22_0) rfl rfl ?_
  refine gNonnullY X0 hx (hb hby d_jdk_68_method_22_1) (pc' := 9) (by decide) (by decide) ?_
  show Goes p e below _ (s₁.setTop (mkF m 9 #[.val (.ref a1), .val (.ref s1), .unset] []))
  refine gAloadN X0 hx (hb hby d_jdk_68_method_22_9) rfl rfl ?_
  refine goCallV X0 hx hZ hown (hw _ (List.mem_of_getElem? (i := 95) rfl)) (hw _ (List.mem_of_getElem? (i := 96) rfl)) (hw _ (List.mem_of_getElem? (i := 98) rfl)) (hw _ (List.mem_of_getElem? (i := 97) rfl)) (hw _ (List.mem_of_getElem? (i := 4) rfl)) (hw _ (List.mem_of_getElem? (i := 99) rfl)) (by decide) (rmLe l Z a0 hw us sb cs s1 h0 O0 S_cs hcs Es Sv Sc Sy) 0 (by decide) (by decide) e0 Es (hsz rfl) [] [] pd_8 rfl rfl rfl (Nat.le_of_eq rfl) (hb hby d_jdk_68_method_22_10) (by decide) (by decide) (fun Tt1 vt1 Lt1 Xt1 qt1 => ?_)
  obtain ⟨rfl, N2, et1⟩ := qt1
  have N3 := Fr.app N0 N2
  show Goes p e below _ (Tt1.setTop (mkF m 13 #[.val (.ref a1), .val (.ref s1), .unset] [(.int sb.length.toInt32)]))
  refine gIstoreN Xt1 hx (hb hby d_jdk_68_method_22_13) (l' := #[.val (.ref a1), .val (.ref s1), .val (.int sb.length.toInt32)]) rfl ?_
  refine gAloadN Xt1 hx (hb hby d_jdk_68_method_22_14) rfl rfl ?_
  refine gAloadN Xt1 hx (hb hby d_jdk_68_method_22_15) rfl rfl ?_
  obtain ⟨Tt4, Xt4, et4, stt4⟩ := getF Xt1 hx hZ hown (host := "") (Or.inl (hw _ (List.mem_of_getElem? (i := 105) rfl))) Via.refl et1 N1 (g := (mkF m 16 #[.val (.ref a1), .val (.ref s1), .val (.int sb.length.toInt32)] [(.ref a1), (.ref a1)])) rfl rfl (hb hby d_jdk_68_method_22_16)
  refine go stt4 ?_
  show Goes p e below _ (Tt4.setTop (mkF m 19 #[.val (.ref a1), .val (.ref s1), .val (.int sb.length.toInt32)] [(.int txt.length.toInt32), (.ref a1)]))
  refine gIloadN Xt4 hx (hb hby d_jdk_68_method_22_19) rfl ?_
  refine gIadd Xt4 hx (hb hby d_jdk_68_method_22_20) ?_
  show Goes p e below _ (Tt4.setTop (mkF m 21 #[.val (.ref a1), .val (.ref s1), .val (.int sb.length.toInt32)] [(.int (txt.length.toInt32 + sb.length.toInt32)), (.ref a1)]))
  rw [own_addn (by omega)]
  show Goes p e below _ (Tt4.setTop (mkF m 21 #[.val (.ref a1), .val (.ref s1), .val (.int sb.length.toInt32)] [(.int (txt.length + sb.length).toInt32), (.ref a1)]))
  have lt_s1_q5 := Es.lt
  have lt_us_q5 := Sy.lt
  have lt_a1_q5 := E1.lt
  have lt_u_q5 := Y1.lt
  refine goCallP2 Xt4 hx hZ hown (hw _ (List.mem_of_getElem? (i := 107) rfl)) (hw _ (List.mem_of_getElem? (i := 109) rfl)) (hw _ (List.mem_of_getElem? (i := 110) rfl)) (hw _ (List.mem_of_getElem? (i := 108) rfl)) (hw _ (List.mem_of_getElem? (i := 77) rfl)) (hw _ (List.mem_of_getElem? (i := 111) rfl)) (by decide) (rmEn l Z a0 hw a1 u txt pad kap (txt.length + sb.length) h0 O0 E1 V1 C1 N1 Y1 X1 hk hkk ne fr1 fr2 hfit) 0 (by decide) (by decide) et4 E1 (hsz rfl) [(.int (txt.length + sb.length).toInt32)] [] pd_0 rfl rfl rfl (Nat.le_of_eq rfl) (hb hby d_jdk_68_method_22_21) (by decide) (by decide) (fun Tt6 vt6 Lt6 Xt6 qt6 => ?_)
  obtain ⟨ht6, et6⟩ : ∃ z, Tt6.heap = z := ⟨_, rfl⟩
  rw [et6] at qt6
  obtain ⟨rfl, N7, Kct6, u2, pad2, kap2, hu2, Vb2, Cb2, Nb2, Yb2, Xb2, hk2, hkk2, hfit2⟩ := qt6
  have N8 := Fr.app N3 N7
  replace Es := Es.keep Kct6
  replace Sv := Sv.keep Kct6 (ninS n1 nin0)
  replace Sc := Sc.keep Kct6 (ninS n1 nin0)
  replace Sy := Sy.keep Kct6 (ninS n3 nin0)
  replace E1 := E1.keep Kct6
  replace Y1 := Y1.keep Kct6 (ninS (Ne.symm ne) nin0)
  replace X1 := X1.keep Kct6
  have O9 : Ext Z.heap ht6 := extK O0 Kct6 (allS fr1 all0)
  have K10 := K0.trans Kct6 (allS (Or.inl (by simp)) all0)
  show Goes p e below _ (Tt6.setTop (mkF m 24 #[.val (.ref a1), .val (.ref s1), .val (.int sb.length.toInt32)] []))
  have ne_s1_u2 : s1 ≠ u2 := own_une hu2 n2 lt_s1_q5
  have ne_us_u2 : us ≠ u2 := own_une hu2 n4 lt_us_q5
  have ne_a1_u2 : a1 ≠ u2 := own_une hu2 ne lt_a1_q5
  have fr_u2 : Z.heap.size ≤ u2 := own_uge hu2 fr2 O0.1
  refine gAloadN Xt6 hx (hb hby d_jdk_68_method_22_24) rfl rfl ?_
  refine gAloadN Xt6 hx (hb hby d_jdk_68_method_22_25) rfl rfl ?_
  obtain ⟨Tt11, Xt11, et11, stt11⟩ := getF Xt6 hx hZ hown (host := "") (Or.inl (hw _ (List.mem_of_getElem? (i := 105) rfl))) Via.refl et6 Nb2 (g := (mkF m 26 #[.val (.ref a1), .val (.ref s1), .val (.int sb.length.toInt32)] [(.ref a1), (.ref a1)])) rfl rfl (hb hby d_jdk_68_method_22_26)
  refine go stt11 ?_
  show Goes p e below _ (Tt11.setTop (mkF m 29 #[.val (.ref a1), .val (.ref s1), .val (.int sb.length.toInt32)] [(.int txt.length.toInt32), (.ref a1)]))
  refine gAloadN Xt11 hx (hb hby d_jdk_68_method_22_29) rfl rfl ?_
  refine goCallP2 Xt11 hx hZ hown (hw _ (List.mem_of_getElem? (i := 112) rfl)) (hw _ (List.mem_of_getElem? (i := 114) rfl)) (hw _ (List.mem_of_getElem? (i := 115) rfl)) (hw _ (List.mem_of_getElem? (i := 113) rfl)) (hw _ (List.mem_of_getElem? (i := 77) rfl)) (hw _ (List.mem_of_getElem? (i := 116) rfl)) (by decide) (rmPs l Z a0 hw a1 u2 txt pad2 kap2 s1 us sb cs ht6 O9 S_cs hcs Es Sv Sc Sy E1 Vb2 Cb2 Nb2 Yb2 Xb2 hk2 hkk2 ne_a1_u2 fr1 fr_u2 n1 ne_s1_u2 n3 ne_us_u2 hfit2) 0 (by decide) (by decide) et11 E1 (hsz rfl) [(.int txt.length.toInt32), (.ref s1)] [] pd_9 rfl rfl rfl (Nat.le_of_eq rfl) (hb hby d_jdk_68_method_22_30) (by decide) (by decide) (fun Tt12 vt12 Lt12 Xt12 qt12 => ?_)
  obtain ⟨ht12, et12⟩ : ∃ z, Tt12.heap = z := ⟨_, rfl⟩
  rw [et12] at qt12
  obtain ⟨rfl, N13, Kct12, Yp⟩ := qt12
  have N14 := Fr.app N8 N13
  replace Es := Es.keep Kct12
  replace Sv := Sv.keep Kct12 (ninS ne_s1_u2 nin0)
  replace Sc := Sc.keep Kct12 (ninS ne_s1_u2 nin0)
  replace Sy := Sy.keep Kct12 (ninS ne_us_u2 nin0)
  replace E1 := E1.keep Kct12
  replace Vb2 := Vb2.keep Kct12 (ninS ne_a1_u2 nin0)
  replace Cb2 := Cb2.keep Kct12 (ninS ne_a1_u2 nin0)
  replace Nb2 := Nb2.keep Kct12 (ninS ne_a1_u2 nin0)
  replace Xb2 := Xb2.keep Kct12
  have O15 : Ext Z.heap ht12 := extK O9 Kct12 (allS fr_u2 all0)
  have K16 := K10.trans Kct12 (allS (hu2.elim (fun q => Or.inl (by simp [q])) (fun q => Or.inr (Nat.le_trans K0.1 q))) all0)
  show Goes p e below _ (Tt12.setTop (mkF m 33 #[.val (.ref a1), .val (.ref s1), .val (.int sb.length.toInt32)] []))
  refine gAloadN Xt12 hx (hb hby d_jdk_68_method_22_33) rfl rfl ?_
  refine gDup Xt12 hx (hb hby d_jdk_68_method_22_34) rfl ?_
  obtain ⟨Tt17, Xt17, et17, stt17⟩ := getF Xt12 hx hZ hown (host := "") (Or.inl (hw _ (List.mem_of_getElem? (i := 105) rfl))) Via.refl et12 Nb2 (g := (mkF m 35 #[.val (.ref a1), .val (.ref s1), .val (.int sb.length.toInt32)] [(.ref a1), (.ref a1)])) rfl rfl (hb hby d_jdk_68_method_22_35)
  refine go stt17 ?_
  show Goes p e below _ (Tt17.setTop (mkF m 38 #[.val (.ref a1), .val (.ref s1), .val (.int sb.length.toInt32)] [(.int txt.length.toInt32), (.ref a1)]))
  refine gIloadN Xt17 hx (hb hby d_jdk_68_method_22_38) rfl ?_
  refine gIadd Xt17 hx (hb hby d_jdk_68_method_22_39) ?_
  show Goes p e below _ (Tt17.setTop (mkF m 40 #[.val (.ref a1), .val (.ref s1), .val (.int sb.length.toInt32)] [(.int (txt.length.toInt32 + sb.length.toInt32)), (.ref a1)]))
  rw [show txt.length.toInt32 + sb.length.toInt32 = (txt ++ sb).length.toInt32 from by rw [List.length_append]; exact own_addn (by omega)]
  show Goes p e below _ (Tt17.setTop (mkF m 40 #[.val (.ref a1), .val (.ref s1), .val (.int sb.length.toInt32)] [(.int (txt ++ sb).length.toInt32), (.ref a1)]))
  obtain ⟨Tt18, ht18, Xt18, et18, Wt18, stt18⟩ := putF Xt17 hx hZ hown (host := "") (Or.inl (hw _ (List.mem_of_getElem? (i := 105) rfl))) Via.refl et17 Nb2 E1 (Or.inl (hw _ (List.mem_of_getElem? (i := 106) rfl))) (hw _ (List.mem_of_getElem? (i := 68) rfl)) (ty := .int) (by decide) rfl rfl (g := (mkF m 40 #[.val (.ref a1), .val (.ref s1), .val (.int sb.length.toInt32)] [(.int (txt ++ sb).length.toInt32), (.ref a1)])) rfl rfl (hb hby d_jdk_68_method_22_40)
  refine go stt18 ?_
  have N19 := Fr.snoc Xt18 N14 fr1
  replace Nb2 := Nb2.same Wt18
  replace Es := Es.wr Wt18
  replace Sv := Sv.other Wt18 (Or.inl n1)
  replace Sc := Sc.other Wt18 (Or.inl n1)
  replace Sy := Sy.other Wt18 n3
  replace E1 := E1.wr Wt18
  replace Vb2 := Vb2.other Wt18 (Or.inr (slot_ne (Or.inl (hw _ (List.mem_of_getElem? (i := 82) rfl))) (Or.inl (hw _ (List.mem_of_getElem? (i := 106) rfl))) (by decide) (t := (.array .byte)) (by decide) (t' := .int) (by decide)))
  replace Cb2 := Cb2.other Wt18 (Or.inr (slot_ne (Or.inl (hw _ (List.mem_of_getElem? (i := 84) rfl))) (Or.inl (hw _ (List.mem_of_getElem? (i := 106) rfl))) (by decide) (t := .byte) (by decide) (t' := .int) (by decide)))
  replace Xb2 := Xb2.wr Wt18
  replace Yp := Yp.other Wt18 (Ne.symm ne_a1_u2)
  have O20 : Ext Z.heap ht18 := extW O15 Wt18 fr1
  have K21 := K16.wr Wt18 (Or.inl (by simp))
  show Goes p e below _ (Tt18.setTop (mkF m 43 #[.val (.ref a1), .val (.ref s1), .val (.int sb.length.toInt32)] []))
  refine gAloadN Xt18 hx (hb hby d_jdk_68_method_22_43) rfl rfl ?_
  exact goRetA Xt18 hx hret hlocks rfl rfl (hb hby d_jdk_68_method_22_44) (by decide) (by decide) et18 (⟨rfl, N19, K21, u2, pad2.drop sb.length, kap2, hu2, Vb2, Cb2, Nb2, Yp, Xb2, by simp only [List.length_append, List.length_drop] at hk2 ⊢; omega, hkk2⟩)
theorem d_jdk_67_method_7_0 : decode jdk_67_method_7_code 0 = .ok (.aload_n 0, 1) := by decide +kernel
theorem d_jdk_67_method_7_1 : decode jdk_67_method_7_code 1 = .ok (.aload_n 1, 1) := by decide +kernel
theorem pd_10 : parseMethodDescriptor "(Ljava/lang/String;)Ljava/lang/AbstractStringBuilder;" = some ⟨[(.object "java/lang/String")], some (.object "java/lang/AbstractStringBuilder")⟩ := by decide +kernel
theorem d_jdk_67_method_7_2 : decode jdk_67_method_7_code 2 = .ok (.invokespecial 29, 3) := by decide +kernel
theorem d_jdk_67_method_7_5 : decode jdk_67_method_7_code 5 = .ok (.pop, 1) := by decide +kernel
theorem d_jdk_67_method_7_6 : decode jdk_67_method_7_code 6 = .ok (.aload_n 0, 1) := by decide +kernel
theorem d_jdk_67_method_7_7 : decode jdk_67_method_7_code 7 = .ok (.areturn, 1) := by decide +kernel
theorem ef_rmAs (m : MethodId) (x0 : Addr) (x1 : Addr) : entryFrame m #[(.ref x0), (.ref x1)] 2 = mkF m 0 #[.val (.ref x0), .val (.ref x1)] [] := by first | (simp [entryFrame, mkF, argsToLocals, Value.category]; done) | rfl
set_option maxRecDepth 65536 in
set_option maxHeartbeats 40000000 in
theorem rmAs (l : Launch) (Z : State) (a0 : Array Value) (hw : ∀ d ∈ tables_1, d.before a0 Z = true) (a1 u : Addr) (txt pad : List Int8) (kap : Nat) (s1 : Addr) (us : Addr) (sb : List Int8) (cs : Int32)  (h0 : Heap) (O0 : Ext Z.heap h0) (S_cs : Sta Z Z.heap "java/lang/String" "COMPACT_STRINGS" "Z" (.int cs)) (hcs : ¬ cs = 0) (Es : Exa Z h0 s1 "java/lang/String") (Sv : Fld Z h0 s1 "java/lang/String" "value" "[B" (.ref us)) (Sc : Fld Z h0 s1 "java/lang/String" "coder" "B" (.int (0 : Int32))) (Sy : Ary Z h0 us .byte (own_bv sb)) (E1 : Exa Z h0 a1 "java/lang/StringBuilder") (V1 : Fld Z h0 a1 "java/lang/AbstractStringBuilder" "value" "[B" (.ref u)) (C1 : Fld Z h0 a1 "java/lang/AbstractStringBuilder" "coder" "B" (.int (0 : Int32))) (N1 : Fld Z h0 a1 "java/lang/AbstractStringBuilder" "count" "I" (.int txt.length.toInt32)) (Y1 : Ary Z h0 u .byte (own_bv (txt ++ pad))) (X1 : Exa Z h0 u "[B") (hk : (txt ++ pad).length = kap) (hkk : kap = 16 ∨ kap = 34) (ne : a1 ≠ u) (fr1 : Z.heap.size ≤ a1) (fr2 : Z.heap.size ≤ u) (n1 : s1 ≠ a1) (n2 : s1 ≠ u) (n3 : us ≠ a1) (n4 : us ≠ u) (hfit : txt.length + sb.length ≤ 34) :
    Ctr l Z (⟨"java/lang/StringBuilder", "append", "(Ljava/lang/String;)Ljava/lang/StringBuilder;"⟩ : MethodName) jdk_67_method_7_code 2 (some (.object "java/lang/StringBuilder")) [] ({ frames := 5, cells := 1, slots := 34, locals := 90 } : Room) #[(.ref a1), (.ref s1)] h0 (fun v h L => v = some (.ref a1) ∧ Fr Z.heap.size L ∧ Keep h0 h [a1, u] ∧ ∃ (u2 : Addr) (pad2 : List Int8) (kap2 : Nat), (u2 = u ∨ h0.size ≤ u2) ∧ Fld Z h a1 "java/lang/AbstractStringBuilder" "value" "[B" (.ref u2) ∧ Fld Z h a1 "java/lang/AbstractStringBuilder" "coder" "B" (.int (0 : Int32)) ∧ Fld Z h a1 "java/lang/AbstractStringBuilder" "count" "I" (.int (txt ++ sb).length.toInt32) ∧ Ary Z h u2 .byte (own_bv ((txt ++ sb) ++ pad2)) ∧ Exa Z h u2 "[B" ∧ ((txt ++ sb) ++ pad2).length = kap2 ∧ (kap2 = 16 ∨ kap2 = 34)) := by
  refine ctr (plainFor_of_name pn_1) ?_
  intro p e s m below meth c s₁ hx hby hml hown hnm hret hlocks hZ X0 e0
  have N0 := Fr.nil Z.heap.size
  have hsz : ∀ {Ls : Array Slot}, Ls.size = 2 → Ls.size = c.maxLocals := fun q => q.trans hml.symm
  have K0 := Keep.refl h0 [a1, u]
  refine goE (ef_rmAs m (a1) (s1)) ?_
  show Goes p e below _ (s₁.setTop (mkF m 0 #[.val (.ref a1), .val (.ref s1)] []))
  refine gAloadN X0 hx (hb hby d_jdk_67_method_7_0) rfl rfl ?_
  refine gAloadN X0 hx (hb hby d_jdk_67_method_7_1) rfl rfl ?_
  have lt_s1_q1 := Es.lt
  have lt_us_q1 := Sy.lt
  have lt_a1_q1 := E1.lt
  have lt_u_q1 := Y1.lt
  refine goCallU X0 hx hZ hown (hw _ (List.mem_of_getElem? (i := 90) rfl)) (hw _ (List.mem_of_getElem? (i := 92) rfl)) (hw _ (List.mem_of_getElem? (i := 110) rfl)) rfl (by decide) (hw _ (List.mem_of_getElem? (i := 91) rfl)) (hw _ (List.mem_of_getElem? (i := 77) rfl)) (hw _ (List.mem_of_getElem? (i := 94) rfl)) (by decide) (rmAp l Z a0 hw a1 u txt pad kap s1 us sb cs h0 O0 S_cs hcs Es Sv Sc Sy E1 V1 C1 N1 Y1 X1 hk hkk ne fr1 fr2 n1 n2 n3 n4 hfit) 0 (by decide) (by decide) e0 E1 (hsz rfl) [(.ref s1)] [] pd_10 rfl rfl rfl (Nat.le_of_eq rfl) (hb hby d_jdk_67_method_7_2) (by decide) (by decide) (fun Tt2 vt2 Lt2 Xt2 qt2 => ?_)
  obtain ⟨ht2, et2⟩ : ∃ z, Tt2.heap = z := ⟨_, rfl⟩
  rw [et2] at qt2
  obtain ⟨rfl, N3, Kct2, u2, pad2, kap2, hu2, Vb2, Cb2, Nb2, Yb2, Xb2, hk2, hkk2⟩ := qt2
  have N4 := Fr.app N0 N3
  replace Es := Es.keep Kct2
  replace Sv := Sv.keep Kct2 (ninS n1 (ninS n2 nin0))
  replace Sc := Sc.keep Kct2 (ninS n1 (ninS n2 nin0))
  replace Sy := Sy.keep Kct2 (ninS n3 (ninS n4 nin0))
  replace E1 := E1.keep Kct2
  replace X1 := X1.keep Kct2
  have O5 : Ext Z.heap ht2 := extK O0 Kct2 (allS fr1 (allS fr2 all0))
  have K6 := K0.trans Kct2 (allS (Or.inl (by simp)) (allS (Or.inl (by simp)) all0))
  show Goes p e below _ (Tt2.setTop (mkF m 5 #[.val (.ref a1), .val (.ref s1)] [(.ref a1)]))
  have ne_s1_u2 : s1 ≠ u2 := own_une hu2 n2 lt_s1_q1
  have ne_us_u2 : us ≠ u2 := own_une hu2 n4 lt_us_q1
  have ne_a1_u2 : a1 ≠ u2 := own_une hu2 ne lt_a1_q1
  have fr_u2 : Z.heap.size ≤ u2 := own_uge hu2 fr2 O0.1
  refine gPop Xt2 hx (hb hby d_jdk_67_method_7_5) rfl ?_
  refine gAloadN Xt2 hx (hb hby d_jdk_67_method_7_6) rfl rfl ?_
  exact goRetA Xt2 hx hret hlocks rfl rfl (hb hby d_jdk_67_method_7_7) (by decide) (by decide) et2 (⟨rfl, N4, K6, u2, pad2, kap2, hu2, Vb2, Cb2, Nb2, Yb2, Xb2, hk2, hkk2⟩)
theorem d_jdk_33_method_13_0 : decode jdk_33_method_13_code 0 = .ok (.iconst 1, 1) := by decide +kernel
theorem d_jdk_33_method_13_1 : decode jdk_33_method_13_code 1 = .ok (.istore_n 1, 1) := by decide +kernel
theorem d_jdk_33_method_13_2 : decode jdk_33_method_13_code 2 = .ok (.iload_n 0, 1) := by decide +kernel
theorem d_jdk_33_method_13_3 : decode jdk_33_method_13_code 3 = .ok (.ifCond .lt 8, 3) := by decide +kernel
theorem d_jdk_33_method_13_6 : decode jdk_33_method_13_code 6 = .ok (.iconst 0, 1) := by decide +kernel
theorem d_jdk_33_method_13_7 : decode jdk_33_method_13_code 7 = .ok (.istore_n 1, 1) := by decide +kernel
theorem d_jdk_33_method_13_8 : decode jdk_33_method_13_code 8 = .ok (.iload_n 0, 1) := by decide +kernel
theorem d_jdk_33_method_13_9 : decode jdk_33_method_13_code 9 = .ok (.ineg, 1) := by decide +kernel
theorem d_jdk_33_method_13_10 : decode jdk_33_method_13_code 10 = .ok (.istore_n 0, 1) := by decide +kernel
theorem d_jdk_33_method_13_11 : decode jdk_33_method_13_code 11 = .ok (.bipush (-10), 2) := by decide +kernel
theorem d_jdk_33_method_13_13 : decode jdk_33_method_13_code 13 = .ok (.istore_n 2, 1) := by decide +kernel
theorem d_jdk_33_method_13_14 : decode jdk_33_method_13_code 14 = .ok (.iconst 1, 1) := by decide +kernel
theorem d_jdk_33_method_13_15 : decode jdk_33_method_13_code 15 = .ok (.istore_n 3, 1) := by decide +kernel
theorem d_jdk_33_method_13_16 : decode jdk_33_method_13_code 16 = .ok (.iload_n 3, 1) := by decide +kernel
theorem d_jdk_33_method_13_17 : decode jdk_33_method_13_code 17 = .ok (.bipush 10, 2) := by decide +kernel
theorem d_jdk_33_method_13_19 : decode jdk_33_method_13_code 19 = .ok (.if_icmp .ge 23, 3) := by decide +kernel
theorem d_jdk_33_method_13_22 : decode jdk_33_method_13_code 22 = .ok (.iload_n 0, 1) := by decide +kernel
theorem d_jdk_33_method_13_23 : decode jdk_33_method_13_code 23 = .ok (.iload_n 2, 1) := by decide +kernel
theorem d_jdk_33_method_13_24 : decode jdk_33_method_13_code 24 = .ok (.if_icmp .le 7, 3) := by decide +kernel
theorem d_jdk_33_method_13_27 : decode jdk_33_method_13_code 27 = .ok (.iload_n 3, 1) := by decide +kernel
theorem d_jdk_33_method_13_28 : decode jdk_33_method_13_code 28 = .ok (.iload_n 1, 1) := by decide +kernel
theorem d_jdk_33_method_13_29 : decode jdk_33_method_13_code 29 = .ok (.iadd, 1) := by decide +kernel
theorem d_jdk_33_method_13_30 : decode jdk_33_method_13_code 30 = .ok (.ireturn, 1) := by decide +kernel
theorem d_jdk_33_method_13_31 : decode jdk_33_method_13_code 31 = .ok (.bipush 10, 2) := by decide +kernel
theorem d_jdk_33_method_13_33 : decode jdk_33_method_13_code 33 = .ok (.iload_n 2, 1) := by decide +kernel
theorem d_jdk_33_method_13_34 : decode jdk_33_method_13_code 34 = .ok (.imul, 1) := by decide +kernel
theorem d_jdk_33_method_13_35 : decode jdk_33_method_13_code 35 = .ok (.istore_n 2, 1) := by decide +kernel
theorem d_jdk_33_method_13_36 : decode jdk_33_method_13_code 36 = .ok (.iinc 3 1, 3) := by decide +kernel
theorem d_jdk_33_method_13_39 : decode jdk_33_method_13_code 39 = .ok (.goto (-23), 3) := by decide +kernel
theorem d_jdk_33_method_13_42 : decode jdk_33_method_13_code 42 = .ok (.bipush 10, 2) := by decide +kernel
theorem d_jdk_33_method_13_44 : decode jdk_33_method_13_code 44 = .ok (.iload_n 1, 1) := by decide +kernel
theorem d_jdk_33_method_13_45 : decode jdk_33_method_13_code 45 = .ok (.iadd, 1) := by decide +kernel
theorem d_jdk_33_method_13_46 : decode jdk_33_method_13_code 46 = .ok (.ireturn, 1) := by decide +kernel
theorem pn_5 : plainName "java/lang/Integer" = true := by first | (simp [plainName, overriddenIn]; done) | decide +kernel
theorem ef_rmSz (m : MethodId) (x0 : Int32) : entryFrame m #[(.int x0)] 4 = mkF m 0 #[.val (.int x0), .unset, .unset, .unset] [] := by first | (simp [entryFrame, mkF, argsToLocals, Value.category]; done) | rfl
set_option maxRecDepth 65536 in
set_option maxHeartbeats 40000000 in
theorem rmSz (l : Launch) (Z : State) (a0 : Array Value) (hw : ∀ d ∈ tables_1, d.before a0 Z = true) (n : Nat)  (h0 : Heap) (O0 : Ext Z.heap h0) (hn1 : 1 ≤ n) (hn : n < 2 ^ 31) :
    Ctr l Z (⟨"java/lang/Integer", "stringSize", "(I)I"⟩ : MethodName) jdk_33_method_13_code 4 (some .int) [] ({ frames := 0, cells := 0, slots := 0, locals := 0 } : Room) #[(.int n.toInt32)] h0 (fun v h L => ∃ d : Nat, v = some (.int d.toInt32) ∧ Fr Z.heap.size L ∧ h = h0 ∧ d ≤ 10 ∧ own_D n d) := by
  refine ctr (plainFor_of_name pn_5) ?_
  intro p e s m below meth c s₁ hx hby hml hown hnm hret hlocks hZ X0 e0
  have N0 := Fr.nil Z.heap.size
  have hsz : ∀ {Ls : Array Slot}, Ls.size = 4 → Ls.size = c.maxLocals := fun q => q.trans hml.symm
  refine goE (ef_rmSz m (n.toInt32)) ?_
  show Goes p e below _ (s₁.setTop (mkF m 0 #[.val (.int n.toInt32), .unset, .unset, .unset] []))
  refine gIconst X0 hx (hb hby d_jdk_33_method_13_0) (v := (1 : Int32)) rfl ?_
  refine gIstoreN X0 hx (hb hby d_jdk_33_method_13_1) (l' := #[.val (.int n.toInt32), .val (.int (1 : Int32)), .unset, .unset]) rfl ?_
  refine gIloadN X0 hx (hb hby d_jdk_33_method_13_2) rfl ?_
  refine gIfN X0 hx (hb hby d_jdk_33_method_13_3) (XT.i0_lt_f (own_natn hn)) ?_
  show Goes p e below _ (s₁.setTop (mkF m 6 #[.val (.int n.toInt32), .val (.int (1 : Int32)), .unset, .unset] []))
  refine gIconst X0 hx (hb hby d_jdk_33_method_13_6) (v := (0 : Int32)) rfl ?_
  refine gIstoreN X0 hx (hb hby d_jdk_33_method_13_7) (l' := #[.val (.int n.toInt32), .val (.int (0 : Int32)), .unset, .unset]) rfl ?_
  refine gIloadN X0 hx (hb hby d_jdk_33_method_13_8) rfl ?_
  refine gIneg X0 hx (hb hby d_jdk_33_method_13_9) ?_
  refine gIstoreN X0 hx (hb hby d_jdk_33_method_13_10) (l' := #[.val (.int (-n.toInt32)), .val (.int (0 : Int32)), .unset, .unset]) rfl ?_
  refine gBipush X0 hx (hb hby d_jdk_33_method_13_11) (v := (-10 : Int32)) rfl ?_
  refine gIstoreN X0 hx (hb hby d_jdk_33_method_13_13) (l' := #[.val (.int (-n.toInt32)), .val (.int (0 : Int32)), .val (.int (-10 : Int32)), .unset]) rfl ?_
  show Goes p e below _ (s₁.setTop (mkF m 14 #[.val (.int (-n.toInt32)), .val (.int (0 : Int32)), .val (.int (-10 : Int32)), .unset] []))
  refine gIconst X0 hx (hb hby d_jdk_33_method_13_14) (v := (1 : Int32)) rfl ?_
  refine gIstoreN X0 hx (hb hby d_jdk_33_method_13_15) (l' := #[.val (.int (-n.toInt32)), .val (.int (0 : Int32)), .val (.int (-10 : Int32)), .val (.int (1 : Int32))]) rfl ?_
  refine gIloadN X0 hx (hb hby d_jdk_33_method_13_16) rfl ?_
  refine gBipush X0 hx (hb hby d_jdk_33_method_13_17) (v := (10 : Int32)) rfl ?_
  refine gIcmpN X0 hx (hb hby d_jdk_33_method_13_19) (XT.ii_ge_f (by decide)) ?_
  show Goes p e below _ (s₁.setTop (mkF m 22 #[.val (.int (-n.toInt32)), .val (.int (0 : Int32)), .val (.int (-10 : Int32)), .val (.int (1 : Int32))] []))
  refine gIloadN X0 hx (hb hby d_jdk_33_method_13_22) rfl ?_
  refine gIloadN X0 hx (hb hby d_jdk_33_method_13_23) rfl ?_
  by_cases g1 : n < 10
  · refine gIcmpN X0 hx (hb hby d_jdk_33_method_13_24) (XT.ii_le_f ((own_ng (k := 10) hn (by decide)).mpr g1)) ?_
    show Goes p e below _ (s₁.setTop (mkF m 27 #[.val (.int (-n.toInt32)), .val (.int (0 : Int32)), .val (.int (-10 : Int32)), .val (.int (1 : Int32))] []))
    refine gIloadN X0 hx (hb hby d_jdk_33_method_13_27) rfl ?_
    refine gIloadN X0 hx (hb hby d_jdk_33_method_13_28) rfl ?_
    refine gIadd X0 hx (hb hby d_jdk_33_method_13_29) ?_
    exact goRetI X0 hx hret hlocks (hb hby d_jdk_33_method_13_30) (by decide) (by decide) e0 (⟨1, rfl, N0, rfl, by decide, by decide, by show 1 ≤ n; omega, g1⟩)
  · refine gIcmpY X0 hx (hb hby d_jdk_33_method_13_24) (pc' := 31) (XT.ii_le_t (fun q => g1 ((own_ng (k := 10) hn (by decide)).mp q))) (by decide) (by decide) ?_
    show Goes p e below _ (s₁.setTop (mkF m 31 #[.val (.int (-n.toInt32)), .val (.int (0 : Int32)), .val (.int (-10 : Int32)), .val (.int (1 : Int32))] []))
    refine gBipush X0 hx (hb hby d_jdk_33_method_13_31) (v := (10 : Int32)) rfl ?_
    refine gIloadN X0 hx (hb hby d_jdk_33_method_13_33) rfl ?_
    refine gImul X0 hx (hb hby d_jdk_33_method_13_34) ?_
    refine gIstoreN X0 hx (hb hby d_jdk_33_method_13_35) (l' := #[.val (.int (-n.toInt32)), .val (.int (0 : Int32)), .val (.int (-100 : Int32)), .val (.int (1 : Int32))]) rfl ?_
    refine gIinc X0 hx (hb hby d_jdk_33_method_13_36) (v := (2 : Int32)) rfl rfl (l' := #[.val (.int (-n.toInt32)), .val (.int (0 : Int32)), .val (.int (-100 : Int32)), .val (.int (2 : Int32))]) rfl ?_
    refine gGoto X0 hx (hb hby d_jdk_33_method_13_39) (pc' := 16) (by decide) (by decide) ?_
    show Goes p e below _ (s₁.setTop (mkF m 16 #[.val (.int (-n.toInt32)), .val (.int (0 : Int32)), .val (.int (-100 : Int32)), .val (.int (2 : Int32))] []))
    refine gIloadN X0 hx (hb hby d_jdk_33_method_13_16) rfl ?_
    refine gBipush X0 hx (hb hby d_jdk_33_method_13_17) (v := (10 : Int32)) rfl ?_
    refine gIcmpN X0 hx (hb hby d_jdk_33_method_13_19) (XT.ii_ge_f (by decide)) ?_
    show Goes p e below _ (s₁.setTop (mkF m 22 #[.val (.int (-n.toInt32)), .val (.int (0 : Int32)), .val (.int (-100 : Int32)), .val (.int (2 : Int32))] []))
    refine gIloadN X0 hx (hb hby d_jdk_33_method_13_22) rfl ?_
    refine gIloadN X0 hx (hb hby d_jdk_33_method_13_23) rfl ?_
    by_cases g2 : n < 100
    · refine gIcmpN X0 hx (hb hby d_jdk_33_method_13_24) (XT.ii_le_f ((own_ng (k := 100) hn (by decide)).mpr g2)) ?_
      show Goes p e below _ (s₁.setTop (mkF m 27 #[.val (.int (-n.toInt32)), .val (.int (0 : Int32)), .val (.int (-100 : Int32)), .val (.int (2 : Int32))] []))
      refine gIloadN X0 hx (hb hby d_jdk_33_method_13_27) rfl ?_
      refine gIloadN X0 hx (hb hby d_jdk_33_method_13_28) rfl ?_
      refine gIadd X0 hx (hb hby d_jdk_33_method_13_29) ?_
      exact goRetI X0 hx hret hlocks (hb hby d_jdk_33_method_13_30) (by decide) (by decide) e0 (⟨2, rfl, N0, rfl, by decide, by decide, by show 10 ≤ n; omega, g2⟩)
    · refine gIcmpY X0 hx (hb hby d_jdk_33_method_13_24) (pc' := 31) (XT.ii_le_t (fun q => g2 ((own_ng (k := 100) hn (by decide)).mp q))) (by decide) (by decide) ?_
      show Goes p e below _ (s₁.setTop (mkF m 31 #[.val (.int (-n.toInt32)), .val (.int (0 : Int32)), .val (.int (-100 : Int32)), .val (.int (2 : Int32))] []))
      refine gBipush X0 hx (hb hby d_jdk_33_method_13_31) (v := (10 : Int32)) rfl ?_
      refine gIloadN X0 hx (hb hby d_jdk_33_method_13_33) rfl ?_
      refine gImul X0 hx (hb hby d_jdk_33_method_13_34) ?_
      refine gIstoreN X0 hx (hb hby d_jdk_33_method_13_35) (l' := #[.val (.int (-n.toInt32)), .val (.int (0 : Int32)), .val (.int (-1000 : Int32)), .val (.int (2 : Int32))]) rfl ?_
      refine gIinc X0 hx (hb hby d_jdk_33_method_13_36) (v := (3 : Int32)) rfl rfl (l' := #[.val (.int (-n.toInt32)), .val (.int (0 : Int32)), .val (.int (-1000 : Int32)), .val (.int (3 : Int32))]) rfl ?_
      refine gGoto X0 hx (hb hby d_jdk_33_method_13_39) (pc' := 16) (by decide) (by decide) ?_
      show Goes p e below _ (s₁.setTop (mkF m 16 #[.val (.int (-n.toInt32)), .val (.int (0 : Int32)), .val (.int (-1000 : Int32)), .val (.int (3 : Int32))] []))
      refine gIloadN X0 hx (hb hby d_jdk_33_method_13_16) rfl ?_
      refine gBipush X0 hx (hb hby d_jdk_33_method_13_17) (v := (10 : Int32)) rfl ?_
      refine gIcmpN X0 hx (hb hby d_jdk_33_method_13_19) (XT.ii_ge_f (by decide)) ?_
      show Goes p e below _ (s₁.setTop (mkF m 22 #[.val (.int (-n.toInt32)), .val (.int (0 : Int32)), .val (.int (-1000 : Int32)), .val (.int (3 : Int32))] []))
      refine gIloadN X0 hx (hb hby d_jdk_33_method_13_22) rfl ?_
      refine gIloadN X0 hx (hb hby d_jdk_33_method_13_23) rfl ?_
      by_cases g3 : n < 1000
      · refine gIcmpN X0 hx (hb hby d_jdk_33_method_13_24) (XT.ii_le_f ((own_ng (k := 1000) hn (by decide)).mpr g3)) ?_
        show Goes p e below _ (s₁.setTop (mkF m 27 #[.val (.int (-n.toInt32)), .val (.int (0 : Int32)), .val (.int (-1000 : Int32)), .val (.int (3 : Int32))] []))
        refine gIloadN X0 hx (hb hby d_jdk_33_method_13_27) rfl ?_
        refine gIloadN X0 hx (hb hby d_jdk_33_method_13_28) rfl ?_
        refine gIadd X0 hx (hb hby d_jdk_33_method_13_29) ?_
        exact goRetI X0 hx hret hlocks (hb hby d_jdk_33_method_13_30) (by decide) (by decide) e0 (⟨3, rfl, N0, rfl, by decide, by decide, by show 100 ≤ n; omega, g3⟩)
      · refine gIcmpY X0 hx (hb hby d_jdk_33_method_13_24) (pc' := 31) (XT.ii_le_t (fun q => g3 ((own_ng (k := 1000) hn (by decide)).mp q))) (by decide) (by decide) ?_
        show Goes p e below _ (s₁.setTop (mkF m 31 #[.val (.int (-n.toInt32)), .val (.int (0 : Int32)), .val (.int (-1000 : Int32)), .val (.int (3 : Int32))] []))
        refine gBipush X0 hx (hb hby d_jdk_33_method_13_31) (v := (10 : Int32)) rfl ?_
        refine gIloadN X0 hx (hb hby d_jdk_33_method_13_33) rfl ?_
        refine gImul X0 hx (hb hby d_jdk_33_method_13_34) ?_
        refine gIstoreN X0 hx (hb hby d_jdk_33_method_13_35) (l' := #[.val (.int (-n.toInt32)), .val (.int (0 : Int32)), .val (.int (-10000 : Int32)), .val (.int (3 : Int32))]) rfl ?_
        refine gIinc X0 hx (hb hby d_jdk_33_method_13_36) (v := (4 : Int32)) rfl rfl (l' := #[.val (.int (-n.toInt32)), .val (.int (0 : Int32)), .val (.int (-10000 : Int32)), .val (.int (4 : Int32))]) rfl ?_
        refine gGoto X0 hx (hb hby d_jdk_33_method_13_39) (pc' := 16) (by decide) (by decide) ?_
        show Goes p e below _ (s₁.setTop (mkF m 16 #[.val (.int (-n.toInt32)), .val (.int (0 : Int32)), .val (.int (-10000 : Int32)), .val (.int (4 : Int32))] []))
        refine gIloadN X0 hx (hb hby d_jdk_33_method_13_16) rfl ?_
        refine gBipush X0 hx (hb hby d_jdk_33_method_13_17) (v := (10 : Int32)) rfl ?_
        refine gIcmpN X0 hx (hb hby d_jdk_33_method_13_19) (XT.ii_ge_f (by decide)) ?_
        show Goes p e below _ (s₁.setTop (mkF m 22 #[.val (.int (-n.toInt32)), .val (.int (0 : Int32)), .val (.int (-10000 : Int32)), .val (.int (4 : Int32))] []))
        refine gIloadN X0 hx (hb hby d_jdk_33_method_13_22) rfl ?_
        refine gIloadN X0 hx (hb hby d_jdk_33_method_13_23) rfl ?_
        by_cases g4 : n < 10000
        · refine gIcmpN X0 hx (hb hby d_jdk_33_method_13_24) (XT.ii_le_f ((own_ng (k := 10000) hn (by decide)).mpr g4)) ?_
          show Goes p e below _ (s₁.setTop (mkF m 27 #[.val (.int (-n.toInt32)), .val (.int (0 : Int32)), .val (.int (-10000 : Int32)), .val (.int (4 : Int32))] []))
          refine gIloadN X0 hx (hb hby d_jdk_33_method_13_27) rfl ?_
          refine gIloadN X0 hx (hb hby d_jdk_33_method_13_28) rfl ?_
          refine gIadd X0 hx (hb hby d_jdk_33_method_13_29) ?_
          exact goRetI X0 hx hret hlocks (hb hby d_jdk_33_method_13_30) (by decide) (by decide) e0 (⟨4, rfl, N0, rfl, by decide, by decide, by show 1000 ≤ n; omega, g4⟩)
        · refine gIcmpY X0 hx (hb hby d_jdk_33_method_13_24) (pc' := 31) (XT.ii_le_t (fun q => g4 ((own_ng (k := 10000) hn (by decide)).mp q))) (by decide) (by decide) ?_
          show Goes p e below _ (s₁.setTop (mkF m 31 #[.val (.int (-n.toInt32)), .val (.int (0 : Int32)), .val (.int (-10000 : Int32)), .val (.int (4 : Int32))] []))
          refine gBipush X0 hx (hb hby d_jdk_33_method_13_31) (v := (10 : Int32)) rfl ?_
          refine gIloadN X0 hx (hb hby d_jdk_33_method_13_33) rfl ?_
          refine gImul X0 hx (hb hby d_jdk_33_method_13_34) ?_
          refine gIstoreN X0 hx (hb hby d_jdk_33_method_13_35) (l' := #[.val (.int (-n.toInt32)), .val (.int (0 : Int32)), .val (.int (-100000 : Int32)), .val (.int (4 : Int32))]) rfl ?_
          refine gIinc X0 hx (hb hby d_jdk_33_method_13_36) (v := (5 : Int32)) rfl rfl (l' := #[.val (.int (-n.toInt32)), .val (.int (0 : Int32)), .val (.int (-100000 : Int32)), .val (.int (5 : Int32))]) rfl ?_
          refine gGoto X0 hx (hb hby d_jdk_33_method_13_39) (pc' := 16) (by decide) (by decide) ?_
          show Goes p e below _ (s₁.setTop (mkF m 16 #[.val (.int (-n.toInt32)), .val (.int (0 : Int32)), .val (.int (-100000 : Int32)), .val (.int (5 : Int32))] []))
          refine gIloadN X0 hx (hb hby d_jdk_33_method_13_16) rfl ?_
          refine gBipush X0 hx (hb hby d_jdk_33_method_13_17) (v := (10 : Int32)) rfl ?_
          refine gIcmpN X0 hx (hb hby d_jdk_33_method_13_19) (XT.ii_ge_f (by decide)) ?_
          show Goes p e below _ (s₁.setTop (mkF m 22 #[.val (.int (-n.toInt32)), .val (.int (0 : Int32)), .val (.int (-100000 : Int32)), .val (.int (5 : Int32))] []))
          refine gIloadN X0 hx (hb hby d_jdk_33_method_13_22) rfl ?_
          refine gIloadN X0 hx (hb hby d_jdk_33_method_13_23) rfl ?_
          by_cases g5 : n < 100000
          · refine gIcmpN X0 hx (hb hby d_jdk_33_method_13_24) (XT.ii_le_f ((own_ng (k := 100000) hn (by decide)).mpr g5)) ?_
            show Goes p e below _ (s₁.setTop (mkF m 27 #[.val (.int (-n.toInt32)), .val (.int (0 : Int32)), .val (.int (-100000 : Int32)), .val (.int (5 : Int32))] []))
            refine gIloadN X0 hx (hb hby d_jdk_33_method_13_27) rfl ?_
            refine gIloadN X0 hx (hb hby d_jdk_33_method_13_28) rfl ?_
            refine gIadd X0 hx (hb hby d_jdk_33_method_13_29) ?_
            exact goRetI X0 hx hret hlocks (hb hby d_jdk_33_method_13_30) (by decide) (by decide) e0 (⟨5, rfl, N0, rfl, by decide, by decide, by show 10000 ≤ n; omega, g5⟩)
          · refine gIcmpY X0 hx (hb hby d_jdk_33_method_13_24) (pc' := 31) (XT.ii_le_t (fun q => g5 ((own_ng (k := 100000) hn (by decide)).mp q))) (by decide) (by decide) ?_
            show Goes p e below _ (s₁.setTop (mkF m 31 #[.val (.int (-n.toInt32)), .val (.int (0 : Int32)), .val (.int (-100000 : Int32)), .val (.int (5 : Int32))] []))
            refine gBipush X0 hx (hb hby d_jdk_33_method_13_31) (v := (10 : Int32)) rfl ?_
            refine gIloadN X0 hx (hb hby d_jdk_33_method_13_33) rfl ?_
            refine gImul X0 hx (hb hby d_jdk_33_method_13_34) ?_
            refine gIstoreN X0 hx (hb hby d_jdk_33_method_13_35) (l' := #[.val (.int (-n.toInt32)), .val (.int (0 : Int32)), .val (.int (-1000000 : Int32)), .val (.int (5 : Int32))]) rfl ?_
            refine gIinc X0 hx (hb hby d_jdk_33_method_13_36) (v := (6 : Int32)) rfl rfl (l' := #[.val (.int (-n.toInt32)), .val (.int (0 : Int32)), .val (.int (-1000000 : Int32)), .val (.int (6 : Int32))]) rfl ?_
            refine gGoto X0 hx (hb hby d_jdk_33_method_13_39) (pc' := 16) (by decide) (by decide) ?_
            show Goes p e below _ (s₁.setTop (mkF m 16 #[.val (.int (-n.toInt32)), .val (.int (0 : Int32)), .val (.int (-1000000 : Int32)), .val (.int (6 : Int32))] []))
            refine gIloadN X0 hx (hb hby d_jdk_33_method_13_16) rfl ?_
            refine gBipush X0 hx (hb hby d_jdk_33_method_13_17) (v := (10 : Int32)) rfl ?_
            refine gIcmpN X0 hx (hb hby d_jdk_33_method_13_19) (XT.ii_ge_f (by decide)) ?_
            show Goes p e below _ (s₁.setTop (mkF m 22 #[.val (.int (-n.toInt32)), .val (.int (0 : Int32)), .val (.int (-1000000 : Int32)), .val (.int (6 : Int32))] []))
            refine gIloadN X0 hx (hb hby d_jdk_33_method_13_22) rfl ?_
            refine gIloadN X0 hx (hb hby d_jdk_33_method_13_23) rfl ?_
            by_cases g6 : n < 1000000
            · refine gIcmpN X0 hx (hb hby d_jdk_33_method_13_24) (XT.ii_le_f ((own_ng (k := 1000000) hn (by decide)).mpr g6)) ?_
              show Goes p e below _ (s₁.setTop (mkF m 27 #[.val (.int (-n.toInt32)), .val (.int (0 : Int32)), .val (.int (-1000000 : Int32)), .val (.int (6 : Int32))] []))
              refine gIloadN X0 hx (hb hby d_jdk_33_method_13_27) rfl ?_
              refine gIloadN X0 hx (hb hby d_jdk_33_method_13_28) rfl ?_
              refine gIadd X0 hx (hb hby d_jdk_33_method_13_29) ?_
              exact goRetI X0 hx hret hlocks (hb hby d_jdk_33_method_13_30) (by decide) (by decide) e0 (⟨6, rfl, N0, rfl, by decide, by decide, by show 100000 ≤ n; omega, g6⟩)
            · refine gIcmpY X0 hx (hb hby d_jdk_33_method_13_24) (pc' := 31) (XT.ii_le_t (fun q => g6 ((own_ng (k := 1000000) hn (by decide)).mp q))) (by decide) (by decide) ?_
              show Goes p e below _ (s₁.setTop (mkF m 31 #[.val (.int (-n.toInt32)), .val (.int (0 : Int32)), .val (.int (-1000000 : Int32)), .val (.int (6 : Int32))] []))
              refine gBipush X0 hx (hb hby d_jdk_33_method_13_31) (v := (10 : Int32)) rfl ?_
              refine gIloadN X0 hx (hb hby d_jdk_33_method_13_33) rfl ?_
              refine gImul X0 hx (hb hby d_jdk_33_method_13_34) ?_
              refine gIstoreN X0 hx (hb hby d_jdk_33_method_13_35) (l' := #[.val (.int (-n.toInt32)), .val (.int (0 : Int32)), .val (.int (-10000000 : Int32)), .val (.int (6 : Int32))]) rfl ?_
              refine gIinc X0 hx (hb hby d_jdk_33_method_13_36) (v := (7 : Int32)) rfl rfl (l' := #[.val (.int (-n.toInt32)), .val (.int (0 : Int32)), .val (.int (-10000000 : Int32)), .val (.int (7 : Int32))]) rfl ?_
              refine gGoto X0 hx (hb hby d_jdk_33_method_13_39) (pc' := 16) (by decide) (by decide) ?_
              show Goes p e below _ (s₁.setTop (mkF m 16 #[.val (.int (-n.toInt32)), .val (.int (0 : Int32)), .val (.int (-10000000 : Int32)), .val (.int (7 : Int32))] []))
              refine gIloadN X0 hx (hb hby d_jdk_33_method_13_16) rfl ?_
              refine gBipush X0 hx (hb hby d_jdk_33_method_13_17) (v := (10 : Int32)) rfl ?_
              refine gIcmpN X0 hx (hb hby d_jdk_33_method_13_19) (XT.ii_ge_f (by decide)) ?_
              show Goes p e below _ (s₁.setTop (mkF m 22 #[.val (.int (-n.toInt32)), .val (.int (0 : Int32)), .val (.int (-10000000 : Int32)), .val (.int (7 : Int32))] []))
              refine gIloadN X0 hx (hb hby d_jdk_33_method_13_22) rfl ?_
              refine gIloadN X0 hx (hb hby d_jdk_33_method_13_23) rfl ?_
              by_cases g7 : n < 10000000
              · refine gIcmpN X0 hx (hb hby d_jdk_33_method_13_24) (XT.ii_le_f ((own_ng (k := 10000000) hn (by decide)).mpr g7)) ?_
                show Goes p e below _ (s₁.setTop (mkF m 27 #[.val (.int (-n.toInt32)), .val (.int (0 : Int32)), .val (.int (-10000000 : Int32)), .val (.int (7 : Int32))] []))
                refine gIloadN X0 hx (hb hby d_jdk_33_method_13_27) rfl ?_
                refine gIloadN X0 hx (hb hby d_jdk_33_method_13_28) rfl ?_
                refine gIadd X0 hx (hb hby d_jdk_33_method_13_29) ?_
                exact goRetI X0 hx hret hlocks (hb hby d_jdk_33_method_13_30) (by decide) (by decide) e0 (⟨7, rfl, N0, rfl, by decide, by decide, by show 1000000 ≤ n; omega, g7⟩)
              · refine gIcmpY X0 hx (hb hby d_jdk_33_method_13_24) (pc' := 31) (XT.ii_le_t (fun q => g7 ((own_ng (k := 10000000) hn (by decide)).mp q))) (by decide) (by decide) ?_
                show Goes p e below _ (s₁.setTop (mkF m 31 #[.val (.int (-n.toInt32)), .val (.int (0 : Int32)), .val (.int (-10000000 : Int32)), .val (.int (7 : Int32))] []))
                refine gBipush X0 hx (hb hby d_jdk_33_method_13_31) (v := (10 : Int32)) rfl ?_
                refine gIloadN X0 hx (hb hby d_jdk_33_method_13_33) rfl ?_
                refine gImul X0 hx (hb hby d_jdk_33_method_13_34) ?_
                refine gIstoreN X0 hx (hb hby d_jdk_33_method_13_35) (l' := #[.val (.int (-n.toInt32)), .val (.int (0 : Int32)), .val (.int (-100000000 : Int32)), .val (.int (7 : Int32))]) rfl ?_
                refine gIinc X0 hx (hb hby d_jdk_33_method_13_36) (v := (8 : Int32)) rfl rfl (l' := #[.val (.int (-n.toInt32)), .val (.int (0 : Int32)), .val (.int (-100000000 : Int32)), .val (.int (8 : Int32))]) rfl ?_
                refine gGoto X0 hx (hb hby d_jdk_33_method_13_39) (pc' := 16) (by decide) (by decide) ?_
                show Goes p e below _ (s₁.setTop (mkF m 16 #[.val (.int (-n.toInt32)), .val (.int (0 : Int32)), .val (.int (-100000000 : Int32)), .val (.int (8 : Int32))] []))
                refine gIloadN X0 hx (hb hby d_jdk_33_method_13_16) rfl ?_
                refine gBipush X0 hx (hb hby d_jdk_33_method_13_17) (v := (10 : Int32)) rfl ?_
                refine gIcmpN X0 hx (hb hby d_jdk_33_method_13_19) (XT.ii_ge_f (by decide)) ?_
                show Goes p e below _ (s₁.setTop (mkF m 22 #[.val (.int (-n.toInt32)), .val (.int (0 : Int32)), .val (.int (-100000000 : Int32)), .val (.int (8 : Int32))] []))
                refine gIloadN X0 hx (hb hby d_jdk_33_method_13_22) rfl ?_
                refine gIloadN X0 hx (hb hby d_jdk_33_method_13_23) rfl ?_
                by_cases g8 : n < 100000000
                · refine gIcmpN X0 hx (hb hby d_jdk_33_method_13_24) (XT.ii_le_f ((own_ng (k := 100000000) hn (by decide)).mpr g8)) ?_
                  show Goes p e below _ (s₁.setTop (mkF m 27 #[.val (.int (-n.toInt32)), .val (.int (0 : Int32)), .val (.int (-100000000 : Int32)), .val (.int (8 : Int32))] []))
                  refine gIloadN X0 hx (hb hby d_jdk_33_method_13_27) rfl ?_
                  refine gIloadN X0 hx (hb hby d_jdk_33_method_13_28) rfl ?_
                  refine gIadd X0 hx (hb hby d_jdk_33_method_13_29) ?_
                  exact goRetI X0 hx hret hlocks (hb hby d_jdk_33_method_13_30) (by decide) (by decide) e0 (⟨8, rfl, N0, rfl, by decide, by decide, by show 10000000 ≤ n; omega, g8⟩)
                · refine gIcmpY X0 hx (hb hby d_jdk_33_method_13_24) (pc' := 31) (XT.ii_le_t (fun q => g8 ((own_ng (k := 100000000) hn (by decide)).mp q))) (by decide) (by decide) ?_
                  show Goes p e below _ (s₁.setTop (mkF m 31 #[.val (.int (-n.toInt32)), .val (.int (0 : Int32)), .val (.int (-100000000 : Int32)), .val (.int (8 : Int32))] []))
                  refine gBipush X0 hx (hb hby d_jdk_33_method_13_31) (v := (10 : Int32)) rfl ?_
                  refine gIloadN X0 hx (hb hby d_jdk_33_method_13_33) rfl ?_
                  refine gImul X0 hx (hb hby d_jdk_33_method_13_34) ?_
                  refine gIstoreN X0 hx (hb hby d_jdk_33_method_13_35) (l' := #[.val (.int (-n.toInt32)), .val (.int (0 : Int32)), .val (.int (-1000000000 : Int32)), .val (.int (8 : Int32))]) rfl ?_
                  refine gIinc X0 hx (hb hby d_jdk_33_method_13_36) (v := (9 : Int32)) rfl rfl (l' := #[.val (.int (-n.toInt32)), .val (.int (0 : Int32)), .val (.int (-1000000000 : Int32)), .val (.int (9 : Int32))]) rfl ?_
                  refine gGoto X0 hx (hb hby d_jdk_33_method_13_39) (pc' := 16) (by decide) (by decide) ?_
                  show Goes p e below _ (s₁.setTop (mkF m 16 #[.val (.int (-n.toInt32)), .val (.int (0 : Int32)), .val (.int (-1000000000 : Int32)), .val (.int (9 : Int32))] []))
                  refine gIloadN X0 hx (hb hby d_jdk_33_method_13_16) rfl ?_
                  refine gBipush X0 hx (hb hby d_jdk_33_method_13_17) (v := (10 : Int32)) rfl ?_
                  refine gIcmpN X0 hx (hb hby d_jdk_33_method_13_19) (XT.ii_ge_f (by decide)) ?_
                  show Goes p e below _ (s₁.setTop (mkF m 22 #[.val (.int (-n.toInt32)), .val (.int (0 : Int32)), .val (.int (-1000000000 : Int32)), .val (.int (9 : Int32))] []))
                  refine gIloadN X0 hx (hb hby d_jdk_33_method_13_22) rfl ?_
                  refine gIloadN X0 hx (hb hby d_jdk_33_method_13_23) rfl ?_
                  by_cases g9 : n < 1000000000
                  · refine gIcmpN X0 hx (hb hby d_jdk_33_method_13_24) (XT.ii_le_f ((own_ng (k := 1000000000) hn (by decide)).mpr g9)) ?_
                    show Goes p e below _ (s₁.setTop (mkF m 27 #[.val (.int (-n.toInt32)), .val (.int (0 : Int32)), .val (.int (-1000000000 : Int32)), .val (.int (9 : Int32))] []))
                    refine gIloadN X0 hx (hb hby d_jdk_33_method_13_27) rfl ?_
                    refine gIloadN X0 hx (hb hby d_jdk_33_method_13_28) rfl ?_
                    refine gIadd X0 hx (hb hby d_jdk_33_method_13_29) ?_
                    exact goRetI X0 hx hret hlocks (hb hby d_jdk_33_method_13_30) (by decide) (by decide) e0 (⟨9, rfl, N0, rfl, by decide, by decide, by show 100000000 ≤ n; omega, g9⟩)
                  · refine gIcmpY X0 hx (hb hby d_jdk_33_method_13_24) (pc' := 31) (XT.ii_le_t (fun q => g9 ((own_ng (k := 1000000000) hn (by decide)).mp q))) (by decide) (by decide) ?_
                    show Goes p e below _ (s₁.setTop (mkF m 31 #[.val (.int (-n.toInt32)), .val (.int (0 : Int32)), .val (.int (-1000000000 : Int32)), .val (.int (9 : Int32))] []))
                    refine gBipush X0 hx (hb hby d_jdk_33_method_13_31) (v := (10 : Int32)) rfl ?_
                    refine gIloadN X0 hx (hb hby d_jdk_33_method_13_33) rfl ?_
                    refine gImul X0 hx (hb hby d_jdk_33_method_13_34) ?_
                    refine gIstoreN X0 hx (hb hby d_jdk_33_method_13_35) (l' := #[.val (.int (-n.toInt32)), .val (.int (0 : Int32)), .val (.int ((10 : Int32) * (-1000000000 : Int32))), .val (.int (9 : Int32))]) rfl ?_
                    refine gIinc X0 hx (hb hby d_jdk_33_method_13_36) (v := (10 : Int32)) rfl rfl (l' := #[.val (.int (-n.toInt32)), .val (.int (0 : Int32)), .val (.int ((10 : Int32) * (-1000000000 : Int32))), .val (.int (10 : Int32))]) rfl ?_
                    refine gGoto X0 hx (hb hby d_jdk_33_method_13_39) (pc' := 16) (by decide) (by decide) ?_
                    show Goes p e below _ (s₁.setTop (mkF m 16 #[.val (.int (-n.toInt32)), .val (.int (0 : Int32)), .val (.int ((10 : Int32) * (-1000000000 : Int32))), .val (.int (10 : Int32))] []))
                    refine gIloadN X0 hx (hb hby d_jdk_33_method_13_16) rfl ?_
                    refine gBipush X0 hx (hb hby d_jdk_33_method_13_17) (v := (10 : Int32)) rfl ?_
                    refine gIcmpY X0 hx (hb hby d_jdk_33_method_13_19) (pc' := 42) (XT.ii_ge_t (by decide)) (by decide) (by decide) ?_
                    show Goes p e below _ (s₁.setTop (mkF m 42 #[.val (.int (-n.toInt32)), .val (.int (0 : Int32)), .val (.int ((10 : Int32) * (-1000000000 : Int32))), .val (.int (10 : Int32))] []))
                    refine gBipush X0 hx (hb hby d_jdk_33_method_13_42) (v := (10 : Int32)) rfl ?_
                    refine gIloadN X0 hx (hb hby d_jdk_33_method_13_44) rfl ?_
                    refine gIadd X0 hx (hb hby d_jdk_33_method_13_45) ?_
                    exact goRetI X0 hx hret hlocks (hb hby d_jdk_33_method_13_46) (by decide) (by decide) e0 (⟨10, rfl, N0, rfl, by decide, by decide, by show 1000000000 ≤ n; omega, by show n < 10000000000; omega⟩)
theorem d_jdk_68_method_68_0 : decode jdk_68_method_68_code 0 = .ok (.getstatic 18, 3) := by decide +kernel
theorem d_jdk_68_method_68_3 : decode jdk_68_method_68_code 3 = .ok (.ifCond .eq 14, 3) := by decide +kernel
theorem d_jdk_68_method_68_6 : decode jdk_68_method_68_code 6 = .ok (.aload_n 0, 1) := by decide +kernel
theorem d_jdk_68_method_68_7 : decode jdk_68_method_68_code 7 = .ok (.getfield 22, 3) := by decide +kernel
theorem d_jdk_68_method_68_10 : decode jdk_68_method_68_code 10 = .ok (.ifCond .ne 7, 3) := by decide +kernel
theorem d_jdk_68_method_68_13 : decode jdk_68_method_68_code 13 = .ok (.iconst 1, 1) := by decide +kernel
theorem d_jdk_68_method_68_14 : decode jdk_68_method_68_code 14 = .ok (.goto 4, 3) := by decide +kernel
theorem d_jdk_68_method_68_18 : decode jdk_68_method_68_code 18 = .ok (.ireturn, 1) := by decide +kernel
theorem ef_rmIl (m : MethodId) (x0 : Addr) : entryFrame m #[(.ref x0)] 1 = mkF m 0 #[.val (.ref x0)] [] := by first | (simp [entryFrame, mkF, argsToLocals, Value.category]; done) | rfl
set_option maxRecDepth 65536 in
set_option maxHeartbeats 40000000 in
theorem rmIl (l : Launch) (Z : State) (a0 : Array Value) (hw : ∀ d ∈ tables_1, d.before a0 Z = true) (cs : Int32) (a1 : Addr) (h0 : Heap) (O0 : Ext Z.heap h0) (S_cs : Sta Z Z.heap "java/lang/String" "COMPACT_STRINGS" "Z" (.int cs)) (hcs : ¬ cs = 0) (C1 : Fld Z h0 a1 "java/lang/AbstractStringBuilder" "coder" "B" (.int (0 : Int32))) :
    Ctr l Z (⟨"java/lang/AbstractStringBuilder", "isLatin1", "()Z"⟩ : MethodName) jdk_68_method_68_code 1 (some .boolean) [] ({ frames := 0, cells := 0, slots := 0, locals := 0 } : Room) #[(.ref a1)] h0 (fun v h L => v = some (.int 1) ∧ Fr Z.heap.size L ∧ h = h0) := by
  refine ctr (plainFor_of_name pn_0) ?_
  intro p e s m below meth c s₁ hx hby hml hown hnm hret hlocks hZ X0 e0
  have N0 := Fr.nil Z.heap.size
  have hsz : ∀ {Ls : Array Slot}, Ls.size = 1 → Ls.size = c.maxLocals := fun q => q.trans hml.symm
  refine goE (ef_rmIl m (a1)) ?_
  show Goes p e below _ (s₁.setTop (mkF m 0 #[.val (.ref a1)] []))
  obtain ⟨Tt1, Xt1, et1, stt1⟩ := getS2 X0 hx hZ hown (host := "") (Or.inl (hw _ (List.mem_of_getElem? (i := 80) rfl))) Via.refl e0 (S_cs.ext O0) (g := (mkF m 0 #[.val (.ref a1)] [])) rfl (hb hby d_jdk_68_method_68_0)
  refine go stt1 ?_
  show Goes p e below _ (Tt1.setTop (mkF m 3 #[.val (.ref a1)] [(.int cs)]))
  refine gIfN Xt1 hx (hb hby d_jdk_68_method_68_3) (XT.i0_eq_f hcs) ?_
  show Goes p e below _ (Tt1.setTop (mkF m 6 #[.val (.ref a1)] []))
  refine gAloadN Xt1 hx (hb hby d_jdk_68_method_68_6) rfl rfl ?_
  obtain ⟨Tt2, Xt2, et2, stt2⟩ := getF Xt1 hx hZ hown (host := "") (Or.inl (hw _ (List.mem_of_getElem? (i := 83) rfl))) Via.refl et1 C1 (g := (mkF m 7 #[.val (.ref a1)] [(.ref a1)])) rfl rfl (hb hby d_jdk_68_method_68_7)
  refine go stt2 ?_
  show Goes p e below _ (Tt2.setTop (mkF m 10 #[.val (.ref a1)] [(.int (0 : Int32))]))
  refine gIfN Xt2 hx (hb hby d_jdk_68_method_68_10) (XT.i0_ne_f (by decide)) ?_
  show Goes p e below _ (Tt2.setTop (mkF m 13 #[.val (.ref a1)] []))
  refine gIconst Xt2 hx (hb hby d_jdk_68_method_68_13) (v := (1 : Int32)) rfl ?_
  refine gGoto Xt2 hx (hb hby d_jdk_68_method_68_14) (pc' := 18) (by decide) (by decide) ?_
  show Goes p e below _ (Tt2.setTop (mkF m 18 #[.val (.ref a1)] [(.int (1 : Int32))]))
  exact goRetN Xt2 hx (t := .boolean) hret hlocks (by simp) (hb hby d_jdk_68_method_68_18) (z' := (1 : Int32)) rfl (by decide) (by decide) et2 (⟨rfl, N0, rfl⟩)
theorem d_jdk_33_method_12_0 : decode jdk_33_method_12_code 0 = .ok (.iload_n 1, 1) := by decide +kernel
theorem d_jdk_33_method_12_1 : decode jdk_33_method_12_code 1 = .ok (.istore 5, 2) := by decide +kernel
theorem d_jdk_33_method_12_3 : decode jdk_33_method_12_code 3 = .ok (.iload_n 0, 1) := by decide +kernel
theorem d_jdk_33_method_12_4 : decode jdk_33_method_12_code 4 = .ok (.ifCond .ge 7, 3) := by decide +kernel
theorem d_jdk_33_method_12_11 : decode jdk_33_method_12_code 11 = .ok (.iconst 0, 1) := by decide +kernel
theorem d_jdk_33_method_12_12 : decode jdk_33_method_12_code 12 = .ok (.istore 6, 2) := by decide +kernel
theorem d_jdk_33_method_12_14 : decode jdk_33_method_12_code 14 = .ok (.iload 6, 2) := by decide +kernel
theorem d_jdk_33_method_12_16 : decode jdk_33_method_12_code 16 = .ok (.ifCond .ne 6, 3) := by decide +kernel
theorem d_jdk_33_method_12_19 : decode jdk_33_method_12_code 19 = .ok (.iload_n 0, 1) := by decide +kernel
theorem d_jdk_33_method_12_20 : decode jdk_33_method_12_code 20 = .ok (.ineg, 1) := by decide +kernel
theorem d_jdk_33_method_12_21 : decode jdk_33_method_12_code 21 = .ok (.istore_n 0, 1) := by decide +kernel
theorem d_jdk_33_method_12_22 : decode jdk_33_method_12_code 22 = .ok (.iload_n 0, 1) := by decide +kernel
theorem d_jdk_33_method_12_23 : decode jdk_33_method_12_code 23 = .ok (.bipush (-100), 2) := by decide +kernel
theorem d_jdk_33_method_12_25 : decode jdk_33_method_12_code 25 = .ok (.if_icmp .gt 47, 3) := by decide +kernel
theorem d_jdk_33_method_12_72 : decode jdk_33_method_12_code 72 = .ok (.aload_n 2, 1) := by decide +kernel
theorem d_jdk_33_method_12_73 : decode jdk_33_method_12_code 73 = .ok (.iinc 5 (-1), 3) := by decide +kernel
theorem d_jdk_33_method_12_76 : decode jdk_33_method_12_code 76 = .ok (.iload 5, 2) := by decide +kernel
theorem d_jdk_33_method_12_78 : decode jdk_33_method_12_code 78 = .ok (.getstatic 83, 3) := by decide +kernel
theorem d_jdk_33_method_12_81 : decode jdk_33_method_12_code 81 = .ok (.iload_n 0, 1) := by decide +kernel
theorem d_jdk_33_method_12_82 : decode jdk_33_method_12_code 82 = .ok (.ineg, 1) := by decide +kernel
theorem d_jdk_33_method_12_83 : decode jdk_33_method_12_code 83 = .ok (.baload, 1) := by decide +kernel
theorem d_jdk_33_method_12_84 : decode jdk_33_method_12_code 84 = .ok (.bastore, 1) := by decide +kernel
theorem d_jdk_33_method_12_85 : decode jdk_33_method_12_code 85 = .ok (.iload_n 0, 1) := by decide +kernel
theorem d_jdk_33_method_12_86 : decode jdk_33_method_12_code 86 = .ok (.bipush (-9), 2) := by decide +kernel
theorem d_jdk_33_method_12_88 : decode jdk_33_method_12_code 88 = .ok (.if_icmp .ge 16, 3) := by decide +kernel
theorem d_jdk_33_method_12_104 : decode jdk_33_method_12_code 104 = .ok (.iload 6, 2) := by decide +kernel
theorem d_jdk_33_method_12_106 : decode jdk_33_method_12_code 106 = .ok (.ifCond .eq 12, 3) := by decide +kernel
theorem d_jdk_33_method_12_118 : decode jdk_33_method_12_code 118 = .ok (.iload 5, 2) := by decide +kernel
theorem d_jdk_33_method_12_120 : decode jdk_33_method_12_code 120 = .ok (.ireturn, 1) := by decide +kernel
theorem d_jdk_33_method_12_91 : decode jdk_33_method_12_code 91 = .ok (.aload_n 2, 1) := by decide +kernel
theorem d_jdk_33_method_12_92 : decode jdk_33_method_12_code 92 = .ok (.iinc 5 (-1), 3) := by decide +kernel
theorem d_jdk_33_method_12_95 : decode jdk_33_method_12_code 95 = .ok (.iload 5, 2) := by decide +kernel
theorem d_jdk_33_method_12_97 : decode jdk_33_method_12_code 97 = .ok (.getstatic 87, 3) := by decide +kernel
theorem d_jdk_33_method_12_100 : decode jdk_33_method_12_code 100 = .ok (.iload_n 0, 1) := by decide +kernel
theorem d_jdk_33_method_12_101 : decode jdk_33_method_12_code 101 = .ok (.ineg, 1) := by decide +kernel
theorem d_jdk_33_method_12_102 : decode jdk_33_method_12_code 102 = .ok (.baload, 1) := by decide +kernel
theorem d_jdk_33_method_12_103 : decode jdk_33_method_12_code 103 = .ok (.bastore, 1) := by decide +kernel
theorem d_jdk_33_method_12_28 : decode jdk_33_method_12_code 28 = .ok (.iload_n 0, 1) := by decide +kernel
theorem d_jdk_33_method_12_29 : decode jdk_33_method_12_code 29 = .ok (.bipush 100, 2) := by decide +kernel
theorem d_jdk_33_method_12_31 : decode jdk_33_method_12_code 31 = .ok (.idiv, 1) := by decide +kernel
theorem d_jdk_33_method_12_32 : decode jdk_33_method_12_code 32 = .ok (.istore_n 3, 1) := by decide +kernel
theorem d_jdk_33_method_12_33 : decode jdk_33_method_12_code 33 = .ok (.iload_n 3, 1) := by decide +kernel
theorem d_jdk_33_method_12_34 : decode jdk_33_method_12_code 34 = .ok (.bipush 100, 2) := by decide +kernel
theorem d_jdk_33_method_12_36 : decode jdk_33_method_12_code 36 = .ok (.imul, 1) := by decide +kernel
theorem d_jdk_33_method_12_37 : decode jdk_33_method_12_code 37 = .ok (.iload_n 0, 1) := by decide +kernel
theorem d_jdk_33_method_12_38 : decode jdk_33_method_12_code 38 = .ok (.isub, 1) := by decide +kernel
theorem d_jdk_33_method_12_39 : decode jdk_33_method_12_code 39 = .ok (.istore 4, 2) := by decide +kernel
theorem d_jdk_33_method_12_41 : decode jdk_33_method_12_code 41 = .ok (.iload_n 3, 1) := by decide +kernel
theorem d_jdk_33_method_12_42 : decode jdk_33_method_12_code 42 = .ok (.istore_n 0, 1) := by decide +kernel
theorem d_jdk_33_method_12_43 : decode jdk_33_method_12_code 43 = .ok (.aload_n 2, 1) := by decide +kernel
theorem d_jdk_33_method_12_44 : decode jdk_33_method_12_code 44 = .ok (.iinc 5 (-1), 3) := by decide +kernel
theorem d_jdk_33_method_12_47 : decode jdk_33_method_12_code 47 = .ok (.iload 5, 2) := by decide +kernel
theorem d_jdk_33_method_12_49 : decode jdk_33_method_12_code 49 = .ok (.getstatic 83, 3) := by decide +kernel
theorem d_jdk_33_method_12_52 : decode jdk_33_method_12_code 52 = .ok (.iload 4, 2) := by decide +kernel
theorem d_jdk_33_method_12_54 : decode jdk_33_method_12_code 54 = .ok (.baload, 1) := by decide +kernel
theorem d_jdk_33_method_12_55 : decode jdk_33_method_12_code 55 = .ok (.bastore, 1) := by decide +kernel
theorem d_jdk_33_method_12_56 : decode jdk_33_method_12_code 56 = .ok (.aload_n 2, 1) := by decide +kernel
theorem d_jdk_33_method_12_57 : decode jdk_33_method_12_code 57 = .ok (.iinc 5 (-1), 3) := by decide +kernel
theorem d_jdk_33_method_12_60 : decode jdk_33_method_12_code 60 = .ok (.iload 5, 2) := by decide +kernel
theorem d_jdk_33_method_12_62 : decode jdk_33_method_12_code 62 = .ok (.getstatic 87, 3) := by decide +kernel
theorem d_jdk_33_method_12_65 : decode jdk_33_method_12_code 65 = .ok (.iload 4, 2) := by decide +kernel
theorem d_jdk_33_method_12_67 : decode jdk_33_method_12_code 67 = .ok (.baload, 1) := by decide +kernel
theorem d_jdk_33_method_12_68 : decode jdk_33_method_12_code 68 = .ok (.bastore, 1) := by decide +kernel
theorem d_jdk_33_method_12_69 : decode jdk_33_method_12_code 69 = .ok (.goto (-47), 3) := by decide +kernel
theorem ef_rmGc (m : MethodId) (x0 : Int32) (x1 : Int32) (x2 : Addr) : entryFrame m #[(.int x0), (.int x1), (.ref x2)] 7 = mkF m 0 #[.val (.int x0), .val (.int x1), .val (.ref x2), .unset, .unset, .unset, .unset] [] := by first | (simp [entryFrame, mkF, argsToLocals, Value.category]; done) | rfl
set_option maxRecDepth 65536 in
set_option maxHeartbeats 40000000 in
theorem rmGc (l : Launch) (Z : State) (a0 : Array Value) (hw : ∀ d ∈ tables_1, d.before a0 Z = true) (o1 o2 : Addr) (n st d : Nat) (X R : List Int8) (b1 : Addr) (h0 : Heap) (O0 : Ext Z.heap h0) (S_o : Sta Z Z.heap "java/lang/Integer" "DigitOnes" "[B" (.ref o1)) (S_t : Sta Z Z.heap "java/lang/Integer" "DigitTens" "[B" (.ref o2)) (Yo : Ary Z h0 o1 .byte (own_bv own_on)) (Yt : Ary Z h0 o2 .byte (own_bv own_te)) (Y1 : Ary Z h0 b1 .byte (own_bv (X ++ R))) (hX : X.length = st + d) (hst : st < 1000) (hd10 : d ≤ 10) (hn : n < 2 ^ 31) (hD : own_D n d) (no1 : o1 ≠ b1) (no2 : o2 ≠ b1) (frb : Z.heap.size ≤ b1) :
    Ctr l Z (⟨"java/lang/Integer", "getChars", "(II[B)I"⟩ : MethodName) jdk_33_method_12_code 7 (some .int) [] ({ frames := 0, cells := 0, slots := 0, locals := 0 } : Room) #[(.int n.toInt32), (.int (st + d).toInt32), (.ref b1)] h0 (fun v h L => v = some (.int st.toInt32) ∧ Fr Z.heap.size L ∧ Keep h0 h [b1] ∧ Ary Z h b1 .byte (own_bv (X.take st ++ (own_dg d n ++ R)))) := by
  refine ctr (plainFor_of_name pn_5) ?_
  intro p e s m below meth c s₁ hx hby hml hown hnm hret hlocks hZ X0 e0
  have N0 := Fr.nil Z.heap.size
  have hsz : ∀ {Ls : Array Slot}, Ls.size = 7 → Ls.size = c.maxLocals := fun q => q.trans hml.symm
  have K0 := Keep.refl h0 [b1]
  refine goE (ef_rmGc m (n.toInt32) ((st + d).toInt32) (b1)) ?_
  show Goes p e below _ (s₁.setTop (mkF m 0 #[.val (.int n.toInt32), .val (.int (st + d).toInt32), .val (.ref b1), .unset, .unset, .unset, .unset] []))
  refine gIloadN X0 hx (hb hby d_jdk_33_method_12_0) rfl ?_
  refine gIstore X0 hx (hb hby d_jdk_33_method_12_1) (l' := #[.val (.int n.toInt32), .val (.int (st + d).toInt32), .val (.ref b1), .unset, .unset, .val (.int (st + d).toInt32), .unset]) rfl ?_
  refine gIloadN X0 hx (hb hby d_jdk_33_method_12_3) rfl ?_
  refine gIfY X0 hx (hb hby d_jdk_33_method_12_4) (pc' := 11) (XT.i0_ge_t (own_natn hn)) (by decide) (by decide) ?_
  show Goes p e below _ (s₁.setTop (mkF m 11 #[.val (.int n.toInt32), .val (.int (st + d).toInt32), .val (.ref b1), .unset, .unset, .val (.int (st + d).toInt32), .unset] []))
  refine gIconst X0 hx (hb hby d_jdk_33_method_12_11) (v := (0 : Int32)) rfl ?_
  refine gIstore X0 hx (hb hby d_jdk_33_method_12_12) (l' := #[.val (.int n.toInt32), .val (.int (st + d).toInt32), .val (.ref b1), .unset, .unset, .val (.int (st + d).toInt32), .val (.int (0 : Int32))]) rfl ?_
  refine gIload X0 hx (hb hby d_jdk_33_method_12_14) rfl ?_
  refine gIfN X0 hx (hb hby d_jdk_33_method_12_16) (XT.i0_ne_f rfl) ?_
  show Goes p e below _ (s₁.setTop (mkF m 19 #[.val (.int n.toInt32), .val (.int (st + d).toInt32), .val (.ref b1), .unset, .unset, .val (.int (st + d).toInt32), .val (.int (0 : Int32))] []))
  refine gIloadN X0 hx (hb hby d_jdk_33_method_12_19) rfl ?_
  refine gIneg X0 hx (hb hby d_jdk_33_method_12_20) ?_
  refine gIstoreN X0 hx (hb hby d_jdk_33_method_12_21) (l' := #[.val (.int (-n.toInt32)), .val (.int (st + d).toInt32), .val (.ref b1), .unset, .unset, .val (.int (st + d).toInt32), .val (.int (0 : Int32))]) rfl ?_
  have loop : ∀ (k : Nat) (eg : Nat) (m_ : Nat) (x3 : Int32) (x4 : Int32) (XX : List Int8) (RR : List Int8) (T_ : State) (h_ : Heap) (lc_ : List Loc), (eg ≤ k) → (eg ≤ 10) → (m_ < 2 ^ 31) → (own_D m_ eg) → (XX.length = st + eg) → (XX.take st ++ (own_dg eg m_ ++ RR) = X.take st ++ (own_dg d n ++ R)) → (Stand p l e ({ frames := 0, cells := 0, slots := 0, locals := 0 } : Room) s m #[(.int n.toInt32), (.int (st + d).toInt32), (.ref b1)] below meth c T_ lc_ 0 0) → (T_.heap = h_) → (Fr Z.heap.size lc_) → (Keep h0 h_ [b1]) → (Ext Z.heap h_) → (Ary Z h_ o1 .byte (own_bv own_on)) → (Ary Z h_ o2 .byte (own_bv own_te)) → (Ary Z h_ b1 .byte (own_bv (XX ++ RR))) → Goes p e below (EndN s (fun v h L => v = some (.int st.toInt32) ∧ Fr Z.heap.size L ∧ Keep h0 h [b1] ∧ Ary Z h b1 .byte (own_bv (X.take st ++ (own_dg d n ++ R)))) ({ frames := 0, cells := 0, slots := 0, locals := 0 } : Room).cells ({ frames := 0, cells := 0, slots := 0, locals := 0 } : Room).slots) (T_.setTop (mkF m 22 #[.val (.int (-m_.toInt32)), .val (.int (st + d).toInt32), .val (.ref b1), .val (.int x3), .val (.int x4), .val (.int (st + eg).toInt32), .val (.int (0 : Int32))] [])) := by
    intro k
    induction k with
    | zero =>
      intro eg m_ x3 x4 XX RR T_ h_ lc_ hek he10 hm31 hDD hXX hFF X_ e_ N_ K_ O_ Yo Yt Y1
      exact absurd hDD.1 (by omega)
    | succ k ih =>
      intro eg m_ x3 x4 XX RR T_ h_ lc_ hek he10 hm31 hDD hXX hFF X_ e_ N_ K_ O_ Yo Yt Y1
      show Goes p e below _ (T_.setTop (mkF m 22 #[.val (.int (-m_.toInt32)), .val (.int (st + d).toInt32), .val (.ref b1), .val (.int x3), .val (.int x4), .val (.int (st + eg).toInt32), .val (.int (0 : Int32))] []))
      refine gIloadN X_ hx (hb hby d_jdk_33_method_12_22) rfl ?_
      refine gBipush X_ hx (hb hby d_jdk_33_method_12_23) (v := (-100 : Int32)) rfl ?_
      by_cases g : m_ < 100
      · have hpos := hDD.1
        refine gIcmpY X_ hx (hb hby d_jdk_33_method_12_25) (pc' := 72) (XT.ii_gt_t ((own_ng (k := 100) (by omega) (by decide)).mpr g)) (by decide) (by decide) ?_
        show Goes p e below _ (T_.setTop (mkF m 72 #[.val (.int (-m_.toInt32)), .val (.int (st + d).toInt32), .val (.ref b1), .val (.int x3), .val (.int x4), .val (.int (st + eg).toInt32), .val (.int (0 : Int32))] []))
        refine gAloadN X_ hx (hb hby d_jdk_33_method_12_72) rfl rfl ?_
        refine gIinc X_ hx (hb hby d_jdk_33_method_12_73) (v := ((st + eg).toInt32 + (-1 : Int32))) rfl rfl (l' := #[.val (.int (-m_.toInt32)), .val (.int (st + d).toInt32), .val (.ref b1), .val (.int x3), .val (.int x4), .val (.int ((st + eg).toInt32 + (-1 : Int32))), .val (.int (0 : Int32))]) rfl ?_
        show Goes p e below _ (T_.setTop (mkF m 76 #[.val (.int (-m_.toInt32)), .val (.int (st + d).toInt32), .val (.ref b1), .val (.int x3), .val (.int x4), .val (.int ((st + eg).toInt32 + (-1 : Int32))), .val (.int (0 : Int32))] [(.ref b1)]))
        rw [own_pred (n := (st + eg)) (by omega) (by omega)]
        show Goes p e below _ (T_.setTop (mkF m 76 #[.val (.int (-m_.toInt32)), .val (.int (st + d).toInt32), .val (.ref b1), .val (.int x3), .val (.int x4), .val (.int ((st + eg) - 1).toInt32), .val (.int (0 : Int32))] [(.ref b1)]))
        refine gIload X_ hx (hb hby d_jdk_33_method_12_76) rfl ?_
        obtain ⟨Tt1, Xt1, et1, stt1⟩ := getS2 X_ hx hZ hown (host := "") (Or.inl (hw _ (List.mem_of_getElem? (i := 154) rfl))) Via.refl e_ (S_o.ext O_) (g := (mkF m 78 #[.val (.int (-m_.toInt32)), .val (.int (st + d).toInt32), .val (.ref b1), .val (.int x3), .val (.int x4), .val (.int ((st + eg) - 1).toInt32), .val (.int (0 : Int32))] [(.int ((st + eg) - 1).toInt32), (.ref b1)])) rfl (hb hby d_jdk_33_method_12_78)
        refine go stt1 ?_
        show Goes p e below _ (Tt1.setTop (mkF m 81 #[.val (.int (-m_.toInt32)), .val (.int (st + d).toInt32), .val (.ref b1), .val (.int x3), .val (.int x4), .val (.int ((st + eg) - 1).toInt32), .val (.int (0 : Int32))] [(.ref o1), (.int ((st + eg) - 1).toInt32), (.ref b1)]))
        refine gIloadN Xt1 hx (hb hby d_jdk_33_method_12_81) rfl ?_
        refine gIneg Xt1 hx (hb hby d_jdk_33_method_12_82) ?_
        show Goes p e below _ (Tt1.setTop (mkF m 83 #[.val (.int (-m_.toInt32)), .val (.int (st + d).toInt32), .val (.ref b1), .val (.int x3), .val (.int x4), .val (.int ((st + eg) - 1).toInt32), .val (.int (0 : Int32))] [(.int (-(-m_.toInt32))), (.ref o1), (.int ((st + eg) - 1).toInt32), (.ref b1)]))
        rw [own_nn2 (by omega)]
        show Goes p e below _ (Tt1.setTop (mkF m 83 #[.val (.int (-m_.toInt32)), .val (.int (st + d).toInt32), .val (.ref b1), .val (.int x3), .val (.int x4), .val (.int ((st + eg) - 1).toInt32), .val (.int (0 : Int32))] [(.int m_.toInt32), (.ref o1), (.int ((st + eg) - 1).toInt32), (.ref b1)]))
        refine goBaload Xt1 hx hZ et1 Yo (x := ((48 + m_ % 10).toInt8.toInt32)) (hb hby d_jdk_33_method_12_83) (own_natn (by omega)) (own_on_at (by omega)) ?_
        show Goes p e below _ (Tt1.setTop (mkF m 84 #[.val (.int (-m_.toInt32)), .val (.int (st + d).toInt32), .val (.ref b1), .val (.int x3), .val (.int x4), .val (.int ((st + eg) - 1).toInt32), .val (.int (0 : Int32))] [(.int ((48 + m_ % 10).toInt8.toInt32)), (.int ((st + eg) - 1).toInt32), (.ref b1)]))
        refine goBastore Xt1 hx hZ et1 Y1 (hb hby d_jdk_33_method_12_84) (own_natn (by omega)) (own_bex (by rw [List.length_append]; omega) (by omega)) (fun Tt2 ht2 Xt2 et2 Wt2 => ?_)
        have N3 := Fr.snoc Xt2 N_ frb
        replace Y1 : Ary Z ht2 b1 .byte (own_bv (XX.dropLast ++ (48 + m_ % 10).toInt8 :: RR)) := Y1.set Wt2 (own_setl (48 + m_ % 10).toInt8 (by omega) (by omega))
        replace Yo := Yo.other Wt2 no1
        replace Yt := Yt.other Wt2 no2
        have O4 : Ext Z.heap ht2 := extW O_ Wt2 frb
        have K5 := K_.wr Wt2 (Or.inl (by simp))
        show Goes p e below _ (Tt2.setTop (mkF m 85 #[.val (.int (-m_.toInt32)), .val (.int (st + d).toInt32), .val (.ref b1), .val (.int x3), .val (.int x4), .val (.int ((st + eg) - 1).toInt32), .val (.int (0 : Int32))] []))
        refine gIloadN Xt2 hx (hb hby d_jdk_33_method_12_85) rfl ?_
        refine gBipush Xt2 hx (hb hby d_jdk_33_method_12_86) (v := (-9 : Int32)) rfl ?_
        by_cases g9 : 9 < m_
        · obtain rfl : eg = 2 := own_Duniq hDD ⟨by decide, by show 10 ≤ m_; omega, by show m_ < 100; omega⟩
          refine gIcmpN Xt2 hx (hb hby d_jdk_33_method_12_88) (XT.ii_ge_f ((own_ng2 (k := 9) (by omega) (by decide)).mpr g9)) ?_
          show Goes p e below _ (Tt2.setTop (mkF m 91 #[.val (.int (-m_.toInt32)), .val (.int (st + d).toInt32), .val (.ref b1), .val (.int x3), .val (.int x4), .val (.int ((st + 2) - 1).toInt32), .val (.int (0 : Int32))] []))
          have l2 : XX.dropLast.length = st + 2 - 1 := by rw [List.length_dropLast]; omega
          refine gAloadN Xt2 hx (hb hby d_jdk_33_method_12_91) rfl rfl ?_
          refine gIinc Xt2 hx (hb hby d_jdk_33_method_12_92) (v := (((st + 2) - 1).toInt32 + (-1 : Int32))) rfl rfl (l' := #[.val (.int (-m_.toInt32)), .val (.int (st + d).toInt32), .val (.ref b1), .val (.int x3), .val (.int x4), .val (.int (((st + 2) - 1).toInt32 + (-1 : Int32))), .val (.int (0 : Int32))]) rfl ?_
          show Goes p e below _ (Tt2.setTop (mkF m 95 #[.val (.int (-m_.toInt32)), .val (.int (st + d).toInt32), .val (.ref b1), .val (.int x3), .val (.int x4), .val (.int (((st + 2) - 1).toInt32 + (-1 : Int32))), .val (.int (0 : Int32))] [(.ref b1)]))
          rw [own_pred (n := (st + 2 - 1)) (by omega) (by omega)]
          show Goes p e below _ (Tt2.setTop (mkF m 95 #[.val (.int (-m_.toInt32)), .val (.int (st + d).toInt32), .val (.ref b1), .val (.int x3), .val (.int x4), .val (.int ((st + 2 - 1) - 1).toInt32), .val (.int (0 : Int32))] [(.ref b1)]))
          refine gIload Xt2 hx (hb hby d_jdk_33_method_12_95) rfl ?_
          obtain ⟨Tt6, Xt6, et6, stt6⟩ := getS2 Xt2 hx hZ hown (host := "") (Or.inl (hw _ (List.mem_of_getElem? (i := 232) rfl))) Via.refl et2 (S_t.ext O4) (g := (mkF m 97 #[.val (.int (-m_.toInt32)), .val (.int (st + d).toInt32), .val (.ref b1), .val (.int x3), .val (.int x4), .val (.int ((st + 2 - 1) - 1).toInt32), .val (.int (0 : Int32))] [(.int ((st + 2 - 1) - 1).toInt32), (.ref b1)])) rfl (hb hby d_jdk_33_method_12_97)
          refine go stt6 ?_
          show Goes p e below _ (Tt6.setTop (mkF m 100 #[.val (.int (-m_.toInt32)), .val (.int (st + d).toInt32), .val (.ref b1), .val (.int x3), .val (.int x4), .val (.int ((st + 2 - 1) - 1).toInt32), .val (.int (0 : Int32))] [(.ref o2), (.int ((st + 2 - 1) - 1).toInt32), (.ref b1)]))
          refine gIloadN Xt6 hx (hb hby d_jdk_33_method_12_100) rfl ?_
          refine gIneg Xt6 hx (hb hby d_jdk_33_method_12_101) ?_
          show Goes p e below _ (Tt6.setTop (mkF m 102 #[.val (.int (-m_.toInt32)), .val (.int (st + d).toInt32), .val (.ref b1), .val (.int x3), .val (.int x4), .val (.int ((st + 2 - 1) - 1).toInt32), .val (.int (0 : Int32))] [(.int (-(-m_.toInt32))), (.ref o2), (.int ((st + 2 - 1) - 1).toInt32), (.ref b1)]))
          rw [own_nn2 (by omega)]
          show Goes p e below _ (Tt6.setTop (mkF m 102 #[.val (.int (-m_.toInt32)), .val (.int (st + d).toInt32), .val (.ref b1), .val (.int x3), .val (.int x4), .val (.int ((st + 2 - 1) - 1).toInt32), .val (.int (0 : Int32))] [(.int m_.toInt32), (.ref o2), (.int ((st + 2 - 1) - 1).toInt32), (.ref b1)]))
          refine goBaload Xt6 hx hZ et6 Yt (x := ((48 + m_ / 10).toInt8.toInt32)) (hb hby d_jdk_33_method_12_102) (own_natn (by omega)) (own_te_at (by omega)) ?_
          show Goes p e below _ (Tt6.setTop (mkF m 103 #[.val (.int (-m_.toInt32)), .val (.int (st + d).toInt32), .val (.ref b1), .val (.int x3), .val (.int x4), .val (.int ((st + 2 - 1) - 1).toInt32), .val (.int (0 : Int32))] [(.int ((48 + m_ / 10).toInt8.toInt32)), (.int ((st + 2 - 1) - 1).toInt32), (.ref b1)]))
          refine goBastore Xt6 hx hZ et6 Y1 (hb hby d_jdk_33_method_12_103) (own_natn (by omega)) (own_bex (by rw [List.length_append]; omega) (by omega)) (fun Tt7 ht7 Xt7 et7 Wt7 => ?_)
          have N8 := Fr.snoc Xt7 N3 frb
          replace Y1 : Ary Z ht7 b1 .byte (own_bv (XX.dropLast.dropLast ++ (48 + m_ / 10).toInt8 :: ((48 + m_ % 10).toInt8 :: RR))) := Y1.set Wt7 (own_setl (48 + m_ / 10).toInt8 (by omega) (by omega))
          replace Yo := Yo.other Wt7 no1
          replace Yt := Yt.other Wt7 no2
          have O9 : Ext Z.heap ht7 := extW O4 Wt7 frb
          have K10 := K5.wr Wt7 (Or.inl (by simp))
          show Goes p e below _ (Tt7.setTop (mkF m 104 #[.val (.int (-m_.toInt32)), .val (.int (st + d).toInt32), .val (.ref b1), .val (.int x3), .val (.int x4), .val (.int ((st + 2 - 1) - 1).toInt32), .val (.int (0 : Int32))] []))
          refine gIload Xt7 hx (hb hby d_jdk_33_method_12_104) rfl ?_
          refine gIfY Xt7 hx (hb hby d_jdk_33_method_12_106) (pc' := 118) (XT.i0_eq_t rfl) (by decide) (by decide) ?_
          show Goes p e below _ (Tt7.setTop (mkF m 118 #[.val (.int (-m_.toInt32)), .val (.int (st + d).toInt32), .val (.ref b1), .val (.int x3), .val (.int x4), .val (.int ((st + 2 - 1) - 1).toInt32), .val (.int (0 : Int32))] []))
          refine gIload Xt7 hx (hb hby d_jdk_33_method_12_118) rfl ?_
          show Goes p e below _ (Tt7.setTop (mkF m 120 #[.val (.int (-m_.toInt32)), .val (.int (st + d).toInt32), .val (.ref b1), .val (.int x3), .val (.int x4), .val (.int ((st + 2 - 1) - 1).toInt32), .val (.int (0 : Int32))] [(.int ((st + 2 - 1) - 1).toInt32)]))
          rw [show st + 2 - 1 - 1 = st from by omega]
          show Goes p e below _ (Tt7.setTop (mkF m 120 #[.val (.int (-m_.toInt32)), .val (.int (st + d).toInt32), .val (.ref b1), .val (.int x3), .val (.int x4), .val (.int st.toInt32), .val (.int (0 : Int32))] [(.int st.toInt32)]))
          exact goRetI Xt7 hx hret hlocks (hb hby d_jdk_33_method_12_120) (by decide) (by decide) et7 (⟨rfl, N8, K10, by
              rw [← hFF, own_dg2 (by decide), show m_ % 100 = m_ by omega, show XX.take st = XX.dropLast.dropLast by rw [List.dropLast_eq_take, List.dropLast_eq_take, List.take_take, List.length_take]; congr 1; omega]
              exact Y1⟩)
        · obtain rfl : eg = 1 := own_Duniq hDD ⟨by decide, by show 1 ≤ m_; exact Nat.le_trans (Nat.one_le_pow _ _ (by decide)) hDD.2.1, by show m_ < 10; omega⟩
          refine gIcmpY Xt2 hx (hb hby d_jdk_33_method_12_88) (pc' := 104) (XT.ii_ge_t (fun q => g9 ((own_ng2 (k := 9) (by omega) (by decide)).mp q))) (by decide) (by decide) ?_
          show Goes p e below _ (Tt2.setTop (mkF m 104 #[.val (.int (-m_.toInt32)), .val (.int (st + d).toInt32), .val (.ref b1), .val (.int x3), .val (.int x4), .val (.int ((st + 1) - 1).toInt32), .val (.int (0 : Int32))] []))
          refine gIload Xt2 hx (hb hby d_jdk_33_method_12_104) rfl ?_
          refine gIfY Xt2 hx (hb hby d_jdk_33_method_12_106) (pc' := 118) (XT.i0_eq_t rfl) (by decide) (by decide) ?_
          show Goes p e below _ (Tt2.setTop (mkF m 118 #[.val (.int (-m_.toInt32)), .val (.int (st + d).toInt32), .val (.ref b1), .val (.int x3), .val (.int x4), .val (.int ((st + 1) - 1).toInt32), .val (.int (0 : Int32))] []))
          refine gIload Xt2 hx (hb hby d_jdk_33_method_12_118) rfl ?_
          show Goes p e below _ (Tt2.setTop (mkF m 120 #[.val (.int (-m_.toInt32)), .val (.int (st + d).toInt32), .val (.ref b1), .val (.int x3), .val (.int x4), .val (.int ((st + 1) - 1).toInt32), .val (.int (0 : Int32))] [(.int ((st + 1) - 1).toInt32)]))
          rw [show st + 1 - 1 = st from by omega]
          show Goes p e below _ (Tt2.setTop (mkF m 120 #[.val (.int (-m_.toInt32)), .val (.int (st + d).toInt32), .val (.ref b1), .val (.int x3), .val (.int x4), .val (.int st.toInt32), .val (.int (0 : Int32))] [(.int st.toInt32)]))
          exact goRetI Xt2 hx hret hlocks (hb hby d_jdk_33_method_12_120) (by decide) (by decide) et2 (⟨rfl, N3, K5, by rw [← hFF]; rw [show XX.take st = XX.dropLast by rw [List.dropLast_eq_take]; congr 1; omega]; exact Y1⟩)
      · obtain ⟨h3, hD2⟩ := own_D100 hDD g
        refine gIcmpN X_ hx (hb hby d_jdk_33_method_12_25) (XT.ii_gt_f (fun q => g ((own_ng (k := 100) (by omega) (by decide)).mp q))) ?_
        show Goes p e below _ (T_.setTop (mkF m 28 #[.val (.int (-m_.toInt32)), .val (.int (st + d).toInt32), .val (.ref b1), .val (.int x3), .val (.int x4), .val (.int (st + eg).toInt32), .val (.int (0 : Int32))] []))
        refine gIloadN X_ hx (hb hby d_jdk_33_method_12_28) rfl ?_
        refine gBipush X_ hx (hb hby d_jdk_33_method_12_29) (v := (100 : Int32)) rfl ?_
        refine gIdiv X_ hx (hb hby d_jdk_33_method_12_31) (by decide) ?_
        show Goes p e below _ (T_.setTop (mkF m 32 #[.val (.int (-m_.toInt32)), .val (.int (st + d).toInt32), .val (.ref b1), .val (.int x3), .val (.int x4), .val (.int (st + eg).toInt32), .val (.int (0 : Int32))] [(.int ((-m_.toInt32) / (100 : Int32)))]))
        rw [own_nd (by omega)]
        show Goes p e below _ (T_.setTop (mkF m 32 #[.val (.int (-m_.toInt32)), .val (.int (st + d).toInt32), .val (.ref b1), .val (.int x3), .val (.int x4), .val (.int (st + eg).toInt32), .val (.int (0 : Int32))] [(.int (-(m_ / 100).toInt32))]))
        refine gIstoreN X_ hx (hb hby d_jdk_33_method_12_32) (l' := #[.val (.int (-m_.toInt32)), .val (.int (st + d).toInt32), .val (.ref b1), .val (.int (-(m_ / 100).toInt32)), .val (.int x4), .val (.int (st + eg).toInt32), .val (.int (0 : Int32))]) rfl ?_
        refine gIloadN X_ hx (hb hby d_jdk_33_method_12_33) rfl ?_
        refine gBipush X_ hx (hb hby d_jdk_33_method_12_34) (v := (100 : Int32)) rfl ?_
        refine gImul X_ hx (hb hby d_jdk_33_method_12_36) ?_
        refine gIloadN X_ hx (hb hby d_jdk_33_method_12_37) rfl ?_
        refine gIsub X_ hx (hb hby d_jdk_33_method_12_38) ?_
        show Goes p e below _ (T_.setTop (mkF m 39 #[.val (.int (-m_.toInt32)), .val (.int (st + d).toInt32), .val (.ref b1), .val (.int (-(m_ / 100).toInt32)), .val (.int x4), .val (.int (st + eg).toInt32), .val (.int (0 : Int32))] [(.int (((-(m_ / 100).toInt32) * (100 : Int32)) - (-m_.toInt32)))]))
        rw [own_nr (by omega)]
        show Goes p e below _ (T_.setTop (mkF m 39 #[.val (.int (-m_.toInt32)), .val (.int (st + d).toInt32), .val (.ref b1), .val (.int (-(m_ / 100).toInt32)), .val (.int x4), .val (.int (st + eg).toInt32), .val (.int (0 : Int32))] [(.int (m_ % 100).toInt32)]))
        refine gIstore X_ hx (hb hby d_jdk_33_method_12_39) (l' := #[.val (.int (-m_.toInt32)), .val (.int (st + d).toInt32), .val (.ref b1), .val (.int (-(m_ / 100).toInt32)), .val (.int (m_ % 100).toInt32), .val (.int (st + eg).toInt32), .val (.int (0 : Int32))]) rfl ?_
        refine gIloadN X_ hx (hb hby d_jdk_33_method_12_41) rfl ?_
        refine gIstoreN X_ hx (hb hby d_jdk_33_method_12_42) (l' := #[.val (.int (-(m_ / 100).toInt32)), .val (.int (st + d).toInt32), .val (.ref b1), .val (.int (-(m_ / 100).toInt32)), .val (.int (m_ % 100).toInt32), .val (.int (st + eg).toInt32), .val (.int (0 : Int32))]) rfl ?_
        refine gAloadN X_ hx (hb hby d_jdk_33_method_12_43) rfl rfl ?_
        refine gIinc X_ hx (hb hby d_jdk_33_method_12_44) (v := ((st + eg).toInt32 + (-1 : Int32))) rfl rfl (l' := #[.val (.int (-(m_ / 100).toInt32)), .val (.int (st + d).toInt32), .val (.ref b1), .val (.int (-(m_ / 100).toInt32)), .val (.int (m_ % 100).toInt32), .val (.int ((st + eg).toInt32 + (-1 : Int32))), .val (.int (0 : Int32))]) rfl ?_
        show Goes p e below _ (T_.setTop (mkF m 47 #[.val (.int (-(m_ / 100).toInt32)), .val (.int (st + d).toInt32), .val (.ref b1), .val (.int (-(m_ / 100).toInt32)), .val (.int (m_ % 100).toInt32), .val (.int ((st + eg).toInt32 + (-1 : Int32))), .val (.int (0 : Int32))] [(.ref b1)]))
        rw [own_pred (n := (st + eg)) (by omega) (by omega)]
        show Goes p e below _ (T_.setTop (mkF m 47 #[.val (.int (-(m_ / 100).toInt32)), .val (.int (st + d).toInt32), .val (.ref b1), .val (.int (-(m_ / 100).toInt32)), .val (.int (m_ % 100).toInt32), .val (.int ((st + eg) - 1).toInt32), .val (.int (0 : Int32))] [(.ref b1)]))
        refine gIload X_ hx (hb hby d_jdk_33_method_12_47) rfl ?_
        obtain ⟨Tt11, Xt11, et11, stt11⟩ := getS2 X_ hx hZ hown (host := "") (Or.inl (hw _ (List.mem_of_getElem? (i := 154) rfl))) Via.refl e_ (S_o.ext O_) (g := (mkF m 49 #[.val (.int (-(m_ / 100).toInt32)), .val (.int (st + d).toInt32), .val (.ref b1), .val (.int (-(m_ / 100).toInt32)), .val (.int (m_ % 100).toInt32), .val (.int ((st + eg) - 1).toInt32), .val (.int (0 : Int32))] [(.int ((st + eg) - 1).toInt32), (.ref b1)])) rfl (hb hby d_jdk_33_method_12_49)
        refine go stt11 ?_
        show Goes p e below _ (Tt11.setTop (mkF m 52 #[.val (.int (-(m_ / 100).toInt32)), .val (.int (st + d).toInt32), .val (.ref b1), .val (.int (-(m_ / 100).toInt32)), .val (.int (m_ % 100).toInt32), .val (.int ((st + eg) - 1).toInt32), .val (.int (0 : Int32))] [(.ref o1), (.int ((st + eg) - 1).toInt32), (.ref b1)]))
        refine gIload Xt11 hx (hb hby d_jdk_33_method_12_52) rfl ?_
        refine goBaload Xt11 hx hZ et11 Yo (x := ((48 + m_ % 100 % 10).toInt8.toInt32)) (hb hby d_jdk_33_method_12_54) (own_natn (by omega)) (own_on_at (by omega)) ?_
        show Goes p e below _ (Tt11.setTop (mkF m 55 #[.val (.int (-(m_ / 100).toInt32)), .val (.int (st + d).toInt32), .val (.ref b1), .val (.int (-(m_ / 100).toInt32)), .val (.int (m_ % 100).toInt32), .val (.int ((st + eg) - 1).toInt32), .val (.int (0 : Int32))] [(.int ((48 + m_ % 100 % 10).toInt8.toInt32)), (.int ((st + eg) - 1).toInt32), (.ref b1)]))
        refine goBastore Xt11 hx hZ et11 Y1 (hb hby d_jdk_33_method_12_55) (own_natn (by omega)) (own_bex (by rw [List.length_append]; omega) (by omega)) (fun Tt12 ht12 Xt12 et12 Wt12 => ?_)
        have N13 := Fr.snoc Xt12 N_ frb
        replace Y1 : Ary Z ht12 b1 .byte (own_bv (XX.dropLast ++ (48 + m_ % 100 % 10).toInt8 :: RR)) := Y1.set Wt12 (own_setl (48 + m_ % 100 % 10).toInt8 (by omega) (by omega))
        replace Yo := Yo.other Wt12 no1
        replace Yt := Yt.other Wt12 no2
        have O14 : Ext Z.heap ht12 := extW O_ Wt12 frb
        have K15 := K_.wr Wt12 (Or.inl (by simp))
        show Goes p e below _ (Tt12.setTop (mkF m 56 #[.val (.int (-(m_ / 100).toInt32)), .val (.int (st + d).toInt32), .val (.ref b1), .val (.int (-(m_ / 100).toInt32)), .val (.int (m_ % 100).toInt32), .val (.int ((st + eg) - 1).toInt32), .val (.int (0 : Int32))] []))
        have l2 : XX.dropLast.length = st + eg - 1 := by rw [List.length_dropLast]; omega
        refine gAloadN Xt12 hx (hb hby d_jdk_33_method_12_56) rfl rfl ?_
        refine gIinc Xt12 hx (hb hby d_jdk_33_method_12_57) (v := (((st + eg) - 1).toInt32 + (-1 : Int32))) rfl rfl (l' := #[.val (.int (-(m_ / 100).toInt32)), .val (.int (st + d).toInt32), .val (.ref b1), .val (.int (-(m_ / 100).toInt32)), .val (.int (m_ % 100).toInt32), .val (.int (((st + eg) - 1).toInt32 + (-1 : Int32))), .val (.int (0 : Int32))]) rfl ?_
        show Goes p e below _ (Tt12.setTop (mkF m 60 #[.val (.int (-(m_ / 100).toInt32)), .val (.int (st + d).toInt32), .val (.ref b1), .val (.int (-(m_ / 100).toInt32)), .val (.int (m_ % 100).toInt32), .val (.int (((st + eg) - 1).toInt32 + (-1 : Int32))), .val (.int (0 : Int32))] [(.ref b1)]))
        rw [own_pred (n := (st + eg - 1)) (by omega) (by omega)]
        show Goes p e below _ (Tt12.setTop (mkF m 60 #[.val (.int (-(m_ / 100).toInt32)), .val (.int (st + d).toInt32), .val (.ref b1), .val (.int (-(m_ / 100).toInt32)), .val (.int (m_ % 100).toInt32), .val (.int ((st + eg - 1) - 1).toInt32), .val (.int (0 : Int32))] [(.ref b1)]))
        refine gIload Xt12 hx (hb hby d_jdk_33_method_12_60) rfl ?_
        obtain ⟨Tt16, Xt16, et16, stt16⟩ := getS2 Xt12 hx hZ hown (host := "") (Or.inl (hw _ (List.mem_of_getElem? (i := 232) rfl))) Via.refl et12 (S_t.ext O14) (g := (mkF m 62 #[.val (.int (-(m_ / 100).toInt32)), .val (.int (st + d).toInt32), .val (.ref b1), .val (.int (-(m_ / 100).toInt32)), .val (.int (m_ % 100).toInt32), .val (.int ((st + eg - 1) - 1).toInt32), .val (.int (0 : Int32))] [(.int ((st + eg - 1) - 1).toInt32), (.ref b1)])) rfl (hb hby d_jdk_33_method_12_62)
        refine go stt16 ?_
        show Goes p e below _ (Tt16.setTop (mkF m 65 #[.val (.int (-(m_ / 100).toInt32)), .val (.int (st + d).toInt32), .val (.ref b1), .val (.int (-(m_ / 100).toInt32)), .val (.int (m_ % 100).toInt32), .val (.int ((st + eg - 1) - 1).toInt32), .val (.int (0 : Int32))] [(.ref o2), (.int ((st + eg - 1) - 1).toInt32), (.ref b1)]))
        refine gIload Xt16 hx (hb hby d_jdk_33_method_12_65) rfl ?_
        refine goBaload Xt16 hx hZ et16 Yt (x := ((48 + m_ % 100 / 10).toInt8.toInt32)) (hb hby d_jdk_33_method_12_67) (own_natn (by omega)) (own_te_at (by omega)) ?_
        show Goes p e below _ (Tt16.setTop (mkF m 68 #[.val (.int (-(m_ / 100).toInt32)), .val (.int (st + d).toInt32), .val (.ref b1), .val (.int (-(m_ / 100).toInt32)), .val (.int (m_ % 100).toInt32), .val (.int ((st + eg - 1) - 1).toInt32), .val (.int (0 : Int32))] [(.int ((48 + m_ % 100 / 10).toInt8.toInt32)), (.int ((st + eg - 1) - 1).toInt32), (.ref b1)]))
        refine goBastore Xt16 hx hZ et16 Y1 (hb hby d_jdk_33_method_12_68) (own_natn (by omega)) (own_bex (by rw [List.length_append]; omega) (by omega)) (fun Tt17 ht17 Xt17 et17 Wt17 => ?_)
        have N18 := Fr.snoc Xt17 N13 frb
        replace Y1 : Ary Z ht17 b1 .byte (own_bv (XX.dropLast.dropLast ++ (48 + m_ % 100 / 10).toInt8 :: ((48 + m_ % 100 % 10).toInt8 :: RR))) := Y1.set Wt17 (own_setl (48 + m_ % 100 / 10).toInt8 (by omega) (by omega))
        replace Yo := Yo.other Wt17 no1
        replace Yt := Yt.other Wt17 no2
        have O19 : Ext Z.heap ht17 := extW O14 Wt17 frb
        have K20 := K15.wr Wt17 (Or.inl (by simp))
        show Goes p e below _ (Tt17.setTop (mkF m 69 #[.val (.int (-(m_ / 100).toInt32)), .val (.int (st + d).toInt32), .val (.ref b1), .val (.int (-(m_ / 100).toInt32)), .val (.int (m_ % 100).toInt32), .val (.int ((st + eg - 1) - 1).toInt32), .val (.int (0 : Int32))] []))
        refine gGoto Xt17 hx (hb hby d_jdk_33_method_12_69) (pc' := 22) (by decide) (by decide) ?_
        show Goes p e below _ (Tt17.setTop (mkF m 22 #[.val (.int (-(m_ / 100).toInt32)), .val (.int (st + d).toInt32), .val (.ref b1), .val (.int (-(m_ / 100).toInt32)), .val (.int (m_ % 100).toInt32), .val (.int ((st + eg - 1) - 1).toInt32), .val (.int (0 : Int32))] []))
        show Goes p e below _ (Tt17.setTop (mkF m 22 #[.val (.int (-(m_ / 100).toInt32)), .val (.int (st + d).toInt32), .val (.ref b1), .val (.int (-(m_ / 100).toInt32)), .val (.int (m_ % 100).toInt32), .val (.int ((st + eg - 1) - 1).toInt32), .val (.int (0 : Int32))] []))
        rw [show st + eg - 1 - 1 = st + (eg - 2) from by omega]
        show Goes p e below _ (Tt17.setTop (mkF m 22 #[.val (.int (-(m_ / 100).toInt32)), .val (.int (st + d).toInt32), .val (.ref b1), .val (.int (-(m_ / 100).toInt32)), .val (.int (m_ % 100).toInt32), .val (.int (st + (eg - 2)).toInt32), .val (.int (0 : Int32))] []))
        exact ih (eg - 2) (m_ / 100) _ _ XX.dropLast.dropLast ((48 + m_ % 100 / 10).toInt8 :: (48 + m_ % 100 % 10).toInt8 :: RR) Tt17 ht17 _ (by omega) (by omega) (by omega) hD2 (by rw [List.length_dropLast]; omega) (by rw [← hFF, own_dg2 (e := eg) (by omega), List.append_assoc, own_dlt (by rw [List.length_dropLast]; omega), own_dlt (by omega)]; rfl) Xt17 et17 N18 K20 O19 Yo Yt Y1
  show Goes p e below _ (s₁.setTop (mkF m 22 #[.val (.int (-n.toInt32)), .val (.int (st + d).toInt32), .val (.ref b1), .unset, .unset, .val (.int (st + d).toInt32), .val (.int (0 : Int32))] []))
  have hDD := hD
  refine gIloadN X0 hx (hb hby d_jdk_33_method_12_22) rfl ?_
  refine gBipush X0 hx (hb hby d_jdk_33_method_12_23) (v := (-100 : Int32)) rfl ?_
  by_cases g : n < 100
  · obtain ⟨eg, he_⟩ : ∃ z, z = d := ⟨_, rfl⟩
    rw [← he_] at hDD hX hd10 ⊢
    show Goes p e below _ (s₁.setTop (mkF m 25 #[.val (.int (-n.toInt32)), .val (.int (st + eg).toInt32), .val (.ref b1), .unset, .unset, .val (.int (st + eg).toInt32), .val (.int (0 : Int32))] [(.int (-100 : Int32)), (.int (-n.toInt32))]))
    have hpos := hDD.1
    refine gIcmpY X0 hx (hb hby d_jdk_33_method_12_25) (pc' := 72) (XT.ii_gt_t ((own_ng (k := 100) (by omega) (by decide)).mpr g)) (by decide) (by decide) ?_
    show Goes p e below _ (s₁.setTop (mkF m 72 #[.val (.int (-n.toInt32)), .val (.int (st + eg).toInt32), .val (.ref b1), .unset, .unset, .val (.int (st + eg).toInt32), .val (.int (0 : Int32))] []))
    have hFF : X.take st ++ (own_dg eg n ++ R) = X.take st ++ (own_dg eg n ++ R) := rfl
    refine gAloadN X0 hx (hb hby d_jdk_33_method_12_72) rfl rfl ?_
    refine gIinc X0 hx (hb hby d_jdk_33_method_12_73) (v := ((st + eg).toInt32 + (-1 : Int32))) rfl rfl (l' := #[.val (.int (-n.toInt32)), .val (.int (st + eg).toInt32), .val (.ref b1), .unset, .unset, .val (.int ((st + eg).toInt32 + (-1 : Int32))), .val (.int (0 : Int32))]) rfl ?_
    show Goes p e below _ (s₁.setTop (mkF m 76 #[.val (.int (-n.toInt32)), .val (.int (st + eg).toInt32), .val (.ref b1), .unset, .unset, .val (.int ((st + eg).toInt32 + (-1 : Int32))), .val (.int (0 : Int32))] [(.ref b1)]))
    rw [own_pred (n := (st + eg)) (by omega) (by omega)]
    show Goes p e below _ (s₁.setTop (mkF m 76 #[.val (.int (-n.toInt32)), .val (.int (st + eg).toInt32), .val (.ref b1), .unset, .unset, .val (.int ((st + eg) - 1).toInt32), .val (.int (0 : Int32))] [(.ref b1)]))
    refine gIload X0 hx (hb hby d_jdk_33_method_12_76) rfl ?_
    obtain ⟨Tt21, Xt21, et21, stt21⟩ := getS2 X0 hx hZ hown (host := "") (Or.inl (hw _ (List.mem_of_getElem? (i := 154) rfl))) Via.refl e0 (S_o.ext O0) (g := (mkF m 78 #[.val (.int (-n.toInt32)), .val (.int (st + eg).toInt32), .val (.ref b1), .unset, .unset, .val (.int ((st + eg) - 1).toInt32), .val (.int (0 : Int32))] [(.int ((st + eg) - 1).toInt32), (.ref b1)])) rfl (hb hby d_jdk_33_method_12_78)
    refine go stt21 ?_
    show Goes p e below _ (Tt21.setTop (mkF m 81 #[.val (.int (-n.toInt32)), .val (.int (st + eg).toInt32), .val (.ref b1), .unset, .unset, .val (.int ((st + eg) - 1).toInt32), .val (.int (0 : Int32))] [(.ref o1), (.int ((st + eg) - 1).toInt32), (.ref b1)]))
    refine gIloadN Xt21 hx (hb hby d_jdk_33_method_12_81) rfl ?_
    refine gIneg Xt21 hx (hb hby d_jdk_33_method_12_82) ?_
    show Goes p e below _ (Tt21.setTop (mkF m 83 #[.val (.int (-n.toInt32)), .val (.int (st + eg).toInt32), .val (.ref b1), .unset, .unset, .val (.int ((st + eg) - 1).toInt32), .val (.int (0 : Int32))] [(.int (-(-n.toInt32))), (.ref o1), (.int ((st + eg) - 1).toInt32), (.ref b1)]))
    rw [own_nn2 (by omega)]
    show Goes p e below _ (Tt21.setTop (mkF m 83 #[.val (.int (-n.toInt32)), .val (.int (st + eg).toInt32), .val (.ref b1), .unset, .unset, .val (.int ((st + eg) - 1).toInt32), .val (.int (0 : Int32))] [(.int n.toInt32), (.ref o1), (.int ((st + eg) - 1).toInt32), (.ref b1)]))
    refine goBaload Xt21 hx hZ et21 Yo (x := ((48 + n % 10).toInt8.toInt32)) (hb hby d_jdk_33_method_12_83) (own_natn (by omega)) (own_on_at (by omega)) ?_
    show Goes p e below _ (Tt21.setTop (mkF m 84 #[.val (.int (-n.toInt32)), .val (.int (st + eg).toInt32), .val (.ref b1), .unset, .unset, .val (.int ((st + eg) - 1).toInt32), .val (.int (0 : Int32))] [(.int ((48 + n % 10).toInt8.toInt32)), (.int ((st + eg) - 1).toInt32), (.ref b1)]))
    refine goBastore Xt21 hx hZ et21 Y1 (hb hby d_jdk_33_method_12_84) (own_natn (by omega)) (own_bex (by rw [List.length_append]; omega) (by omega)) (fun Tt22 ht22 Xt22 et22 Wt22 => ?_)
    have N23 := Fr.snoc Xt22 N0 frb
    replace Y1 : Ary Z ht22 b1 .byte (own_bv (X.dropLast ++ (48 + n % 10).toInt8 :: R)) := Y1.set Wt22 (own_setl (48 + n % 10).toInt8 (by omega) (by omega))
    replace Yo := Yo.other Wt22 no1
    replace Yt := Yt.other Wt22 no2
    have O24 : Ext Z.heap ht22 := extW O0 Wt22 frb
    have K25 := K0.wr Wt22 (Or.inl (by simp))
    show Goes p e below _ (Tt22.setTop (mkF m 85 #[.val (.int (-n.toInt32)), .val (.int (st + eg).toInt32), .val (.ref b1), .unset, .unset, .val (.int ((st + eg) - 1).toInt32), .val (.int (0 : Int32))] []))
    refine gIloadN Xt22 hx (hb hby d_jdk_33_method_12_85) rfl ?_
    refine gBipush Xt22 hx (hb hby d_jdk_33_method_12_86) (v := (-9 : Int32)) rfl ?_
    by_cases g9 : 9 < n
    · obtain rfl : eg = 2 := own_Duniq hDD ⟨by decide, by show 10 ≤ n; omega, by show n < 100; omega⟩
      refine gIcmpN Xt22 hx (hb hby d_jdk_33_method_12_88) (XT.ii_ge_f ((own_ng2 (k := 9) (by omega) (by decide)).mpr g9)) ?_
      show Goes p e below _ (Tt22.setTop (mkF m 91 #[.val (.int (-n.toInt32)), .val (.int (st + 2).toInt32), .val (.ref b1), .unset, .unset, .val (.int ((st + 2) - 1).toInt32), .val (.int (0 : Int32))] []))
      have l2 : X.dropLast.length = st + 2 - 1 := by rw [List.length_dropLast]; omega
      refine gAloadN Xt22 hx (hb hby d_jdk_33_method_12_91) rfl rfl ?_
      refine gIinc Xt22 hx (hb hby d_jdk_33_method_12_92) (v := (((st + 2) - 1).toInt32 + (-1 : Int32))) rfl rfl (l' := #[.val (.int (-n.toInt32)), .val (.int (st + 2).toInt32), .val (.ref b1), .unset, .unset, .val (.int (((st + 2) - 1).toInt32 + (-1 : Int32))), .val (.int (0 : Int32))]) rfl ?_
      show Goes p e below _ (Tt22.setTop (mkF m 95 #[.val (.int (-n.toInt32)), .val (.int (st + 2).toInt32), .val (.ref b1), .unset, .unset, .val (.int (((st + 2) - 1).toInt32 + (-1 : Int32))), .val (.int (0 : Int32))] [(.ref b1)]))
      rw [own_pred (n := (st + 2 - 1)) (by omega) (by omega)]
      show Goes p e below _ (Tt22.setTop (mkF m 95 #[.val (.int (-n.toInt32)), .val (.int (st + 2).toInt32), .val (.ref b1), .unset, .unset, .val (.int ((st + 2 - 1) - 1).toInt32), .val (.int (0 : Int32))] [(.ref b1)]))
      refine gIload Xt22 hx (hb hby d_jdk_33_method_12_95) rfl ?_
      obtain ⟨Tt26, Xt26, et26, stt26⟩ := getS2 Xt22 hx hZ hown (host := "") (Or.inl (hw _ (List.mem_of_getElem? (i := 232) rfl))) Via.refl et22 (S_t.ext O24) (g := (mkF m 97 #[.val (.int (-n.toInt32)), .val (.int (st + 2).toInt32), .val (.ref b1), .unset, .unset, .val (.int ((st + 2 - 1) - 1).toInt32), .val (.int (0 : Int32))] [(.int ((st + 2 - 1) - 1).toInt32), (.ref b1)])) rfl (hb hby d_jdk_33_method_12_97)
      refine go stt26 ?_
      show Goes p e below _ (Tt26.setTop (mkF m 100 #[.val (.int (-n.toInt32)), .val (.int (st + 2).toInt32), .val (.ref b1), .unset, .unset, .val (.int ((st + 2 - 1) - 1).toInt32), .val (.int (0 : Int32))] [(.ref o2), (.int ((st + 2 - 1) - 1).toInt32), (.ref b1)]))
      refine gIloadN Xt26 hx (hb hby d_jdk_33_method_12_100) rfl ?_
      refine gIneg Xt26 hx (hb hby d_jdk_33_method_12_101) ?_
      show Goes p e below _ (Tt26.setTop (mkF m 102 #[.val (.int (-n.toInt32)), .val (.int (st + 2).toInt32), .val (.ref b1), .unset, .unset, .val (.int ((st + 2 - 1) - 1).toInt32), .val (.int (0 : Int32))] [(.int (-(-n.toInt32))), (.ref o2), (.int ((st + 2 - 1) - 1).toInt32), (.ref b1)]))
      rw [own_nn2 (by omega)]
      show Goes p e below _ (Tt26.setTop (mkF m 102 #[.val (.int (-n.toInt32)), .val (.int (st + 2).toInt32), .val (.ref b1), .unset, .unset, .val (.int ((st + 2 - 1) - 1).toInt32), .val (.int (0 : Int32))] [(.int n.toInt32), (.ref o2), (.int ((st + 2 - 1) - 1).toInt32), (.ref b1)]))
      refine goBaload Xt26 hx hZ et26 Yt (x := ((48 + n / 10).toInt8.toInt32)) (hb hby d_jdk_33_method_12_102) (own_natn (by omega)) (own_te_at (by omega)) ?_
      show Goes p e below _ (Tt26.setTop (mkF m 103 #[.val (.int (-n.toInt32)), .val (.int (st + 2).toInt32), .val (.ref b1), .unset, .unset, .val (.int ((st + 2 - 1) - 1).toInt32), .val (.int (0 : Int32))] [(.int ((48 + n / 10).toInt8.toInt32)), (.int ((st + 2 - 1) - 1).toInt32), (.ref b1)]))
      refine goBastore Xt26 hx hZ et26 Y1 (hb hby d_jdk_33_method_12_103) (own_natn (by omega)) (own_bex (by rw [List.length_append]; omega) (by omega)) (fun Tt27 ht27 Xt27 et27 Wt27 => ?_)
      have N28 := Fr.snoc Xt27 N23 frb
      replace Y1 : Ary Z ht27 b1 .byte (own_bv (X.dropLast.dropLast ++ (48 + n / 10).toInt8 :: ((48 + n % 10).toInt8 :: R))) := Y1.set Wt27 (own_setl (48 + n / 10).toInt8 (by omega) (by omega))
      replace Yo := Yo.other Wt27 no1
      replace Yt := Yt.other Wt27 no2
      have O29 : Ext Z.heap ht27 := extW O24 Wt27 frb
      have K30 := K25.wr Wt27 (Or.inl (by simp))
      show Goes p e below _ (Tt27.setTop (mkF m 104 #[.val (.int (-n.toInt32)), .val (.int (st + 2).toInt32), .val (.ref b1), .unset, .unset, .val (.int ((st + 2 - 1) - 1).toInt32), .val (.int (0 : Int32))] []))
      refine gIload Xt27 hx (hb hby d_jdk_33_method_12_104) rfl ?_
      refine gIfY Xt27 hx (hb hby d_jdk_33_method_12_106) (pc' := 118) (XT.i0_eq_t rfl) (by decide) (by decide) ?_
      show Goes p e below _ (Tt27.setTop (mkF m 118 #[.val (.int (-n.toInt32)), .val (.int (st + 2).toInt32), .val (.ref b1), .unset, .unset, .val (.int ((st + 2 - 1) - 1).toInt32), .val (.int (0 : Int32))] []))
      refine gIload Xt27 hx (hb hby d_jdk_33_method_12_118) rfl ?_
      show Goes p e below _ (Tt27.setTop (mkF m 120 #[.val (.int (-n.toInt32)), .val (.int (st + 2).toInt32), .val (.ref b1), .unset, .unset, .val (.int ((st + 2 - 1) - 1).toInt32), .val (.int (0 : Int32))] [(.int ((st + 2 - 1) - 1).toInt32)]))
      rw [show st + 2 - 1 - 1 = st from by omega]
      show Goes p e below _ (Tt27.setTop (mkF m 120 #[.val (.int (-n.toInt32)), .val (.int (st + 2).toInt32), .val (.ref b1), .unset, .unset, .val (.int st.toInt32), .val (.int (0 : Int32))] [(.int st.toInt32)]))
      exact goRetI Xt27 hx hret hlocks (hb hby d_jdk_33_method_12_120) (by decide) (by decide) et27 (⟨rfl, N28, K30, by
          rw [← hFF, own_dg2 (by decide), show n % 100 = n by omega, show X.take st = X.dropLast.dropLast by rw [List.dropLast_eq_take, List.dropLast_eq_take, List.take_take, List.length_take]; congr 1; omega]
          exact Y1⟩)
    · obtain rfl : eg = 1 := own_Duniq hDD ⟨by decide, by show 1 ≤ n; exact Nat.le_trans (Nat.one_le_pow _ _ (by decide)) hDD.2.1, by show n < 10; omega⟩
      refine gIcmpY Xt22 hx (hb hby d_jdk_33_method_12_88) (pc' := 104) (XT.ii_ge_t (fun q => g9 ((own_ng2 (k := 9) (by omega) (by decide)).mp q))) (by decide) (by decide) ?_
      show Goes p e below _ (Tt22.setTop (mkF m 104 #[.val (.int (-n.toInt32)), .val (.int (st + 1).toInt32), .val (.ref b1), .unset, .unset, .val (.int ((st + 1) - 1).toInt32), .val (.int (0 : Int32))] []))
      refine gIload Xt22 hx (hb hby d_jdk_33_method_12_104) rfl ?_
      refine gIfY Xt22 hx (hb hby d_jdk_33_method_12_106) (pc' := 118) (XT.i0_eq_t rfl) (by decide) (by decide) ?_
      show Goes p e below _ (Tt22.setTop (mkF m 118 #[.val (.int (-n.toInt32)), .val (.int (st + 1).toInt32), .val (.ref b1), .unset, .unset, .val (.int ((st + 1) - 1).toInt32), .val (.int (0 : Int32))] []))
      refine gIload Xt22 hx (hb hby d_jdk_33_method_12_118) rfl ?_
      show Goes p e below _ (Tt22.setTop (mkF m 120 #[.val (.int (-n.toInt32)), .val (.int (st + 1).toInt32), .val (.ref b1), .unset, .unset, .val (.int ((st + 1) - 1).toInt32), .val (.int (0 : Int32))] [(.int ((st + 1) - 1).toInt32)]))
      rw [show st + 1 - 1 = st from by omega]
      show Goes p e below _ (Tt22.setTop (mkF m 120 #[.val (.int (-n.toInt32)), .val (.int (st + 1).toInt32), .val (.ref b1), .unset, .unset, .val (.int st.toInt32), .val (.int (0 : Int32))] [(.int st.toInt32)]))
      exact goRetI Xt22 hx hret hlocks (hb hby d_jdk_33_method_12_120) (by decide) (by decide) et22 (⟨rfl, N23, K25, by rw [← hFF]; rw [show X.take st = X.dropLast by rw [List.dropLast_eq_take]; congr 1; omega]; exact Y1⟩)
  · obtain ⟨h3, hD2⟩ := own_D100 hDD g
    refine gIcmpN X0 hx (hb hby d_jdk_33_method_12_25) (XT.ii_gt_f (fun q => g ((own_ng (k := 100) (by omega) (by decide)).mp q))) ?_
    show Goes p e below _ (s₁.setTop (mkF m 28 #[.val (.int (-n.toInt32)), .val (.int (st + d).toInt32), .val (.ref b1), .unset, .unset, .val (.int (st + d).toInt32), .val (.int (0 : Int32))] []))
    refine gIloadN X0 hx (hb hby d_jdk_33_method_12_28) rfl ?_
    refine gBipush X0 hx (hb hby d_jdk_33_method_12_29) (v := (100 : Int32)) rfl ?_
    refine gIdiv X0 hx (hb hby d_jdk_33_method_12_31) (by decide) ?_
    show Goes p e below _ (s₁.setTop (mkF m 32 #[.val (.int (-n.toInt32)), .val (.int (st + d).toInt32), .val (.ref b1), .unset, .unset, .val (.int (st + d).toInt32), .val (.int (0 : Int32))] [(.int ((-n.toInt32) / (100 : Int32)))]))
    rw [own_nd (by omega)]
    show Goes p e below _ (s₁.setTop (mkF m 32 #[.val (.int (-n.toInt32)), .val (.int (st + d).toInt32), .val (.ref b1), .unset, .unset, .val (.int (st + d).toInt32), .val (.int (0 : Int32))] [(.int (-(n / 100).toInt32))]))
    refine gIstoreN X0 hx (hb hby d_jdk_33_method_12_32) (l' := #[.val (.int (-n.toInt32)), .val (.int (st + d).toInt32), .val (.ref b1), .val (.int (-(n / 100).toInt32)), .unset, .val (.int (st + d).toInt32), .val (.int (0 : Int32))]) rfl ?_
    refine gIloadN X0 hx (hb hby d_jdk_33_method_12_33) rfl ?_
    refine gBipush X0 hx (hb hby d_jdk_33_method_12_34) (v := (100 : Int32)) rfl ?_
    refine gImul X0 hx (hb hby d_jdk_33_method_12_36) ?_
    refine gIloadN X0 hx (hb hby d_jdk_33_method_12_37) rfl ?_
    refine gIsub X0 hx (hb hby d_jdk_33_method_12_38) ?_
    show Goes p e below _ (s₁.setTop (mkF m 39 #[.val (.int (-n.toInt32)), .val (.int (st + d).toInt32), .val (.ref b1), .val (.int (-(n / 100).toInt32)), .unset, .val (.int (st + d).toInt32), .val (.int (0 : Int32))] [(.int (((-(n / 100).toInt32) * (100 : Int32)) - (-n.toInt32)))]))
    rw [own_nr (by omega)]
    show Goes p e below _ (s₁.setTop (mkF m 39 #[.val (.int (-n.toInt32)), .val (.int (st + d).toInt32), .val (.ref b1), .val (.int (-(n / 100).toInt32)), .unset, .val (.int (st + d).toInt32), .val (.int (0 : Int32))] [(.int (n % 100).toInt32)]))
    refine gIstore X0 hx (hb hby d_jdk_33_method_12_39) (l' := #[.val (.int (-n.toInt32)), .val (.int (st + d).toInt32), .val (.ref b1), .val (.int (-(n / 100).toInt32)), .val (.int (n % 100).toInt32), .val (.int (st + d).toInt32), .val (.int (0 : Int32))]) rfl ?_
    refine gIloadN X0 hx (hb hby d_jdk_33_method_12_41) rfl ?_
    refine gIstoreN X0 hx (hb hby d_jdk_33_method_12_42) (l' := #[.val (.int (-(n / 100).toInt32)), .val (.int (st + d).toInt32), .val (.ref b1), .val (.int (-(n / 100).toInt32)), .val (.int (n % 100).toInt32), .val (.int (st + d).toInt32), .val (.int (0 : Int32))]) rfl ?_
    refine gAloadN X0 hx (hb hby d_jdk_33_method_12_43) rfl rfl ?_
    refine gIinc X0 hx (hb hby d_jdk_33_method_12_44) (v := ((st + d).toInt32 + (-1 : Int32))) rfl rfl (l' := #[.val (.int (-(n / 100).toInt32)), .val (.int (st + d).toInt32), .val (.ref b1), .val (.int (-(n / 100).toInt32)), .val (.int (n % 100).toInt32), .val (.int ((st + d).toInt32 + (-1 : Int32))), .val (.int (0 : Int32))]) rfl ?_
    show Goes p e below _ (s₁.setTop (mkF m 47 #[.val (.int (-(n / 100).toInt32)), .val (.int (st + d).toInt32), .val (.ref b1), .val (.int (-(n / 100).toInt32)), .val (.int (n % 100).toInt32), .val (.int ((st + d).toInt32 + (-1 : Int32))), .val (.int (0 : Int32))] [(.ref b1)]))
    rw [own_pred (n := (st + d)) (by omega) (by omega)]
    show Goes p e below _ (s₁.setTop (mkF m 47 #[.val (.int (-(n / 100).toInt32)), .val (.int (st + d).toInt32), .val (.ref b1), .val (.int (-(n / 100).toInt32)), .val (.int (n % 100).toInt32), .val (.int ((st + d) - 1).toInt32), .val (.int (0 : Int32))] [(.ref b1)]))
    refine gIload X0 hx (hb hby d_jdk_33_method_12_47) rfl ?_
    obtain ⟨Tt31, Xt31, et31, stt31⟩ := getS2 X0 hx hZ hown (host := "") (Or.inl (hw _ (List.mem_of_getElem? (i := 154) rfl))) Via.refl e0 (S_o.ext O0) (g := (mkF m 49 #[.val (.int (-(n / 100).toInt32)), .val (.int (st + d).toInt32), .val (.ref b1), .val (.int (-(n / 100).toInt32)), .val (.int (n % 100).toInt32), .val (.int ((st + d) - 1).toInt32), .val (.int (0 : Int32))] [(.int ((st + d) - 1).toInt32), (.ref b1)])) rfl (hb hby d_jdk_33_method_12_49)
    refine go stt31 ?_
    show Goes p e below _ (Tt31.setTop (mkF m 52 #[.val (.int (-(n / 100).toInt32)), .val (.int (st + d).toInt32), .val (.ref b1), .val (.int (-(n / 100).toInt32)), .val (.int (n % 100).toInt32), .val (.int ((st + d) - 1).toInt32), .val (.int (0 : Int32))] [(.ref o1), (.int ((st + d) - 1).toInt32), (.ref b1)]))
    refine gIload Xt31 hx (hb hby d_jdk_33_method_12_52) rfl ?_
    refine goBaload Xt31 hx hZ et31 Yo (x := ((48 + n % 100 % 10).toInt8.toInt32)) (hb hby d_jdk_33_method_12_54) (own_natn (by omega)) (own_on_at (by omega)) ?_
    show Goes p e below _ (Tt31.setTop (mkF m 55 #[.val (.int (-(n / 100).toInt32)), .val (.int (st + d).toInt32), .val (.ref b1), .val (.int (-(n / 100).toInt32)), .val (.int (n % 100).toInt32), .val (.int ((st + d) - 1).toInt32), .val (.int (0 : Int32))] [(.int ((48 + n % 100 % 10).toInt8.toInt32)), (.int ((st + d) - 1).toInt32), (.ref b1)]))
    refine goBastore Xt31 hx hZ et31 Y1 (hb hby d_jdk_33_method_12_55) (own_natn (by omega)) (own_bex (by rw [List.length_append]; omega) (by omega)) (fun Tt32 ht32 Xt32 et32 Wt32 => ?_)
    have N33 := Fr.snoc Xt32 N0 frb
    replace Y1 : Ary Z ht32 b1 .byte (own_bv (X.dropLast ++ (48 + n % 100 % 10).toInt8 :: R)) := Y1.set Wt32 (own_setl (48 + n % 100 % 10).toInt8 (by omega) (by omega))
    replace Yo := Yo.other Wt32 no1
    replace Yt := Yt.other Wt32 no2
    have O34 : Ext Z.heap ht32 := extW O0 Wt32 frb
    have K35 := K0.wr Wt32 (Or.inl (by simp))
    show Goes p e below _ (Tt32.setTop (mkF m 56 #[.val (.int (-(n / 100).toInt32)), .val (.int (st + d).toInt32), .val (.ref b1), .val (.int (-(n / 100).toInt32)), .val (.int (n % 100).toInt32), .val (.int ((st + d) - 1).toInt32), .val (.int (0 : Int32))] []))
    have l2 : X.dropLast.length = st + d - 1 := by rw [List.length_dropLast]; omega
    refine gAloadN Xt32 hx (hb hby d_jdk_33_method_12_56) rfl rfl ?_
    refine gIinc Xt32 hx (hb hby d_jdk_33_method_12_57) (v := (((st + d) - 1).toInt32 + (-1 : Int32))) rfl rfl (l' := #[.val (.int (-(n / 100).toInt32)), .val (.int (st + d).toInt32), .val (.ref b1), .val (.int (-(n / 100).toInt32)), .val (.int (n % 100).toInt32), .val (.int (((st + d) - 1).toInt32 + (-1 : Int32))), .val (.int (0 : Int32))]) rfl ?_
    show Goes p e below _ (Tt32.setTop (mkF m 60 #[.val (.int (-(n / 100).toInt32)), .val (.int (st + d).toInt32), .val (.ref b1), .val (.int (-(n / 100).toInt32)), .val (.int (n % 100).toInt32), .val (.int (((st + d) - 1).toInt32 + (-1 : Int32))), .val (.int (0 : Int32))] [(.ref b1)]))
    rw [own_pred (n := (st + d - 1)) (by omega) (by omega)]
    show Goes p e below _ (Tt32.setTop (mkF m 60 #[.val (.int (-(n / 100).toInt32)), .val (.int (st + d).toInt32), .val (.ref b1), .val (.int (-(n / 100).toInt32)), .val (.int (n % 100).toInt32), .val (.int ((st + d - 1) - 1).toInt32), .val (.int (0 : Int32))] [(.ref b1)]))
    refine gIload Xt32 hx (hb hby d_jdk_33_method_12_60) rfl ?_
    obtain ⟨Tt36, Xt36, et36, stt36⟩ := getS2 Xt32 hx hZ hown (host := "") (Or.inl (hw _ (List.mem_of_getElem? (i := 232) rfl))) Via.refl et32 (S_t.ext O34) (g := (mkF m 62 #[.val (.int (-(n / 100).toInt32)), .val (.int (st + d).toInt32), .val (.ref b1), .val (.int (-(n / 100).toInt32)), .val (.int (n % 100).toInt32), .val (.int ((st + d - 1) - 1).toInt32), .val (.int (0 : Int32))] [(.int ((st + d - 1) - 1).toInt32), (.ref b1)])) rfl (hb hby d_jdk_33_method_12_62)
    refine go stt36 ?_
    show Goes p e below _ (Tt36.setTop (mkF m 65 #[.val (.int (-(n / 100).toInt32)), .val (.int (st + d).toInt32), .val (.ref b1), .val (.int (-(n / 100).toInt32)), .val (.int (n % 100).toInt32), .val (.int ((st + d - 1) - 1).toInt32), .val (.int (0 : Int32))] [(.ref o2), (.int ((st + d - 1) - 1).toInt32), (.ref b1)]))
    refine gIload Xt36 hx (hb hby d_jdk_33_method_12_65) rfl ?_
    refine goBaload Xt36 hx hZ et36 Yt (x := ((48 + n % 100 / 10).toInt8.toInt32)) (hb hby d_jdk_33_method_12_67) (own_natn (by omega)) (own_te_at (by omega)) ?_
    show Goes p e below _ (Tt36.setTop (mkF m 68 #[.val (.int (-(n / 100).toInt32)), .val (.int (st + d).toInt32), .val (.ref b1), .val (.int (-(n / 100).toInt32)), .val (.int (n % 100).toInt32), .val (.int ((st + d - 1) - 1).toInt32), .val (.int (0 : Int32))] [(.int ((48 + n % 100 / 10).toInt8.toInt32)), (.int ((st + d - 1) - 1).toInt32), (.ref b1)]))
    refine goBastore Xt36 hx hZ et36 Y1 (hb hby d_jdk_33_method_12_68) (own_natn (by omega)) (own_bex (by rw [List.length_append]; omega) (by omega)) (fun Tt37 ht37 Xt37 et37 Wt37 => ?_)
    have N38 := Fr.snoc Xt37 N33 frb
    replace Y1 : Ary Z ht37 b1 .byte (own_bv (X.dropLast.dropLast ++ (48 + n % 100 / 10).toInt8 :: ((48 + n % 100 % 10).toInt8 :: R))) := Y1.set Wt37 (own_setl (48 + n % 100 / 10).toInt8 (by omega) (by omega))
    replace Yo := Yo.other Wt37 no1
    replace Yt := Yt.other Wt37 no2
    have O39 : Ext Z.heap ht37 := extW O34 Wt37 frb
    have K40 := K35.wr Wt37 (Or.inl (by simp))
    show Goes p e below _ (Tt37.setTop (mkF m 69 #[.val (.int (-(n / 100).toInt32)), .val (.int (st + d).toInt32), .val (.ref b1), .val (.int (-(n / 100).toInt32)), .val (.int (n % 100).toInt32), .val (.int ((st + d - 1) - 1).toInt32), .val (.int (0 : Int32))] []))
    refine gGoto Xt37 hx (hb hby d_jdk_33_method_12_69) (pc' := 22) (by decide) (by decide) ?_
    show Goes p e below _ (Tt37.setTop (mkF m 22 #[.val (.int (-(n / 100).toInt32)), .val (.int (st + d).toInt32), .val (.ref b1), .val (.int (-(n / 100).toInt32)), .val (.int (n % 100).toInt32), .val (.int ((st + d - 1) - 1).toInt32), .val (.int (0 : Int32))] []))
    show Goes p e below _ (Tt37.setTop (mkF m 22 #[.val (.int (-(n / 100).toInt32)), .val (.int (st + d).toInt32), .val (.ref b1), .val (.int (-(n / 100).toInt32)), .val (.int (n % 100).toInt32), .val (.int ((st + d - 1) - 1).toInt32), .val (.int (0 : Int32))] []))
    rw [show st + d - 1 - 1 = st + (d - 2) from by omega]
    show Goes p e below _ (Tt37.setTop (mkF m 22 #[.val (.int (-(n / 100).toInt32)), .val (.int (st + d).toInt32), .val (.ref b1), .val (.int (-(n / 100).toInt32)), .val (.int (n % 100).toInt32), .val (.int (st + (d - 2)).toInt32), .val (.int (0 : Int32))] []))
    exact loop d (d - 2) (n / 100) _ _ X.dropLast.dropLast ((48 + n % 100 / 10).toInt8 :: (48 + n % 100 % 10).toInt8 :: R) Tt37 ht37 _ (by omega) (by omega) (by omega) hD2 (by rw [List.length_dropLast]; omega) (by rw [own_dg2 (e := d) (by omega), List.append_assoc, own_dlt (by rw [List.length_dropLast]; omega), own_dlt (by omega)]; rfl) Xt37 et37 N38 K40 O39 Yo Yt Y1
theorem d_jdk_68_method_32_0 : decode jdk_68_method_32_code 0 = .ok (.aload_n 0, 1) := by decide +kernel
theorem d_jdk_68_method_32_1 : decode jdk_68_method_32_code 1 = .ok (.getfield 79, 3) := by decide +kernel
theorem d_jdk_68_method_32_4 : decode jdk_68_method_32_code 4 = .ok (.istore_n 2, 1) := by decide +kernel
theorem d_jdk_68_method_32_5 : decode jdk_68_method_32_code 5 = .ok (.iload_n 2, 1) := by decide +kernel
theorem d_jdk_68_method_32_6 : decode jdk_68_method_32_code 6 = .ok (.iload_n 1, 1) := by decide +kernel
theorem d_jdk_68_method_32_7 : decode jdk_68_method_32_code 7 = .ok (.invokestatic 245, 3) := by decide +kernel
theorem d_jdk_68_method_32_10 : decode jdk_68_method_32_code 10 = .ok (.iadd, 1) := by decide +kernel
theorem d_jdk_68_method_32_11 : decode jdk_68_method_32_code 11 = .ok (.istore_n 3, 1) := by decide +kernel
theorem d_jdk_68_method_32_12 : decode jdk_68_method_32_code 12 = .ok (.aload_n 0, 1) := by decide +kernel
theorem d_jdk_68_method_32_13 : decode jdk_68_method_32_code 13 = .ok (.iload_n 3, 1) := by decide +kernel
theorem d_jdk_68_method_32_14 : decode jdk_68_method_32_code 14 = .ok (.invokevirtual 100, 3) := by decide +kernel
theorem d_jdk_68_method_32_17 : decode jdk_68_method_32_code 17 = .ok (.aload_n 0, 1) := by decide +kernel
theorem pd_11 : parseMethodDescriptor "()Z" = some ⟨[], some .boolean⟩ := by decide +kernel
theorem d_jdk_68_method_32_18 : decode jdk_68_method_32_code 18 = .ok (.invokevirtual 83, 3) := by decide +kernel
theorem d_jdk_68_method_32_21 : decode jdk_68_method_32_code 21 = .ok (.ifCond .eq 16, 3) := by decide +kernel
theorem d_jdk_68_method_32_24 : decode jdk_68_method_32_code 24 = .ok (.iload_n 1, 1) := by decide +kernel
theorem d_jdk_68_method_32_25 : decode jdk_68_method_32_code 25 = .ok (.iload_n 3, 1) := by decide +kernel
theorem d_jdk_68_method_32_26 : decode jdk_68_method_32_code 26 = .ok (.aload_n 0, 1) := by decide +kernel
theorem d_jdk_68_method_32_27 : decode jdk_68_method_32_code 27 = .ok (.getfield 15, 3) := by decide +kernel
theorem pd_12 : parseMethodDescriptor "(II[B)I" = some ⟨[.int, .int, (.array .byte)], some .int⟩ := by decide +kernel
theorem d_jdk_68_method_32_30 : decode jdk_68_method_32_code 30 = .ok (.invokestatic 248, 3) := by decide +kernel
theorem d_jdk_68_method_32_33 : decode jdk_68_method_32_code 33 = .ok (.pop, 1) := by decide +kernel
theorem d_jdk_68_method_32_34 : decode jdk_68_method_32_code 34 = .ok (.goto 14, 3) := by decide +kernel
theorem d_jdk_68_method_32_48 : decode jdk_68_method_32_code 48 = .ok (.aload_n 0, 1) := by decide +kernel
theorem d_jdk_68_method_32_49 : decode jdk_68_method_32_code 49 = .ok (.iload_n 3, 1) := by decide +kernel
theorem d_jdk_68_method_32_50 : decode jdk_68_method_32_code 50 = .ok (.putfield 79, 3) := by decide +kernel
theorem d_jdk_68_method_32_53 : decode jdk_68_method_32_code 53 = .ok (.aload_n 0, 1) := by decide +kernel
theorem d_jdk_68_method_32_54 : decode jdk_68_method_32_code 54 = .ok (.areturn, 1) := by decide +kernel
theorem ef_rmAn (m : MethodId) (x0 : Addr) (x1 : Int32) : entryFrame m #[(.ref x0), (.int x1)] 4 = mkF m 0 #[.val (.ref x0), .val (.int x1), .unset, .unset] [] := by first | (simp [entryFrame, mkF, argsToLocals, Value.category]; done) | rfl
set_option maxRecDepth 65536 in
set_option maxHeartbeats 40000000 in
theorem rmAn (l : Launch) (Z : State) (a0 : Array Value) (hw : ∀ d ∈ tables_1, d.before a0 Z = true) (a1 u : Addr) (txt pad : List Int8) (kap : Nat) (o1 o2 : Addr) (n : Nat) (cs : Int32)  (h0 : Heap) (O0 : Ext Z.heap h0) (S_cs : Sta Z Z.heap "java/lang/String" "COMPACT_STRINGS" "Z" (.int cs)) (hcs : ¬ cs = 0) (S_o : Sta Z Z.heap "java/lang/Integer" "DigitOnes" "[B" (.ref o1)) (S_t : Sta Z Z.heap "java/lang/Integer" "DigitTens" "[B" (.ref o2)) (Yo : Ary Z h0 o1 .byte (own_bv own_on)) (Yt : Ary Z h0 o2 .byte (own_bv own_te)) (lo1 : o1 < Z.heap.size) (lo2 : o2 < Z.heap.size) (E1 : Exa Z h0 a1 "java/lang/StringBuilder") (V1 : Fld Z h0 a1 "java/lang/AbstractStringBuilder" "value" "[B" (.ref u)) (C1 : Fld Z h0 a1 "java/lang/AbstractStringBuilder" "coder" "B" (.int (0 : Int32))) (N1 : Fld Z h0 a1 "java/lang/AbstractStringBuilder" "count" "I" (.int txt.length.toInt32)) (Y1 : Ary Z h0 u .byte (own_bv (txt ++ pad))) (X1 : Exa Z h0 u "[B") (hk : (txt ++ pad).length = kap) (hkk : kap = 16 ∨ kap = 34) (ne : a1 ≠ u) (fr1 : Z.heap.size ≤ a1) (fr2 : Z.heap.size ≤ u) (hn1 : 1 ≤ n) (hn : n < 2 ^ 31) (hfit : txt.length + 10 ≤ 34) :
    Ctr l Z (⟨"java/lang/AbstractStringBuilder", "append", "(I)Ljava/lang/AbstractStringBuilder;"⟩ : MethodName) jdk_68_method_32_code 4 (some (.object "java/lang/AbstractStringBuilder")) [] ({ frames := 4, cells := 1, slots := 34, locals := 75 } : Room) #[(.ref a1), (.int n.toInt32)] h0 (fun v h L => ∃ d : Nat, v = some (.ref a1) ∧ Fr Z.heap.size L ∧ Keep h0 h [a1, u] ∧ d ≤ 10 ∧ own_D n d ∧ ∃ (u2 : Addr) (pad2 : List Int8) (kap2 : Nat), (u2 = u ∨ h0.size ≤ u2) ∧ Fld Z h a1 "java/lang/AbstractStringBuilder" "value" "[B" (.ref u2) ∧ Fld Z h a1 "java/lang/AbstractStringBuilder" "coder" "B" (.int (0 : Int32)) ∧ Fld Z h a1 "java/lang/AbstractStringBuilder" "count" "I" (.int (txt ++ own_dg d n).length.toInt32) ∧ Ary Z h u2 .byte (own_bv ((txt ++ own_dg d n) ++ pad2)) ∧ Exa Z h u2 "[B" ∧ ((txt ++ own_dg d n) ++ pad2).length = kap2 ∧ (kap2 = 16 ∨ kap2 = 34)) := by
  refine ctr (plainFor_of_name pn_0) ?_
  intro p e s m below meth c s₁ hx hby hml hown hnm hret hlocks hZ X0 e0
  have N0 := Fr.nil Z.heap.size
  have hsz : ∀ {Ls : Array Slot}, Ls.size = 4 → Ls.size = c.maxLocals := fun q => q.trans hml.symm
  have K0 := Keep.refl h0 [a1, u]
  refine goE (ef_rmAn m (a1) (n.toInt32)) ?_
  show Goes p e below _ (s₁.setTop (mkF m 0 #[.val (.ref a1), .val (.int n.toInt32), .unset, .unset] []))
  refine gAloadN X0 hx (hb hby d_jdk_68_method_32_0) rfl rfl ?_
  obtain ⟨Tt1, Xt1, et1, stt1⟩ := getF X0 hx hZ hown (host := "") (Or.inl (hw _ (List.mem_of_getElem? (i := 105) rfl))) Via.refl e0 N1 (g := (mkF m 1 #[.val (.ref a1), .val (.int n.toInt32), .unset, .unset] [(.ref a1)])) rfl rfl (hb hby d_jdk_68_method_32_1)
  refine go stt1 ?_
  show Goes p e below _ (Tt1.setTop (mkF m 4 #[.val (.ref a1), .val (.int n.toInt32), .unset, .unset] [(.int txt.length.toInt32)]))
  refine gIstoreN Xt1 hx (hb hby d_jdk_68_method_32_4) (l' := #[.val (.ref a1), .val (.int n.toInt32), .val (.int txt.length.toInt32), .unset]) rfl ?_
  refine gIloadN Xt1 hx (hb hby d_jdk_68_method_32_5) rfl ?_
  refine gIloadN Xt1 hx (hb hby d_jdk_68_method_32_6) rfl ?_
  refine goCallS Xt1 hx hZ hown (hw _ (List.mem_of_getElem? (i := 142) rfl)) (hw _ (List.mem_of_getElem? (i := 143) rfl)) (hw _ (List.mem_of_getElem? (i := 144) rfl)) (hw _ (List.mem_of_getElem? (i := 145) rfl)) (by decide) (rmSz l Z a0 hw n h0 O0 hn1 hn) 1 (by decide) (by decide) et1 (hsz rfl) [(.int n.toInt32)] [(.int txt.length.toInt32)] pd_3 rfl rfl rfl (Nat.le_of_eq rfl) (hb hby d_jdk_68_method_32_7) (by decide) (by decide) (fun Tt2 vt2 Lt2 Xt2 qt2 => ?_)
  obtain ⟨d, rfl, N3, et2, hd10, hD⟩ := qt2
  have N4 := Fr.app N0 N3
  show Goes p e below _ (Tt2.setTop (mkF m 10 #[.val (.ref a1), .val (.int n.toInt32), .val (.int txt.length.toInt32), .unset] [(.int d.toInt32), (.int txt.length.toInt32)]))
  refine gIadd Xt2 hx (hb hby d_jdk_68_method_32_10) ?_
  show Goes p e below _ (Tt2.setTop (mkF m 11 #[.val (.ref a1), .val (.int n.toInt32), .val (.int txt.length.toInt32), .unset] [(.int (txt.length.toInt32 + d.toInt32))]))
  rw [own_addn (by omega)]
  show Goes p e below _ (Tt2.setTop (mkF m 11 #[.val (.ref a1), .val (.int n.toInt32), .val (.int txt.length.toInt32), .unset] [(.int (txt.length + d).toInt32)]))
  refine gIstoreN Xt2 hx (hb hby d_jdk_68_method_32_11) (l' := #[.val (.ref a1), .val (.int n.toInt32), .val (.int txt.length.toInt32), .val (.int (txt.length + d).toInt32)]) rfl ?_
  refine gAloadN Xt2 hx (hb hby d_jdk_68_method_32_12) rfl rfl ?_
  refine gIloadN Xt2 hx (hb hby d_jdk_68_method_32_13) rfl ?_
  have lt_o1_q5 := Yo.lt
  have lt_o2_q5 := Yt.lt
  have lt_a1_q5 := E1.lt
  have lt_u_q5 := Y1.lt
  refine goCallP2 Xt2 hx hZ hown (hw _ (List.mem_of_getElem? (i := 107) rfl)) (hw _ (List.mem_of_getElem? (i := 109) rfl)) (hw _ (List.mem_of_getElem? (i := 110) rfl)) (hw _ (List.mem_of_getElem? (i := 108) rfl)) (hw _ (List.mem_of_getElem? (i := 77) rfl)) (hw _ (List.mem_of_getElem? (i := 111) rfl)) (by decide) (rmEn l Z a0 hw a1 u txt pad kap (txt.length + d) h0 O0 E1 V1 C1 N1 Y1 X1 hk hkk ne fr1 fr2 (by omega)) 0 (by decide) (by decide) et2 E1 (hsz rfl) [(.int (txt.length + d).toInt32)] [] pd_0 rfl rfl rfl (Nat.le_of_eq rfl) (hb hby d_jdk_68_method_32_14) (by decide) (by decide) (fun Tt6 vt6 Lt6 Xt6 qt6 => ?_)
  obtain ⟨ht6, et6⟩ : ∃ z, Tt6.heap = z := ⟨_, rfl⟩
  rw [et6] at qt6
  obtain ⟨rfl, N7, Kct6, u2, pad2, kap2, hu2, Vb2, Cb2, Nb2, Yb2, Xb2, hk2, hkk2, hfit2⟩ := qt6
  have N8 := Fr.app N4 N7
  replace Yo := Yo.keep Kct6 (ninS (Nat.ne_of_lt (Nat.lt_of_lt_of_le lo1 fr1)) nin0)
  replace Yt := Yt.keep Kct6 (ninS (Nat.ne_of_lt (Nat.lt_of_lt_of_le lo2 fr1)) nin0)
  replace E1 := E1.keep Kct6
  replace Y1 := Y1.keep Kct6 (ninS (Ne.symm ne) nin0)
  replace X1 := X1.keep Kct6
  have O9 : Ext Z.heap ht6 := extK O0 Kct6 (allS fr1 all0)
  have K10 := K0.trans Kct6 (allS (Or.inl (by simp)) all0)
  show Goes p e below _ (Tt6.setTop (mkF m 17 #[.val (.ref a1), .val (.int n.toInt32), .val (.int txt.length.toInt32), .val (.int (txt.length + d).toInt32)] []))
  have ne_o1_u2 : o1 ≠ u2 := own_une hu2 (Nat.ne_of_lt (Nat.lt_of_lt_of_le lo1 fr2)) lt_o1_q5
  have ne_o2_u2 : o2 ≠ u2 := own_une hu2 (Nat.ne_of_lt (Nat.lt_of_lt_of_le lo2 fr2)) lt_o2_q5
  have ne_a1_u2 : a1 ≠ u2 := own_une hu2 ne lt_a1_q5
  have fr_u2 : Z.heap.size ≤ u2 := own_uge hu2 fr2 O0.1
  refine gAloadN Xt6 hx (hb hby d_jdk_68_method_32_17) rfl rfl ?_
  refine goCallV Xt6 hx hZ hown (hw _ (List.mem_of_getElem? (i := 146) rfl)) (hw _ (List.mem_of_getElem? (i := 147) rfl)) (hw _ (List.mem_of_getElem? (i := 149) rfl)) (hw _ (List.mem_of_getElem? (i := 148) rfl)) (hw _ (List.mem_of_getElem? (i := 77) rfl)) (hw _ (List.mem_of_getElem? (i := 150) rfl)) (by decide) (rmIl l Z a0 hw cs a1 ht6 O9 S_cs hcs Cb2) 0 (by decide) (by decide) et6 E1 (hsz rfl) [] [] pd_11 rfl rfl rfl (Nat.le_of_eq rfl) (hb hby d_jdk_68_method_32_18) (by decide) (by decide) (fun Tt11 vt11 Lt11 Xt11 qt11 => ?_)
  obtain ⟨rfl, N12, et11⟩ := qt11
  have N13 := Fr.app N8 N12
  show Goes p e below _ (Tt11.setTop (mkF m 21 #[.val (.ref a1), .val (.int n.toInt32), .val (.int txt.length.toInt32), .val (.int (txt.length + d).toInt32)] [(.int (1 : Int32))]))
  refine gIfN Xt11 hx (hb hby d_jdk_68_method_32_21) (XT.i0_eq_f (by decide)) ?_
  show Goes p e below _ (Tt11.setTop (mkF m 24 #[.val (.ref a1), .val (.int n.toInt32), .val (.int txt.length.toInt32), .val (.int (txt.length + d).toInt32)] []))
  refine gIloadN Xt11 hx (hb hby d_jdk_68_method_32_24) rfl ?_
  refine gIloadN Xt11 hx (hb hby d_jdk_68_method_32_25) rfl ?_
  refine gAloadN Xt11 hx (hb hby d_jdk_68_method_32_26) rfl rfl ?_
  obtain ⟨Tt14, Xt14, et14, stt14⟩ := getF Xt11 hx hZ hown (host := "") (Or.inl (hw _ (List.mem_of_getElem? (i := 81) rfl))) Via.refl et11 Vb2 (g := (mkF m 27 #[.val (.ref a1), .val (.int n.toInt32), .val (.int txt.length.toInt32), .val (.int (txt.length + d).toInt32)] [(.ref a1), (.int (txt.length + d).toInt32), (.int n.toInt32)])) rfl rfl (hb hby d_jdk_68_method_32_27)
  refine go stt14 ?_
  show Goes p e below _ (Tt14.setTop (mkF m 30 #[.val (.ref a1), .val (.int n.toInt32), .val (.int txt.length.toInt32), .val (.int (txt.length + d).toInt32)] [(.ref u2), (.int (txt.length + d).toInt32), (.int n.toInt32)]))
  have hXl : ((txt ++ pad2).take (txt.length + d)).length = txt.length + d := by rw [List.length_take]; omega
  have Ysp : Ary Z ht6 u2 .byte (own_bv ((txt ++ pad2).take (txt.length + d) ++ (txt ++ pad2).drop (txt.length + d))) := by rw [List.take_append_drop]; exact Yb2
  refine goCallS Xt14 hx hZ hown (hw _ (List.mem_of_getElem? (i := 151) rfl)) (hw _ (List.mem_of_getElem? (i := 152) rfl)) (hw _ (List.mem_of_getElem? (i := 144) rfl)) (hw _ (List.mem_of_getElem? (i := 153) rfl)) (by decide) (rmGc l Z a0 hw o1 o2 n txt.length d ((txt ++ pad2).take (txt.length + d)) ((txt ++ pad2).drop (txt.length + d)) u2 ht6 O9 S_o S_t Yo Yt Ysp hXl (by omega) hd10 hn hD ne_o1_u2 ne_o2_u2 fr_u2) 0 (by decide) (by decide) et14 (hsz rfl) [(.int n.toInt32), (.int (txt.length + d).toInt32), (.ref u2)] [] pd_12 rfl rfl rfl (Nat.le_of_eq rfl) (hb hby d_jdk_68_method_32_30) (by decide) (by decide) (fun Tt15 vt15 Lt15 Xt15 qt15 => ?_)
  obtain ⟨ht15, et15⟩ : ∃ z, Tt15.heap = z := ⟨_, rfl⟩
  rw [et15] at qt15
  obtain ⟨rfl, N16, Kct15, Yg⟩ := qt15
  have N17 := Fr.app N13 N16
  replace Yo := Yo.keep Kct15 (ninS ne_o1_u2 nin0)
  replace Yt := Yt.keep Kct15 (ninS ne_o2_u2 nin0)
  replace E1 := E1.keep Kct15
  replace Vb2 := Vb2.keep Kct15 (ninS ne_a1_u2 nin0)
  replace Cb2 := Cb2.keep Kct15 (ninS ne_a1_u2 nin0)
  replace Nb2 := Nb2.keep Kct15 (ninS ne_a1_u2 nin0)
  replace Xb2 := Xb2.keep Kct15
  have O18 : Ext Z.heap ht15 := extK O9 Kct15 (allS fr_u2 all0)
  have K19 := K10.trans Kct15 (allS (hu2.elim (fun q => Or.inl (by simp [q])) (fun q => Or.inr (Nat.le_trans K0.1 q))) all0)
  show Goes p e below _ (Tt15.setTop (mkF m 33 #[.val (.ref a1), .val (.int n.toInt32), .val (.int txt.length.toInt32), .val (.int (txt.length + d).toInt32)] [(.int txt.length.toInt32)]))
  have eg : ((txt ++ pad2).take (txt.length + d)).take txt.length ++ (own_dg d n ++ (txt ++ pad2).drop (txt.length + d)) = (txt ++ own_dg d n) ++ pad2.drop d := by simp [List.take_take, List.drop_append, Nat.min_eq_left]
  rw [eg] at Yg
  refine gPop Xt15 hx (hb hby d_jdk_68_method_32_33) rfl ?_
  refine gGoto Xt15 hx (hb hby d_jdk_68_method_32_34) (pc' := 48) (by decide) (by decide) ?_
  show Goes p e below _ (Tt15.setTop (mkF m 48 #[.val (.ref a1), .val (.int n.toInt32), .val (.int txt.length.toInt32), .val (.int (txt.length + d).toInt32)] []))
  refine gAloadN Xt15 hx (hb hby d_jdk_68_method_32_48) rfl rfl ?_
  refine gIloadN Xt15 hx (hb hby d_jdk_68_method_32_49) rfl ?_
  show Goes p e below _ (Tt15.setTop (mkF m 50 #[.val (.ref a1), .val (.int n.toInt32), .val (.int txt.length.toInt32), .val (.int (txt.length + d).toInt32)] [(.int (txt.length + d).toInt32), (.ref a1)]))
  rw [show (txt.length + d).toInt32 = (txt ++ own_dg d n).length.toInt32 from by rw [List.length_append, own_dg_len]]
  show Goes p e below _ (Tt15.setTop (mkF m 50 #[.val (.ref a1), .val (.int n.toInt32), .val (.int txt.length.toInt32), .val (.int (txt ++ own_dg d n).length.toInt32)] [(.int (txt ++ own_dg d n).length.toInt32), (.ref a1)]))
  obtain ⟨Tt20, ht20, Xt20, et20, Wt20, stt20⟩ := putF Xt15 hx hZ hown (host := "") (Or.inl (hw _ (List.mem_of_getElem? (i := 105) rfl))) Via.refl et15 Nb2 E1 (Or.inl (hw _ (List.mem_of_getElem? (i := 106) rfl))) (hw _ (List.mem_of_getElem? (i := 68) rfl)) (ty := .int) (by decide) rfl rfl (g := (mkF m 50 #[.val (.ref a1), .val (.int n.toInt32), .val (.int txt.length.toInt32), .val (.int (txt ++ own_dg d n).length.toInt32)] [(.int (txt ++ own_dg d n).length.toInt32), (.ref a1)])) rfl rfl (hb hby d_jdk_68_method_32_50)
  refine go stt20 ?_
  have N21 := Fr.snoc Xt20 N17 fr1
  replace Nb2 := Nb2.same Wt20
  replace Yo := Yo.other Wt20 (Nat.ne_of_lt (Nat.lt_of_lt_of_le lo1 fr1))
  replace Yt := Yt.other Wt20 (Nat.ne_of_lt (Nat.lt_of_lt_of_le lo2 fr1))
  replace E1 := E1.wr Wt20
  replace Vb2 := Vb2.other Wt20 (Or.inr (slot_ne (Or.inl (hw _ (List.mem_of_getElem? (i := 82) rfl))) (Or.inl (hw _ (List.mem_of_getElem? (i := 106) rfl))) (by decide) (t := (.array .byte)) (by decide) (t' := .int) (by decide)))
  replace Cb2 := Cb2.other Wt20 (Or.inr (slot_ne (Or.inl (hw _ (List.mem_of_getElem? (i := 84) rfl))) (Or.inl (hw _ (List.mem_of_getElem? (i := 106) rfl))) (by decide) (t := .byte) (by decide) (t' := .int) (by decide)))
  replace Xb2 := Xb2.wr Wt20
  replace Yg := Yg.other Wt20 (Ne.symm ne_a1_u2)
  have O22 : Ext Z.heap ht20 := extW O18 Wt20 fr1
  have K23 := K19.wr Wt20 (Or.inl (by simp))
  show Goes p e below _ (Tt20.setTop (mkF m 53 #[.val (.ref a1), .val (.int n.toInt32), .val (.int txt.length.toInt32), .val (.int (txt ++ own_dg d n).length.toInt32)] []))
  refine gAloadN Xt20 hx (hb hby d_jdk_68_method_32_53) rfl rfl ?_
  exact goRetA Xt20 hx hret hlocks rfl rfl (hb hby d_jdk_68_method_32_54) (by decide) (by decide) et20 (⟨d, rfl, N21, K23, hd10, hD, u2, pad2.drop d, kap2, hu2, Vb2, Cb2, Nb2, Yg, Xb2, by simp only [List.length_append, List.length_drop, own_dg_len] at hk2 ⊢; omega, hkk2⟩)
theorem d_jdk_67_method_15_0 : decode jdk_67_method_15_code 0 = .ok (.aload_n 0, 1) := by decide +kernel
theorem d_jdk_67_method_15_1 : decode jdk_67_method_15_code 1 = .ok (.iload_n 1, 1) := by decide +kernel
theorem pd_13 : parseMethodDescriptor "(I)Ljava/lang/AbstractStringBuilder;" = some ⟨[.int], some (.object "java/lang/AbstractStringBuilder")⟩ := by decide +kernel
theorem d_jdk_67_method_15_2 : decode jdk_67_method_15_code 2 = .ok (.invokespecial 53, 3) := by decide +kernel
theorem d_jdk_67_method_15_5 : decode jdk_67_method_15_code 5 = .ok (.pop, 1) := by decide +kernel
theorem d_jdk_67_method_15_6 : decode jdk_67_method_15_code 6 = .ok (.aload_n 0, 1) := by decide +kernel
theorem d_jdk_67_method_15_7 : decode jdk_67_method_15_code 7 = .ok (.areturn, 1) := by decide +kernel
theorem ef_rmAt (m : MethodId) (x0 : Addr) (x1 : Int32) : entryFrame m #[(.ref x0), (.int x1)] 2 = mkF m 0 #[.val (.ref x0), .val (.int x1)] [] := by first | (simp [entryFrame, mkF, argsToLocals, Value.category]; done) | rfl
set_option maxRecDepth 65536 in
set_option maxHeartbeats 40000000 in
theorem rmAt (l : Launch) (Z : State) (a0 : Array Value) (hw : ∀ d ∈ tables_1, d.before a0 Z = true) (a1 u : Addr) (txt pad : List Int8) (kap : Nat) (o1 o2 : Addr) (n : Nat) (cs : Int32)  (h0 : Heap) (O0 : Ext Z.heap h0) (S_cs : Sta Z Z.heap "java/lang/String" "COMPACT_STRINGS" "Z" (.int cs)) (hcs : ¬ cs = 0) (S_o : Sta Z Z.heap "java/lang/Integer" "DigitOnes" "[B" (.ref o1)) (S_t : Sta Z Z.heap "java/lang/Integer" "DigitTens" "[B" (.ref o2)) (Yo : Ary Z h0 o1 .byte (own_bv own_on)) (Yt : Ary Z h0 o2 .byte (own_bv own_te)) (lo1 : o1 < Z.heap.size) (lo2 : o2 < Z.heap.size) (E1 : Exa Z h0 a1 "java/lang/StringBuilder") (V1 : Fld Z h0 a1 "java/lang/AbstractStringBuilder" "value" "[B" (.ref u)) (C1 : Fld Z h0 a1 "java/lang/AbstractStringBuilder" "coder" "B" (.int (0 : Int32))) (N1 : Fld Z h0 a1 "java/lang/AbstractStringBuilder" "count" "I" (.int txt.length.toInt32)) (Y1 : Ary Z h0 u .byte (own_bv (txt ++ pad))) (X1 : Exa Z h0 u "[B") (hk : (txt ++ pad).length = kap) (hkk : kap = 16 ∨ kap = 34) (ne : a1 ≠ u) (fr1 : Z.heap.size ≤ a1) (fr2 : Z.heap.size ≤ u) (hn1 : 1 ≤ n) (hn : n < 2 ^ 31) (hfit : txt.length + 10 ≤ 34) :
    Ctr l Z (⟨"java/lang/StringBuilder", "append", "(I)Ljava/lang/StringBuilder;"⟩ : MethodName) jdk_67_method_15_code 2 (some (.object "java/lang/StringBuilder")) [] ({ frames := 5, cells := 1, slots := 34, locals := 91 } : Room) #[(.ref a1), (.int n.toInt32)] h0 (fun v h L => ∃ d : Nat, v = some (.ref a1) ∧ Fr Z.heap.size L ∧ Keep h0 h [a1, u] ∧ d ≤ 10 ∧ own_D n d ∧ ∃ (u2 : Addr) (pad2 : List Int8) (kap2 : Nat), (u2 = u ∨ h0.size ≤ u2) ∧ Fld Z h a1 "java/lang/AbstractStringBuilder" "value" "[B" (.ref u2) ∧ Fld Z h a1 "java/lang/AbstractStringBuilder" "coder" "B" (.int (0 : Int32)) ∧ Fld Z h a1 "java/lang/AbstractStringBuilder" "count" "I" (.int (txt ++ own_dg d n).length.toInt32) ∧ Ary Z h u2 .byte (own_bv ((txt ++ own_dg d n) ++ pad2)) ∧ Exa Z h u2 "[B" ∧ ((txt ++ own_dg d n) ++ pad2).length = kap2 ∧ (kap2 = 16 ∨ kap2 = 34)) := by
  refine ctr (plainFor_of_name pn_1) ?_
  intro p e s m below meth c s₁ hx hby hml hown hnm hret hlocks hZ X0 e0
  have N0 := Fr.nil Z.heap.size
  have hsz : ∀ {Ls : Array Slot}, Ls.size = 2 → Ls.size = c.maxLocals := fun q => q.trans hml.symm
  have K0 := Keep.refl h0 [a1, u]
  refine goE (ef_rmAt m (a1) (n.toInt32)) ?_
  show Goes p e below _ (s₁.setTop (mkF m 0 #[.val (.ref a1), .val (.int n.toInt32)] []))
  refine gAloadN X0 hx (hb hby d_jdk_67_method_15_0) rfl rfl ?_
  refine gIloadN X0 hx (hb hby d_jdk_67_method_15_1) rfl ?_
  have lt_o1_q1 := Yo.lt
  have lt_o2_q1 := Yt.lt
  have lt_a1_q1 := E1.lt
  have lt_u_q1 := Y1.lt
  refine goCallU X0 hx hZ hown (hw _ (List.mem_of_getElem? (i := 138) rfl)) (hw _ (List.mem_of_getElem? (i := 92) rfl)) (hw _ (List.mem_of_getElem? (i := 110) rfl)) rfl (by decide) (hw _ (List.mem_of_getElem? (i := 139) rfl)) (hw _ (List.mem_of_getElem? (i := 77) rfl)) (hw _ (List.mem_of_getElem? (i := 141) rfl)) (by decide) (rmAn l Z a0 hw a1 u txt pad kap o1 o2 n cs h0 O0 S_cs hcs S_o S_t Yo Yt lo1 lo2 E1 V1 C1 N1 Y1 X1 hk hkk ne fr1 fr2 hn1 hn hfit) 0 (by decide) (by decide) e0 E1 (hsz rfl) [(.int n.toInt32)] [] pd_13 rfl rfl rfl (Nat.le_of_eq rfl) (hb hby d_jdk_67_method_15_2) (by decide) (by decide) (fun Tt2 vt2 Lt2 Xt2 qt2 => ?_)
  obtain ⟨ht2, et2⟩ : ∃ z, Tt2.heap = z := ⟨_, rfl⟩
  rw [et2] at qt2
  obtain ⟨d, rfl, N3, Kct2, hd10, hD, u2, pad2, kap2, hu2, Vb2, Cb2, Nb2, Yb2, Xb2, hk2, hkk2⟩ := qt2
  have N4 := Fr.app N0 N3
  replace Yo := Yo.keep Kct2 (ninS (Nat.ne_of_lt (Nat.lt_of_lt_of_le lo1 fr1)) (ninS (Nat.ne_of_lt (Nat.lt_of_lt_of_le lo1 fr2)) nin0))
  replace Yt := Yt.keep Kct2 (ninS (Nat.ne_of_lt (Nat.lt_of_lt_of_le lo2 fr1)) (ninS (Nat.ne_of_lt (Nat.lt_of_lt_of_le lo2 fr2)) nin0))
  replace E1 := E1.keep Kct2
  replace X1 := X1.keep Kct2
  have O5 : Ext Z.heap ht2 := extK O0 Kct2 (allS fr1 (allS fr2 all0))
  have K6 := K0.trans Kct2 (allS (Or.inl (by simp)) (allS (Or.inl (by simp)) all0))
  show Goes p e below _ (Tt2.setTop (mkF m 5 #[.val (.ref a1), .val (.int n.toInt32)] [(.ref a1)]))
  have ne_o1_u2 : o1 ≠ u2 := own_une hu2 (Nat.ne_of_lt (Nat.lt_of_lt_of_le lo1 fr2)) lt_o1_q1
  have ne_o2_u2 : o2 ≠ u2 := own_une hu2 (Nat.ne_of_lt (Nat.lt_of_lt_of_le lo2 fr2)) lt_o2_q1
  have ne_a1_u2 : a1 ≠ u2 := own_une hu2 ne lt_a1_q1
  have fr_u2 : Z.heap.size ≤ u2 := own_uge hu2 fr2 O0.1
  refine gPop Xt2 hx (hb hby d_jdk_67_method_15_5) rfl ?_
  refine gAloadN Xt2 hx (hb hby d_jdk_67_method_15_6) rfl rfl ?_
  exact goRetA Xt2 hx hret hlocks rfl rfl (hb hby d_jdk_67_method_15_7) (by decide) (by decide) et2 (⟨d, rfl, N4, K6, hd10, hD, u2, pad2, kap2, hu2, Vb2, Cb2, Nb2, Yb2, Xb2, hk2, hkk2⟩)
theorem d_jdk_68_method_64_0 : decode jdk_68_method_64_code 0 = .ok (.aload_n 0, 1) := by decide +kernel
theorem d_jdk_68_method_64_1 : decode jdk_68_method_64_code 1 = .ok (.getfield 15, 3) := by decide +kernel
theorem d_jdk_68_method_64_4 : decode jdk_68_method_64_code 4 = .ok (.areturn, 1) := by decide +kernel
theorem ef_rmGv (m : MethodId) (x0 : Addr) : entryFrame m #[(.ref x0)] 1 = mkF m 0 #[.val (.ref x0)] [] := by first | (simp [entryFrame, mkF, argsToLocals, Value.category]; done) | rfl
set_option maxRecDepth 65536 in
set_option maxHeartbeats 40000000 in
theorem rmGv (l : Launch) (Z : State) (a0 : Array Value) (hw : ∀ d ∈ tables_1, d.before a0 Z = true) (u : Addr) (a1 : Addr) (h0 : Heap) (O0 : Ext Z.heap h0) (V1 : Fld Z h0 a1 "java/lang/AbstractStringBuilder" "value" "[B" (.ref u)) :
    Ctr l Z (⟨"java/lang/AbstractStringBuilder", "getValue", "()[B"⟩ : MethodName) jdk_68_method_64_code 1 (some (.array .byte)) [] ({ frames := 0, cells := 0, slots := 0, locals := 0 } : Room) #[(.ref a1)] h0 (fun v h L => v = some (.ref u) ∧ Fr Z.heap.size L ∧ h = h0) := by
  refine ctr (plainFor_of_name pn_0) ?_
  intro p e s m below meth c s₁ hx hby hml hown hnm hret hlocks hZ X0 e0
  have N0 := Fr.nil Z.heap.size
  have hsz : ∀ {Ls : Array Slot}, Ls.size = 1 → Ls.size = c.maxLocals := fun q => q.trans hml.symm
  refine goE (ef_rmGv m (a1)) ?_
  show Goes p e below _ (s₁.setTop (mkF m 0 #[.val (.ref a1)] []))
  refine gAloadN X0 hx (hb hby d_jdk_68_method_64_0) rfl rfl ?_
  obtain ⟨Tt1, Xt1, et1, stt1⟩ := getF X0 hx hZ hown (host := "") (Or.inl (hw _ (List.mem_of_getElem? (i := 81) rfl))) Via.refl e0 V1 (g := (mkF m 1 #[.val (.ref a1)] [(.ref a1)])) rfl rfl (hb hby d_jdk_68_method_64_1)
  refine go stt1 ?_
  show Goes p e below _ (Tt1.setTop (mkF m 4 #[.val (.ref a1)] [(.ref u)]))
  exact goRetA Xt1 hx hret hlocks rfl rfl (hb hby d_jdk_68_method_64_4) (by decide) (by decide) et1 (⟨rfl, N0, rfl⟩)
theorem d_jdk_68_method_6_0 : decode jdk_68_method_6_code 0 = .ok (.aload_n 0, 1) := by decide +kernel
theorem d_jdk_68_method_6_1 : decode jdk_68_method_6_code 1 = .ok (.getfield 79, 3) := by decide +kernel
theorem d_jdk_68_method_6_4 : decode jdk_68_method_6_code 4 = .ok (.ireturn, 1) := by decide +kernel
theorem ef_rmLa (m : MethodId) (x0 : Addr) : entryFrame m #[(.ref x0)] 1 = mkF m 0 #[.val (.ref x0)] [] := by first | (simp [entryFrame, mkF, argsToLocals, Value.category]; done) | rfl
set_option maxRecDepth 65536 in
set_option maxHeartbeats 40000000 in
theorem rmLa (l : Launch) (Z : State) (a0 : Array Value) (hw : ∀ d ∈ tables_1, d.before a0 Z = true) (z : Int32) (a1 : Addr) (h0 : Heap) (O0 : Ext Z.heap h0) (N1 : Fld Z h0 a1 "java/lang/AbstractStringBuilder" "count" "I" (.int z)) :
    Ctr l Z (⟨"java/lang/AbstractStringBuilder", "length", "()I"⟩ : MethodName) jdk_68_method_6_code 1 (some .int) [] ({ frames := 0, cells := 0, slots := 0, locals := 0 } : Room) #[(.ref a1)] h0 (fun v h L => v = some (.int z) ∧ Fr Z.heap.size L ∧ h = h0) := by
  refine ctr (plainFor_of_name pn_0) ?_
  intro p e s m below meth c s₁ hx hby hml hown hnm hret hlocks hZ X0 e0
  have N0 := Fr.nil Z.heap.size
  have hsz : ∀ {Ls : Array Slot}, Ls.size = 1 → Ls.size = c.maxLocals := fun q => q.trans hml.symm
  refine goE (ef_rmLa m (a1)) ?_
  show Goes p e below _ (s₁.setTop (mkF m 0 #[.val (.ref a1)] []))
  refine gAloadN X0 hx (hb hby d_jdk_68_method_6_0) rfl rfl ?_
  obtain ⟨Tt1, Xt1, et1, stt1⟩ := getF X0 hx hZ hown (host := "") (Or.inl (hw _ (List.mem_of_getElem? (i := 105) rfl))) Via.refl e0 N1 (g := (mkF m 1 #[.val (.ref a1)] [(.ref a1)])) rfl rfl (hb hby d_jdk_68_method_6_1)
  refine go stt1 ?_
  show Goes p e below _ (Tt1.setTop (mkF m 4 #[.val (.ref a1)] [(.int z)]))
  exact goRetI Xt1 hx hret hlocks (hb hby d_jdk_68_method_6_4) (by decide) (by decide) et1 (⟨rfl, N0, rfl⟩)
theorem d_jdk_67_method_93_0 : decode jdk_67_method_93_code 0 = .ok (.aload_n 0, 1) := by decide +kernel
theorem d_jdk_67_method_93_1 : decode jdk_67_method_93_code 1 = .ok (.invokespecial 343, 3) := by decide +kernel
theorem d_jdk_67_method_93_4 : decode jdk_67_method_93_code 4 = .ok (.ireturn, 1) := by decide +kernel
theorem ef_rmLb (m : MethodId) (x0 : Addr) : entryFrame m #[(.ref x0)] 1 = mkF m 0 #[.val (.ref x0)] [] := by first | (simp [entryFrame, mkF, argsToLocals, Value.category]; done) | rfl
set_option maxRecDepth 65536 in
set_option maxHeartbeats 40000000 in
theorem rmLb (l : Launch) (Z : State) (a0 : Array Value) (hw : ∀ d ∈ tables_1, d.before a0 Z = true) (z : Int32) (a1 : Addr) (h0 : Heap) (O0 : Ext Z.heap h0) (E1 : Exa Z h0 a1 "java/lang/StringBuilder") (N1 : Fld Z h0 a1 "java/lang/AbstractStringBuilder" "count" "I" (.int z)) :
    Ctr l Z (⟨"java/lang/StringBuilder", "length", "()I"⟩ : MethodName) jdk_67_method_93_code 1 (some .int) [] ({ frames := 1, cells := 0, slots := 0, locals := 12 } : Room) #[(.ref a1)] h0 (fun v h L => v = some (.int z) ∧ Fr Z.heap.size L ∧ h = h0) := by
  refine ctr (plainFor_of_name pn_1) ?_
  intro p e s m below meth c s₁ hx hby hml hown hnm hret hlocks hZ X0 e0
  have N0 := Fr.nil Z.heap.size
  have hsz : ∀ {Ls : Array Slot}, Ls.size = 1 → Ls.size = c.maxLocals := fun q => q.trans hml.symm
  refine goE (ef_rmLb m (a1)) ?_
  show Goes p e below _ (s₁.setTop (mkF m 0 #[.val (.ref a1)] []))
  refine gAloadN X0 hx (hb hby d_jdk_67_method_93_0) rfl rfl ?_
  refine goCallU X0 hx hZ hown (hw _ (List.mem_of_getElem? (i := 178) rfl)) (hw _ (List.mem_of_getElem? (i := 92) rfl)) (hw _ (List.mem_of_getElem? (i := 110) rfl)) rfl (by decide) (hw _ (List.mem_of_getElem? (i := 174) rfl)) (hw _ (List.mem_of_getElem? (i := 77) rfl)) (hw _ (List.mem_of_getElem? (i := 179) rfl)) (by decide) (rmLa l Z a0 hw z a1 h0 O0 N1) 0 (by decide) (by decide) e0 E1 (hsz rfl) [] [] pd_8 rfl rfl rfl (Nat.le_of_eq rfl) (hb hby d_jdk_67_method_93_1) (by decide) (by decide) (fun Tt1 vt1 Lt1 Xt1 qt1 => ?_)
  obtain ⟨rfl, N2, et1⟩ := qt1
  have N3 := Fr.app N0 N2
  show Goes p e below _ (Tt1.setTop (mkF m 4 #[.val (.ref a1)] [(.int z)]))
  exact goRetI Xt1 hx hret hlocks (hb hby d_jdk_67_method_93_4) (by decide) (by decide) et1 (⟨rfl, N3, rfl⟩)
theorem d_jdk_65_method_131_0 : decode jdk_65_method_131_code 0 = .ok (.iload_n 1, 1) := by decide +kernel
theorem d_jdk_65_method_131_1 : decode jdk_65_method_131_code 1 = .ok (.iload_n 0, 1) := by decide +kernel
theorem d_jdk_65_method_131_2 : decode jdk_65_method_131_code 2 = .ok (.if_icmp .ge 35, 3) := by decide +kernel
theorem d_jdk_65_method_131_37 : decode jdk_65_method_131_code 37 = .ok (.return_, 1) := by decide +kernel
theorem ef_rmCl (m : MethodId) (x0 : Int32) (x1 : Int32) : entryFrame m #[(.int x0), (.int x1)] 2 = mkF m 0 #[.val (.int x0), .val (.int x1)] [] := by first | (simp [entryFrame, mkF, argsToLocals, Value.category]; done) | rfl
set_option maxRecDepth 65536 in
set_option maxHeartbeats 40000000 in
theorem rmCl (l : Launch) (Z : State) (a0 : Array Value) (hw : ∀ d ∈ tables_1, d.before a0 Z = true)  (p1 : Int32) (h0 : Heap) (O0 : Ext Z.heap h0) (hp : ¬ p1 < 0) :
    Ctr l Z (⟨"java/util/Arrays", "checkLength", "(II)V"⟩ : MethodName) jdk_65_method_131_code 2 none [] ({ frames := 0, cells := 0, slots := 0, locals := 0 } : Room) #[(.int (0 : Int32)), (.int p1)] h0 (fun v h L => v = none ∧ Fr Z.heap.size L ∧ h = h0) := by
  refine ctr (plainFor_of_name pn_3) ?_
  intro p e s m below meth c s₁ hx hby hml hown hnm hret hlocks hZ X0 e0
  have N0 := Fr.nil Z.heap.size
  have hsz : ∀ {Ls : Array Slot}, Ls.size = 2 → Ls.size = c.maxLocals := fun q => q.trans hml.symm
  refine goE (ef_rmCl m ((0 : Int32)) (p1)) ?_
  show Goes p e below _ (s₁.setTop (mkF m 0 #[.val (.int (0 : Int32)), .val (.int p1)] []))
  refine gIloadN X0 hx (hb hby d_jdk_65_method_131_0) rfl ?_
  refine gIloadN X0 hx (hb hby d_jdk_65_method_131_1) rfl ?_
  refine gIcmpY X0 hx (hb hby d_jdk_65_method_131_2) (pc' := 37) (XT.ii_ge_t hp) (by decide) (by decide) ?_
  show Goes p e below _ (s₁.setTop (mkF m 37 #[.val (.int (0 : Int32)), .val (.int p1)] []))
  exact goRet0 X0 hx hret hlocks (hb hby d_jdk_65_method_131_37) (by decide) (by decide) e0 (⟨rfl, N0, rfl⟩)
theorem d_jdk_65_method_133_0 : decode jdk_65_method_133_code 0 = .ok (.iload_n 1, 1) := by decide +kernel
theorem d_jdk_65_method_133_1 : decode jdk_65_method_133_code 1 = .ok (.iload_n 2, 1) := by decide +kernel
theorem pd_14 : parseMethodDescriptor "(II)V" = some ⟨[.int, .int], none⟩ := by decide +kernel
theorem d_jdk_65_method_133_2 : decode jdk_65_method_133_code 2 = .ok (.invokestatic 343, 3) := by decide +kernel
theorem d_jdk_65_method_133_5 : decode jdk_65_method_133_code 5 = .ok (.iload_n 2, 1) := by decide +kernel
theorem d_jdk_65_method_133_6 : decode jdk_65_method_133_code 6 = .ok (.iload_n 1, 1) := by decide +kernel
theorem d_jdk_65_method_133_7 : decode jdk_65_method_133_code 7 = .ok (.isub, 1) := by decide +kernel
theorem d_jdk_65_method_133_8 : decode jdk_65_method_133_code 8 = .ok (.istore_n 3, 1) := by decide +kernel
theorem d_jdk_65_method_133_9 : decode jdk_65_method_133_code 9 = .ok (.iload_n 3, 1) := by decide +kernel
theorem d_jdk_65_method_133_10 : decode jdk_65_method_133_code 10 = .ok (.newarray .byte, 2) := by decide +kernel
theorem d_jdk_65_method_133_12 : decode jdk_65_method_133_code 12 = .ok (.astore 4, 2) := by decide +kernel
theorem d_jdk_65_method_133_14 : decode jdk_65_method_133_code 14 = .ok (.aload_n 0, 1) := by decide +kernel
theorem d_jdk_65_method_133_15 : decode jdk_65_method_133_code 15 = .ok (.iload_n 1, 1) := by decide +kernel
theorem d_jdk_65_method_133_16 : decode jdk_65_method_133_code 16 = .ok (.aload 4, 2) := by decide +kernel
theorem d_jdk_65_method_133_18 : decode jdk_65_method_133_code 18 = .ok (.iconst 0, 1) := by decide +kernel
theorem d_jdk_65_method_133_19 : decode jdk_65_method_133_code 19 = .ok (.aload_n 0, 1) := by decide +kernel
theorem d_jdk_65_method_133_20 : decode jdk_65_method_133_code 20 = .ok (.arraylength, 1) := by decide +kernel
theorem d_jdk_65_method_133_21 : decode jdk_65_method_133_code 21 = .ok (.iload_n 1, 1) := by decide +kernel
theorem d_jdk_65_method_133_22 : decode jdk_65_method_133_code 22 = .ok (.isub, 1) := by decide +kernel
theorem d_jdk_65_method_133_23 : decode jdk_65_method_133_code 23 = .ok (.iload_n 3, 1) := by decide +kernel
theorem d_jdk_65_method_133_24 : decode jdk_65_method_133_code 24 = .ok (.invokestatic 304, 3) := by decide +kernel
theorem d_jdk_65_method_133_27 : decode jdk_65_method_133_code 27 = .ok (.invokestatic 150, 3) := by decide +kernel
theorem d_jdk_65_method_133_30 : decode jdk_65_method_133_code 30 = .ok (.aload 4, 2) := by decide +kernel
theorem d_jdk_65_method_133_32 : decode jdk_65_method_133_code 32 = .ok (.areturn, 1) := by decide +kernel
theorem ef_rmRb (m : MethodId) (x0 : Addr) (x1 : Int32) (x2 : Int32) : entryFrame m #[(.ref x0), (.int x1), (.int x2)] 5 = mkF m 0 #[.val (.ref x0), .val (.int x1), .val (.int x2), .unset, .unset] [] := by first | (simp [entryFrame, mkF, argsToLocals, Value.category]; done) | rfl
set_option maxRecDepth 65536 in
set_option maxHeartbeats 40000000 in
theorem rmRb (l : Launch) (Z : State) (a0 : Array Value) (hw : ∀ d ∈ tables_1, d.before a0 Z = true) (txt pad : List Int8) (kap : Nat) (u : Addr) (h0 : Heap) (O0 : Ext Z.heap h0) (Y1 : Ary Z h0 u .byte (own_bv (txt ++ pad))) (X1 : Exa Z h0 u "[B") (hk : (txt ++ pad).length = kap) (hkk : kap = 16 ∨ kap = 34) (h34 : txt.length < 34) :
    Ctr l Z (⟨"java/util/Arrays", "copyOfRangeByte", "([BII)[B"⟩ : MethodName) jdk_65_method_133_code 5 (some (.array .byte)) [] ({ frames := 1, cells := 1, slots := 34, locals := 23 } : Room) #[(.ref u), (.int (0 : Int32)), (.int txt.length.toInt32)] h0 (fun v h L => ∃ u2, v = some (.ref u2) ∧ Fr Z.heap.size L ∧ Keep h0 h [] ∧ h0.size ≤ u2 ∧ Ary Z h u2 .byte (own_bv txt)) := by
  refine ctr (plainFor_of_name pn_3) ?_
  intro p e s m below meth c s₁ hx hby hml hown hnm hret hlocks hZ X0 e0
  have N0 := Fr.nil Z.heap.size
  have hsz : ∀ {Ls : Array Slot}, Ls.size = 5 → Ls.size = c.maxLocals := fun q => q.trans hml.symm
  have K0 := Keep.refl h0 []
  refine goE (ef_rmRb m (u) ((0 : Int32)) (txt.length.toInt32)) ?_
  show Goes p e below _ (s₁.setTop (mkF m 0 #[.val (.ref u), .val (.int (0 : Int32)), .val (.int txt.length.toInt32), .unset, .unset] []))
  have hle : txt.length ≤ kap := by rw [← hk, List.length_append]; omega
  refine gIloadN X0 hx (hb hby d_jdk_65_method_133_0) rfl ?_
  refine gIloadN X0 hx (hb hby d_jdk_65_method_133_1) rfl ?_
  refine goCallS X0 hx hZ hown (hw _ (List.mem_of_getElem? (i := 188) rfl)) (hw _ (List.mem_of_getElem? (i := 189) rfl)) (hw _ (List.mem_of_getElem? (i := 183) rfl)) (hw _ (List.mem_of_getElem? (i := 190) rfl)) (by decide) (rmCl l Z a0 hw txt.length.toInt32 h0 O0 (own_natn (by omega))) 0 (by decide) (by decide) e0 (hsz rfl) [(.int (0 : Int32)), (.int txt.length.toInt32)] [] pd_14 rfl rfl rfl (Nat.le_of_eq rfl) (hb hby d_jdk_65_method_133_2) (by decide) (by decide) (fun Tt1 vt1 Lt1 Xt1 qt1 => ?_)
  obtain ⟨rfl, N2, et1⟩ := qt1
  have N3 := Fr.app N0 N2
  show Goes p e below _ (Tt1.setTop (mkF m 5 #[.val (.ref u), .val (.int (0 : Int32)), .val (.int txt.length.toInt32), .unset, .unset] []))
  refine gIloadN Xt1 hx (hb hby d_jdk_65_method_133_5) rfl ?_
  refine gIloadN Xt1 hx (hb hby d_jdk_65_method_133_6) rfl ?_
  refine gIsub Xt1 hx (hb hby d_jdk_65_method_133_7) ?_
  show Goes p e below _ (Tt1.setTop (mkF m 8 #[.val (.ref u), .val (.int (0 : Int32)), .val (.int txt.length.toInt32), .unset, .unset] [(.int (txt.length.toInt32 - (0 : Int32)))]))
  rw [show ∀ x : Int32, x - (0 : Int32) = x from fun x => by simp]
  show Goes p e below _ (Tt1.setTop (mkF m 8 #[.val (.ref u), .val (.int (0 : Int32)), .val (.int txt.length.toInt32), .unset, .unset] [(.int txt.length.toInt32)]))
  refine gIstoreN Xt1 hx (hb hby d_jdk_65_method_133_8) (l' := #[.val (.ref u), .val (.int (0 : Int32)), .val (.int txt.length.toInt32), .val (.int txt.length.toInt32), .unset]) rfl ?_
  refine gIloadN Xt1 hx (hb hby d_jdk_65_method_133_9) rfl ?_
  refine goNewB Xt1 hx hZ (hw _ (List.mem_of_getElem? (i := 21) rfl)) et1 (hb hby d_jdk_65_method_133_10) txt.length 34 (by omega) (by decide) rfl (by decide) (by decide) (fun Tt4 ht4 ob5 gob5 Xt4 et4 Et4 At4 Bt4 => ?_)
  have ne_u_ob5 : u ≠ ob5 := Nat.ne_of_lt (gob5 ▸ Y1.lt)
  have fr_ob5 : Z.heap.size ≤ ob5 := gob5 ▸ O0.1
  have pa_ob5 : h0.size ≤ ob5 := gob5 ▸ K0.1
  replace Y1 := Y1.ext Et4
  replace X1 := X1.ext Et4
  have O6 : Ext Z.heap ht4 := extT O0 Et4
  have K7 := K0.ext Et4
  show Goes p e below _ (Tt4.setTop (mkF m 12 #[.val (.ref u), .val (.int (0 : Int32)), .val (.int txt.length.toInt32), .val (.int txt.length.toInt32), .unset] [(.ref ob5)]))
  refine gAstore Xt4 hx (hb hby d_jdk_65_method_133_12) rfl (l' := #[.val (.ref u), .val (.int (0 : Int32)), .val (.int txt.length.toInt32), .val (.int txt.length.toInt32), .val (.ref ob5)]) rfl ?_
  refine gAloadN Xt4 hx (hb hby d_jdk_65_method_133_14) rfl rfl ?_
  refine gIloadN Xt4 hx (hb hby d_jdk_65_method_133_15) rfl ?_
  refine gAload Xt4 hx (hb hby d_jdk_65_method_133_16) rfl rfl ?_
  refine gIconst Xt4 hx (hb hby d_jdk_65_method_133_18) (v := (0 : Int32)) rfl ?_
  refine gAloadN Xt4 hx (hb hby d_jdk_65_method_133_19) rfl rfl ?_
  refine goAlen Xt4 hx hZ et4 Y1 (n := kap.toInt32) (hb hby d_jdk_65_method_133_20) (own_len hk) ?_
  show Goes p e below _ (Tt4.setTop (mkF m 21 #[.val (.ref u), .val (.int (0 : Int32)), .val (.int txt.length.toInt32), .val (.int txt.length.toInt32), .val (.ref ob5)] [(.int kap.toInt32), (.int (0 : Int32)), (.ref ob5), (.int (0 : Int32)), (.ref u)]))
  refine gIloadN Xt4 hx (hb hby d_jdk_65_method_133_21) rfl ?_
  refine gIsub Xt4 hx (hb hby d_jdk_65_method_133_22) ?_
  show Goes p e below _ (Tt4.setTop (mkF m 23 #[.val (.ref u), .val (.int (0 : Int32)), .val (.int txt.length.toInt32), .val (.int txt.length.toInt32), .val (.ref ob5)] [(.int (kap.toInt32 - (0 : Int32))), (.int (0 : Int32)), (.ref ob5), (.int (0 : Int32)), (.ref u)]))
  rw [show ∀ x : Int32, x - (0 : Int32) = x from fun x => by simp]
  show Goes p e below _ (Tt4.setTop (mkF m 23 #[.val (.ref u), .val (.int (0 : Int32)), .val (.int txt.length.toInt32), .val (.int txt.length.toInt32), .val (.ref ob5)] [(.int kap.toInt32), (.int (0 : Int32)), (.ref ob5), (.int (0 : Int32)), (.ref u)]))
  refine gIloadN Xt4 hx (hb hby d_jdk_65_method_133_23) rfl ?_
  refine goCallS Xt4 hx hZ hown (hw _ (List.mem_of_getElem? (i := 191) rfl)) (hw _ (List.mem_of_getElem? (i := 192) rfl)) (hw _ (List.mem_of_getElem? (i := 35) rfl)) (hw _ (List.mem_of_getElem? (i := 193) rfl)) (by decide) (rmMn l Z a0 hw txt.length.toInt32 kap.toInt32 txt.length.toInt32 ht4 O6 ⟨fun _ => rfl, fun q => by
      have : kap = txt.length := Nat.le_antisymm (Nat.le_of_not_lt fun z => q ((own_ltn (by omega) (by omega)).mpr z)) hle
      rw [this]⟩) 4 (by decide) (by decide) et4 (hsz rfl) [(.int kap.toInt32), (.int txt.length.toInt32)] [(.int (0 : Int32)), (.ref ob5), (.int (0 : Int32)), (.ref u)] pd_1 rfl rfl rfl (Nat.le_of_eq rfl) (hb hby d_jdk_65_method_133_24) (by decide) (by decide) (fun Tt8 vt8 Lt8 Xt8 qt8 => ?_)
  obtain ⟨rfl, N9, et8⟩ := qt8
  have N10 := Fr.app N3 N9
  show Goes p e below _ (Tt8.setTop (mkF m 27 #[.val (.ref u), .val (.int (0 : Int32)), .val (.int txt.length.toInt32), .val (.int txt.length.toInt32), .val (.ref ob5)] [(.int txt.length.toInt32), (.int (0 : Int32)), (.ref ob5), (.int (0 : Int32)), (.ref u)]))
  refine goCopy Xt8 hx hZ hown (hw _ (List.mem_of_getElem? (i := 194) rfl)) (hw _ (List.mem_of_getElem? (i := 129) rfl)) (hw _ (List.mem_of_getElem? (i := 130) rfl)) (hw _ (List.mem_of_getElem? (i := 131) rfl)) et8 Y1 At4 0 0 txt.length (by omega) (by simp) txt (by simp) rfl rfl rfl 0 (by decide) (by decide) (hsz rfl) (Nat.le_of_eq rfl) (hb hby d_jdk_65_method_133_27) (fun Tt11 ht11 Lt11 Xt11 et11 Lbt11 Kct11 Yct11 => ?_)
  have N12 := Fr.app N10 (fun y q => by rw [Lbt11 y q]; exact fr_ob5)
  replace Y1 := Y1.keep Kct11 (ninS ne_u_ob5 nin0)
  replace X1 := X1.keep Kct11
  replace Bt4 := Bt4.keep Kct11
  have O13 : Ext Z.heap ht11 := extK O6 Kct11 (allS fr_ob5 all0)
  have K14 := K7.trans Kct11 (allS (Or.inr pa_ob5) all0)
  show Goes p e below _ (Tt11.setTop (mkF m 30 #[.val (.ref u), .val (.int (0 : Int32)), .val (.int txt.length.toInt32), .val (.int txt.length.toInt32), .val (.ref ob5)] []))
  refine gAload Xt11 hx (hb hby d_jdk_65_method_133_30) rfl rfl ?_
  exact goRetA Xt11 hx hret hlocks rfl rfl (hb hby d_jdk_65_method_133_32) (by decide) (by decide) et11 (⟨ob5, rfl, N12, K14, pa_ob5, Yct11⟩)
theorem d_jdk_65_method_132_0 : decode jdk_65_method_132_code 0 = .ok (.iload_n 1, 1) := by decide +kernel
theorem d_jdk_65_method_132_1 : decode jdk_65_method_132_code 1 = .ok (.ifCond .ne 9, 3) := by decide +kernel
theorem d_jdk_65_method_132_4 : decode jdk_65_method_132_code 4 = .ok (.iload_n 2, 1) := by decide +kernel
theorem d_jdk_65_method_132_5 : decode jdk_65_method_132_code 5 = .ok (.aload_n 0, 1) := by decide +kernel
theorem d_jdk_65_method_132_6 : decode jdk_65_method_132_code 6 = .ok (.arraylength, 1) := by decide +kernel
theorem d_jdk_65_method_132_7 : decode jdk_65_method_132_code 7 = .ok (.if_icmp .eq 10, 3) := by decide +kernel
theorem d_jdk_65_method_132_17 : decode jdk_65_method_132_code 17 = .ok (.aload_n 0, 1) := by decide +kernel
theorem d_jdk_65_method_132_18 : decode jdk_65_method_132_code 18 = .ok (.invokevirtual 310, 3) := by decide +kernel
theorem d_jdk_65_method_132_21 : decode jdk_65_method_132_code 21 = .ok (.checkcast 311, 3) := by decide +kernel
theorem d_jdk_65_method_132_24 : decode jdk_65_method_132_code 24 = .ok (.areturn, 1) := by decide +kernel
theorem d_jdk_65_method_132_10 : decode jdk_65_method_132_code 10 = .ok (.aload_n 0, 1) := by decide +kernel
theorem d_jdk_65_method_132_11 : decode jdk_65_method_132_code 11 = .ok (.iload_n 1, 1) := by decide +kernel
theorem d_jdk_65_method_132_12 : decode jdk_65_method_132_code 12 = .ok (.iload_n 2, 1) := by decide +kernel
theorem pd_15 : parseMethodDescriptor "([BII)[B" = some ⟨[(.array .byte), .int, .int], some (.array .byte)⟩ := by decide +kernel
theorem d_jdk_65_method_132_13 : decode jdk_65_method_132_code 13 = .ok (.invokestatic 339, 3) := by decide +kernel
theorem d_jdk_65_method_132_16 : decode jdk_65_method_132_code 16 = .ok (.areturn, 1) := by decide +kernel
theorem ef_rmRr (m : MethodId) (x0 : Addr) (x1 : Int32) (x2 : Int32) : entryFrame m #[(.ref x0), (.int x1), (.int x2)] 3 = mkF m 0 #[.val (.ref x0), .val (.int x1), .val (.int x2)] [] := by first | (simp [entryFrame, mkF, argsToLocals, Value.category]; done) | rfl
set_option maxRecDepth 65536 in
set_option maxHeartbeats 40000000 in
theorem rmRr (l : Launch) (Z : State) (a0 : Array Value) (hw : ∀ d ∈ tables_1, d.before a0 Z = true) (txt pad : List Int8) (kap : Nat) (u : Addr) (h0 : Heap) (O0 : Ext Z.heap h0) (Y1 : Ary Z h0 u .byte (own_bv (txt ++ pad))) (X1 : Exa Z h0 u "[B") (hk : (txt ++ pad).length = kap) (hkk : kap = 16 ∨ kap = 34) (h34 : txt.length < 34) :
    Ctr l Z (⟨"java/util/Arrays", "copyOfRange", "([BII)[B"⟩ : MethodName) jdk_65_method_132_code 3 (some (.array .byte)) [] ({ frames := 2, cells := 1, slots := 34, locals := 39 } : Room) #[(.ref u), (.int (0 : Int32)), (.int txt.length.toInt32)] h0 (fun v h L => ∃ u2, v = some (.ref u2) ∧ Fr Z.heap.size L ∧ Keep h0 h [] ∧ h0.size ≤ u2 ∧ Ary Z h u2 .byte (own_bv txt)) := by
  refine ctr (plainFor_of_name pn_3) ?_
  intro p e s m below meth c s₁ hx hby hml hown hnm hret hlocks hZ X0 e0
  have N0 := Fr.nil Z.heap.size
  have hsz : ∀ {Ls : Array Slot}, Ls.size = 3 → Ls.size = c.maxLocals := fun q => q.trans hml.symm
  have K0 := Keep.refl h0 []
  refine goE (ef_rmRr m (u) ((0 : Int32)) (txt.length.toInt32)) ?_
  show Goes p e below _ (s₁.setTop (mkF m 0 #[.val (.ref u), .val (.int (0 : Int32)), .val (.int txt.length.toInt32)] []))
  have hle : txt.length ≤ kap := by rw [← hk, List.length_append]; omega
  refine gIloadN X0 hx (hb hby d_jdk_65_method_132_0) rfl ?_
  refine gIfN X0 hx (hb hby d_jdk_65_method_132_1) (XT.i0_ne_f rfl) ?_
  show Goes p e below _ (s₁.setTop (mkF m 4 #[.val (.ref u), .val (.int (0 : Int32)), .val (.int txt.length.toInt32)] []))
  refine gIloadN X0 hx (hb hby d_jdk_65_method_132_4) rfl ?_
  refine gAloadN X0 hx (hb hby d_jdk_65_method_132_5) rfl rfl ?_
  refine goAlen X0 hx hZ e0 Y1 (n := kap.toInt32) (hb hby d_jdk_65_method_132_6) (own_len hk) ?_
  by_cases g : txt.length = kap
  · refine gIcmpY X0 hx (hb hby d_jdk_65_method_132_7) (pc' := 17) (XT.ii_eq_t ((own_eqn (by omega) (by omega)).mpr g)) (by decide) (by decide) ?_
    show Goes p e below _ (s₁.setTop (mkF m 17 #[.val (.ref u), .val (.int (0 : Int32)), .val (.int txt.length.toInt32)] []))
    refine gAloadN X0 hx (hb hby d_jdk_65_method_132_17) rfl rfl ?_
    refine goClone X0 hx hZ hown (hw _ (List.mem_of_getElem? (i := 253) rfl)) (hw _ (List.mem_of_getElem? (i := 254) rfl)) (hw _ (List.mem_of_getElem? (i := 258) rfl)) (hw _ (List.mem_of_getElem? (i := 256) rfl)) (hw _ (List.mem_of_getElem? (i := 257) rfl)) (hw _ (List.mem_of_getElem? (i := 259) rfl)) e0 Y1 X1 16 (by omega) (hsz rfl) 0 (Nat.le_of_eq rfl) (hb hby d_jdk_65_method_132_18) (by decide) (by decide) (by decide) (by decide) (fun Tt1 ht1 ob2 gob2 Xt1 et1 Et1 At1 Bt1 => ?_)
    have ne_u_ob2 : u ≠ ob2 := Nat.ne_of_lt (gob2 ▸ Y1.lt)
    have fr_ob2 : Z.heap.size ≤ ob2 := gob2 ▸ O0.1
    have pa_ob2 : h0.size ≤ ob2 := gob2 ▸ K0.1
    replace Y1 := Y1.ext Et1
    replace X1 := X1.ext Et1
    have O3 : Ext Z.heap ht1 := extT O0 Et1
    have K4 := K0.ext Et1
    show Goes p e below _ (Tt1.setTop (mkF m 21 #[.val (.ref u), .val (.int (0 : Int32)), .val (.int txt.length.toInt32)] [(.ref ob2)]))
    obtain ⟨Tt5, Xt5, et5, stt5⟩ := castY Xt1 hx hZ hown (hw _ (List.mem_of_getElem? (i := 260) rfl)) et1 (Ins.self Bt1) (g := (mkF m 21 #[.val (.ref u), .val (.int (0 : Int32)), .val (.int txt.length.toInt32)] [(.ref ob2)])) rfl rfl (hb hby d_jdk_65_method_132_21)
    refine go stt5 ?_
    show Goes p e below _ (Tt5.setTop (mkF m 24 #[.val (.ref u), .val (.int (0 : Int32)), .val (.int txt.length.toInt32)] [(.ref ob2)]))
    exact goRetA Xt5 hx hret hlocks rfl rfl (hb hby d_jdk_65_method_132_24) (by decide) (by decide) et5 (⟨ob2, rfl, N0, K4, pa_ob2, by
        have e : pad = [] := List.eq_nil_of_length_eq_zero (by rw [List.length_append] at hk; omega)
        have y := At1
        rw [e, List.append_nil] at y; exact y⟩)
  · refine gIcmpN X0 hx (hb hby d_jdk_65_method_132_7) (XT.ii_eq_f (fun z => g ((own_eqn (by omega) (by omega)).mp z))) ?_
    show Goes p e below _ (s₁.setTop (mkF m 10 #[.val (.ref u), .val (.int (0 : Int32)), .val (.int txt.length.toInt32)] []))
    refine gAloadN X0 hx (hb hby d_jdk_65_method_132_10) rfl rfl ?_
    refine gIloadN X0 hx (hb hby d_jdk_65_method_132_11) rfl ?_
    refine gIloadN X0 hx (hb hby d_jdk_65_method_132_12) rfl ?_
    have lt_u_t6 := Y1.lt
    refine goCallS X0 hx hZ hown (hw _ (List.mem_of_getElem? (i := 185) rfl)) (hw _ (List.mem_of_getElem? (i := 186) rfl)) (hw _ (List.mem_of_getElem? (i := 183) rfl)) (hw _ (List.mem_of_getElem? (i := 187) rfl)) (by decide) (rmRb l Z a0 hw txt pad kap u h0 O0 Y1 X1 hk hkk h34) 0 (by decide) (by decide) e0 (hsz rfl) [(.ref u), (.int (0 : Int32)), (.int txt.length.toInt32)] [] pd_15 rfl rfl rfl (Nat.le_of_eq rfl) (hb hby d_jdk_65_method_132_13) (by decide) (by decide) (fun Tt6 vt6 Lt6 Xt6 qt6 => ?_)
    obtain ⟨ht6, et6⟩ : ∃ z, Tt6.heap = z := ⟨_, rfl⟩
    rw [et6] at qt6
    obtain ⟨un, rfl, N7, Kct6, pun, Yn⟩ := qt6
    have N8 := Fr.app N0 N7
    replace Y1 := Y1.keep Kct6 nin0
    replace X1 := X1.keep Kct6
    have O9 : Ext Z.heap ht6 := extK O0 Kct6 all0
    have K10 := K0.trans Kct6 all0
    have ne_u_un : u ≠ un := Nat.ne_of_lt (Nat.lt_of_lt_of_le lt_u_t6 pun)
    have fr_un : Z.heap.size ≤ un := Nat.le_trans O0.1 pun
    have pa_un : h0.size ≤ un := Nat.le_trans K0.1 pun
    show Goes p e below _ (Tt6.setTop (mkF m 16 #[.val (.ref u), .val (.int (0 : Int32)), .val (.int txt.length.toInt32)] [(.ref un)]))
    exact goRetA Xt6 hx hret hlocks rfl rfl (hb hby d_jdk_65_method_132_16) (by decide) (by decide) et6 (⟨un, rfl, N8, K10, pun, Yn⟩)
theorem d_jdk_42_method_150_0 : decode jdk_42_method_150_code 0 = .ok (.aload_n 0, 1) := by decide +kernel
theorem d_jdk_42_method_150_1 : decode jdk_42_method_150_code 1 = .ok (.invokespecial 1, 3) := by decide +kernel
theorem d_jdk_42_method_150_4 : decode jdk_42_method_150_code 4 = .ok (.aload_n 1, 1) := by decide +kernel
theorem pd_16 : parseMethodDescriptor "()[B" = some ⟨[], some (.array .byte)⟩ := by decide +kernel
theorem d_jdk_42_method_150_5 : decode jdk_42_method_150_code 5 = .ok (.invokevirtual 552, 3) := by decide +kernel
theorem d_jdk_42_method_150_8 : decode jdk_42_method_150_code 8 = .ok (.astore_n 3, 1) := by decide +kernel
theorem d_jdk_42_method_150_9 : decode jdk_42_method_150_code 9 = .ok (.aload_n 1, 1) := by decide +kernel
theorem d_jdk_42_method_150_10 : decode jdk_42_method_150_code 10 = .ok (.invokevirtual 549, 3) := by decide +kernel
theorem d_jdk_42_method_150_13 : decode jdk_42_method_150_code 13 = .ok (.istore 4, 2) := by decide +kernel
theorem d_jdk_42_method_150_15 : decode jdk_42_method_150_code 15 = .ok (.aload_n 1, 1) := by decide +kernel
theorem d_jdk_42_method_150_16 : decode jdk_42_method_150_code 16 = .ok (.invokevirtual 1047, 3) := by decide +kernel
theorem d_jdk_42_method_150_19 : decode jdk_42_method_150_code 19 = .ok (.ifCond .eq 22, 3) := by decide +kernel
theorem d_jdk_42_method_150_22 : decode jdk_42_method_150_code 22 = .ok (.aload_n 0, 1) := by decide +kernel
theorem d_jdk_42_method_150_23 : decode jdk_42_method_150_code 23 = .ok (.iconst 0, 1) := by decide +kernel
theorem d_jdk_42_method_150_24 : decode jdk_42_method_150_code 24 = .ok (.putfield 15, 3) := by decide +kernel
theorem d_jdk_42_method_150_27 : decode jdk_42_method_150_code 27 = .ok (.aload_n 0, 1) := by decide +kernel
theorem d_jdk_42_method_150_28 : decode jdk_42_method_150_code 28 = .ok (.aload_n 3, 1) := by decide +kernel
theorem d_jdk_42_method_150_29 : decode jdk_42_method_150_code 29 = .ok (.iconst 0, 1) := by decide +kernel
theorem d_jdk_42_method_150_30 : decode jdk_42_method_150_code 30 = .ok (.iload 4, 2) := by decide +kernel
theorem d_jdk_42_method_150_32 : decode jdk_42_method_150_code 32 = .ok (.invokestatic 54, 3) := by decide +kernel
theorem d_jdk_42_method_150_35 : decode jdk_42_method_150_code 35 = .ok (.putfield 9, 3) := by decide +kernel
theorem d_jdk_42_method_150_38 : decode jdk_42_method_150_code 38 = .ok (.goto 59, 3) := by decide +kernel
theorem d_jdk_42_method_150_97 : decode jdk_42_method_150_code 97 = .ok (.return_, 1) := by decide +kernel
theorem ef_rmTa (m : MethodId) (x0 : Addr) (x1 : Addr) : entryFrame m #[(.ref x0), (.ref x1), .null] 5 = mkF m 0 #[.val (.ref x0), .val (.ref x1), .val .null, .unset, .unset] [] := by first | (simp [entryFrame, mkF, argsToLocals, Value.category]; done) | rfl
set_option maxRecDepth 65536 in
set_option maxHeartbeats 40000000 in
theorem rmTa (l : Launch) (Z : State) (a0 : Array Value) (hw : ∀ d ∈ tables_1, d.before a0 Z = true) (a1 u : Addr) (txt pad : List Int8) (kap : Nat) (cs : Int32) (s1 : Addr) (h0 : Heap) (O0 : Ext Z.heap h0) (S_cs : Sta Z Z.heap "java/lang/String" "COMPACT_STRINGS" "Z" (.int cs)) (hcs : ¬ cs = 0) (E1 : Exa Z h0 a1 "java/lang/StringBuilder") (V1 : Fld Z h0 a1 "java/lang/AbstractStringBuilder" "value" "[B" (.ref u)) (C1 : Fld Z h0 a1 "java/lang/AbstractStringBuilder" "coder" "B" (.int (0 : Int32))) (N1 : Fld Z h0 a1 "java/lang/AbstractStringBuilder" "count" "I" (.int txt.length.toInt32)) (Y1 : Ary Z h0 u .byte (own_bv (txt ++ pad))) (X1 : Exa Z h0 u "[B") (hk : (txt ++ pad).length = kap) (hkk : kap = 16 ∨ kap = 34) (ne : a1 ≠ u) (fr1 : Z.heap.size ≤ a1) (fr2 : Z.heap.size ≤ u) (h34 : txt.length < 34) (Es : Exa Z h0 s1 "java/lang/String") (Sv : Fld Z h0 s1 "java/lang/String" "value" "[B" .null) (Sc : Fld Z h0 s1 "java/lang/String" "coder" "B" (.int (0 : Int32))) (n1 : s1 ≠ a1) (n2 : s1 ≠ u) (fr3 : Z.heap.size ≤ s1) :
    Ctr l Z (⟨"java/lang/String", "<init>", "(Ljava/lang/AbstractStringBuilder;Ljava/lang/Void;)V"⟩ : MethodName) jdk_42_method_150_code 5 none [] ({ frames := 3, cells := 1, slots := 34, locals := 55 } : Room) #[(.ref s1), (.ref a1), .null] h0 (fun v h L => v = none ∧ Fr Z.heap.size L ∧ Keep h0 h [s1] ∧ ∃ us, h0.size ≤ us ∧ Fld Z h s1 "java/lang/String" "value" "[B" (.ref us) ∧ Fld Z h s1 "java/lang/String" "coder" "B" (.int (0 : Int32)) ∧ Ary Z h us .byte (own_bv txt)) := by
  refine ctr (plainFor_of_name pn_4) ?_
  intro p e s m below meth c s₁ hx hby hml hown hnm hret hlocks hZ X0 e0
  have N0 := Fr.nil Z.heap.size
  have hsz : ∀ {Ls : Array Slot}, Ls.size = 5 → Ls.size = c.maxLocals := fun q => q.trans hml.symm
  have K0 := Keep.refl h0 [s1]
  refine goE (ef_rmTa m (s1) (a1)) ?_
  show Goes p e below _ (s₁.setTop (mkF m 0 #[.val (.ref s1), .val (.ref a1), .val .null, .unset, .unset] []))
  refine gAloadN X0 hx (hb hby d_jdk_42_method_150_0) rfl rfl ?_
  obtain ⟨Tt1, Xt1, et1, stt1⟩ := initO X0 hx hZ hown (hw _ (List.mem_of_getElem? (i := 13) rfl)) (hw _ (List.mem_of_getElem? (i := 14) rfl)) (hw _ (List.mem_of_getElem? (i := 15) rfl)) e0 (g := (mkF m 1 #[.val (.ref s1), .val (.ref a1), .val .null, .unset, .unset] [(.ref s1)])) rfl (by rw [hml]; rfl) rfl (hb hby d_jdk_42_method_150_1) (by decide) (W := 0) (Nat.le_of_eq rfl) (by decide)
  refine go stt1 ?_
  show Goes p e below _ (Tt1.setTop (mkF m 4 #[.val (.ref s1), .val (.ref a1), .val .null, .unset, .unset] []))
  refine gAloadN Xt1 hx (hb hby d_jdk_42_method_150_4) rfl rfl ?_
  refine goCallV Xt1 hx hZ hown (hw _ (List.mem_of_getElem? (i := 167) rfl)) (hw _ (List.mem_of_getElem? (i := 168) rfl)) (hw _ (List.mem_of_getElem? (i := 170) rfl)) (hw _ (List.mem_of_getElem? (i := 169) rfl)) (hw _ (List.mem_of_getElem? (i := 77) rfl)) (hw _ (List.mem_of_getElem? (i := 171) rfl)) (by decide) (rmGv l Z a0 hw u a1 h0 O0 V1) 0 (by decide) (by decide) et1 E1 (hsz rfl) [] [] pd_16 rfl rfl rfl (Nat.le_of_eq rfl) (hb hby d_jdk_42_method_150_5) (by decide) (by decide) (fun Tt2 vt2 Lt2 Xt2 qt2 => ?_)
  obtain ⟨rfl, N3, et2⟩ := qt2
  have N4 := Fr.app N0 N3
  show Goes p e below _ (Tt2.setTop (mkF m 8 #[.val (.ref s1), .val (.ref a1), .val .null, .unset, .unset] [(.ref u)]))
  refine gAstoreN Xt2 hx (hb hby d_jdk_42_method_150_8) rfl (l' := #[.val (.ref s1), .val (.ref a1), .val .null, .val (.ref u), .unset]) rfl ?_
  refine gAloadN Xt2 hx (hb hby d_jdk_42_method_150_9) rfl rfl ?_
  refine goCallVZ Xt2 hx hZ hown (hw _ (List.mem_of_getElem? (i := 172) rfl)) (hw _ (List.mem_of_getElem? (i := 173) rfl)) (hw _ (List.mem_of_getElem? (i := 110) rfl)) rfl (hw _ (List.mem_of_getElem? (i := 175) rfl)) (hw _ (List.mem_of_getElem? (i := 176) rfl)) (hw _ (List.mem_of_getElem? (i := 69) rfl)) (hw _ (List.mem_of_getElem? (i := 177) rfl)) (by decide) (rmLb l Z a0 hw txt.length.toInt32 a1 h0 O0 E1 N1) 0 (by decide) (by decide) et2 E1 (hsz rfl) [] [] pd_8 rfl rfl rfl (Nat.le_of_eq rfl) (hb hby d_jdk_42_method_150_10) (by decide) (by decide) (fun Tt5 vt5 Lt5 Xt5 qt5 => ?_)
  obtain ⟨rfl, N6, et5⟩ := qt5
  have N7 := Fr.app N4 N6
  show Goes p e below _ (Tt5.setTop (mkF m 13 #[.val (.ref s1), .val (.ref a1), .val .null, .val (.ref u), .unset] [(.int txt.length.toInt32)]))
  refine gIstore Xt5 hx (hb hby d_jdk_42_method_150_13) (l' := #[.val (.ref s1), .val (.ref a1), .val .null, .val (.ref u), .val (.int txt.length.toInt32)]) rfl ?_
  refine gAloadN Xt5 hx (hb hby d_jdk_42_method_150_15) rfl rfl ?_
  refine goCallV Xt5 hx hZ hown (hw _ (List.mem_of_getElem? (i := 180) rfl)) (hw _ (List.mem_of_getElem? (i := 147) rfl)) (hw _ (List.mem_of_getElem? (i := 149) rfl)) (hw _ (List.mem_of_getElem? (i := 148) rfl)) (hw _ (List.mem_of_getElem? (i := 77) rfl)) (hw _ (List.mem_of_getElem? (i := 150) rfl)) (by decide) (rmIl l Z a0 hw cs a1 h0 O0 S_cs hcs C1) 0 (by decide) (by decide) et5 E1 (hsz rfl) [] [] pd_11 rfl rfl rfl (Nat.le_of_eq rfl) (hb hby d_jdk_42_method_150_16) (by decide) (by decide) (fun Tt8 vt8 Lt8 Xt8 qt8 => ?_)
  obtain ⟨rfl, N9, et8⟩ := qt8
  have N10 := Fr.app N7 N9
  show Goes p e below _ (Tt8.setTop (mkF m 19 #[.val (.ref s1), .val (.ref a1), .val .null, .val (.ref u), .val (.int txt.length.toInt32)] [(.int (1 : Int32))]))
  refine gIfN Xt8 hx (hb hby d_jdk_42_method_150_19) (XT.i0_eq_f (by decide)) ?_
  show Goes p e below _ (Tt8.setTop (mkF m 22 #[.val (.ref s1), .val (.ref a1), .val .null, .val (.ref u), .val (.int txt.length.toInt32)] []))
  refine gAloadN Xt8 hx (hb hby d_jdk_42_method_150_22) rfl rfl ?_
  refine gIconst Xt8 hx (hb hby d_jdk_42_method_150_23) (v := (0 : Int32)) rfl ?_
  obtain ⟨Tt11, ht11, Xt11, et11, Wt11, stt11⟩ := putF Xt8 hx hZ hown (host := "") (Or.inl (hw _ (List.mem_of_getElem? (i := 28) rfl))) Via.refl et8 Sc Es (Or.inr ⟨(hw _ (List.mem_of_getElem? (i := 29) rfl)), rfl, hnm⟩) (hw _ (List.mem_of_getElem? (i := 3) rfl)) (ty := .byte) (by decide) rfl rfl (g := (mkF m 24 #[.val (.ref s1), .val (.ref a1), .val .null, .val (.ref u), .val (.int txt.length.toInt32)] [(.int (0 : Int32)), (.ref s1)])) rfl rfl (hb hby d_jdk_42_method_150_24)
  refine go stt11 ?_
  have N12 := Fr.snoc Xt11 N10 fr3
  replace Sc := Sc.same Wt11
  replace E1 := E1.wr Wt11
  replace V1 := V1.other Wt11 (Or.inl (Ne.symm n1))
  replace C1 := C1.other Wt11 (Or.inl (Ne.symm n1))
  replace N1 := N1.other Wt11 (Or.inl (Ne.symm n1))
  replace Y1 := Y1.other Wt11 (Ne.symm n2)
  replace X1 := X1.wr Wt11
  replace Es := Es.wr Wt11
  replace Sv := Sv.other Wt11 (Or.inr (slot_ne (Or.inr (hw _ (List.mem_of_getElem? (i := 31) rfl))) (Or.inr (hw _ (List.mem_of_getElem? (i := 29) rfl))) (by decide) (t := (.array .byte)) (by decide) (t' := .byte) (by decide)))
  have O13 : Ext Z.heap ht11 := extW O0 Wt11 fr3
  have K14 := K0.wr Wt11 (Or.inl (by simp))
  show Goes p e below _ (Tt11.setTop (mkF m 27 #[.val (.ref s1), .val (.ref a1), .val .null, .val (.ref u), .val (.int txt.length.toInt32)] []))
  refine gAloadN Xt11 hx (hb hby d_jdk_42_method_150_27) rfl rfl ?_
  refine gAloadN Xt11 hx (hb hby d_jdk_42_method_150_28) rfl rfl ?_
  refine gIconst Xt11 hx (hb hby d_jdk_42_method_150_29) (v := (0 : Int32)) rfl ?_
  refine gIload Xt11 hx (hb hby d_jdk_42_method_150_30) rfl ?_
  have lt_a1_t15 := E1.lt
  have lt_u_t15 := Y1.lt
  have lt_s1_t15 := Es.lt
  refine goCallS Xt11 hx hZ hown (hw _ (List.mem_of_getElem? (i := 181) rfl)) (hw _ (List.mem_of_getElem? (i := 182) rfl)) (hw _ (List.mem_of_getElem? (i := 183) rfl)) (hw _ (List.mem_of_getElem? (i := 184) rfl)) (by decide) (rmRr l Z a0 hw txt pad kap u ht11 O13 Y1 X1 hk hkk h34) 1 (by decide) (by decide) et11 (hsz rfl) [(.ref u), (.int (0 : Int32)), (.int txt.length.toInt32)] [(.ref s1)] pd_15 rfl rfl rfl (Nat.le_of_eq rfl) (hb hby d_jdk_42_method_150_32) (by decide) (by decide) (fun Tt15 vt15 Lt15 Xt15 qt15 => ?_)
  obtain ⟨ht15, et15⟩ : ∃ z, Tt15.heap = z := ⟨_, rfl⟩
  rw [et15] at qt15
  obtain ⟨un, rfl, N16, Kct15, pun, Yn⟩ := qt15
  have N17 := Fr.app N12 N16
  replace E1 := E1.keep Kct15
  replace V1 := V1.keep Kct15 nin0
  replace C1 := C1.keep Kct15 nin0
  replace N1 := N1.keep Kct15 nin0
  replace Y1 := Y1.keep Kct15 nin0
  replace X1 := X1.keep Kct15
  replace Es := Es.keep Kct15
  replace Sv := Sv.keep Kct15 nin0
  replace Sc := Sc.keep Kct15 nin0
  have O18 : Ext Z.heap ht15 := extK O13 Kct15 all0
  have K19 := K14.trans Kct15 all0
  have ne_a1_un : a1 ≠ un := Nat.ne_of_lt (Nat.lt_of_lt_of_le lt_a1_t15 pun)
  have ne_u_un : u ≠ un := Nat.ne_of_lt (Nat.lt_of_lt_of_le lt_u_t15 pun)
  have ne_s1_un : s1 ≠ un := Nat.ne_of_lt (Nat.lt_of_lt_of_le lt_s1_t15 pun)
  have fr_un : Z.heap.size ≤ un := Nat.le_trans O13.1 pun
  have pa_un : h0.size ≤ un := Nat.le_trans K14.1 pun
  show Goes p e below _ (Tt15.setTop (mkF m 35 #[.val (.ref s1), .val (.ref a1), .val .null, .val (.ref u), .val (.int txt.length.toInt32)] [(.ref un), (.ref s1)]))
  obtain ⟨Tt20, ht20, Xt20, et20, Wt20, stt20⟩ := putF Xt15 hx hZ hown (host := "") (Or.inl (hw _ (List.mem_of_getElem? (i := 30) rfl))) Via.refl et15 Sv Es (Or.inr ⟨(hw _ (List.mem_of_getElem? (i := 31) rfl)), rfl, hnm⟩) (hw _ (List.mem_of_getElem? (i := 3) rfl)) (ty := (.array .byte)) (by decide) rfl rfl (g := (mkF m 35 #[.val (.ref s1), .val (.ref a1), .val .null, .val (.ref u), .val (.int txt.length.toInt32)] [(.ref un), (.ref s1)])) rfl rfl (hb hby d_jdk_42_method_150_35)
  refine go stt20 ?_
  have N21 := Fr.snoc Xt20 N17 fr3
  replace Sv := Sv.same Wt20
  replace E1 := E1.wr Wt20
  replace V1 := V1.other Wt20 (Or.inl (Ne.symm n1))
  replace C1 := C1.other Wt20 (Or.inl (Ne.symm n1))
  replace N1 := N1.other Wt20 (Or.inl (Ne.symm n1))
  replace Y1 := Y1.other Wt20 (Ne.symm n2)
  replace X1 := X1.wr Wt20
  replace Es := Es.wr Wt20
  replace Sc := Sc.other Wt20 (Or.inr (slot_ne (Or.inr (hw _ (List.mem_of_getElem? (i := 29) rfl))) (Or.inr (hw _ (List.mem_of_getElem? (i := 31) rfl))) (by decide) (t := .byte) (by decide) (t' := (.array .byte)) (by decide)))
  replace Yn := Yn.other Wt20 (Ne.symm ne_s1_un)
  have O22 : Ext Z.heap ht20 := extW O18 Wt20 fr3
  have K23 := K19.wr Wt20 (Or.inl (by simp))
  show Goes p e below _ (Tt20.setTop (mkF m 38 #[.val (.ref s1), .val (.ref a1), .val .null, .val (.ref u), .val (.int txt.length.toInt32)] []))
  refine gGoto Xt20 hx (hb hby d_jdk_42_method_150_38) (pc' := 97) (by decide) (by decide) ?_
  show Goes p e below _ (Tt20.setTop (mkF m 97 #[.val (.ref s1), .val (.ref a1), .val .null, .val (.ref u), .val (.int txt.length.toInt32)] []))
  exact goRet0 Xt20 hx hret hlocks (hb hby d_jdk_42_method_150_97) (by decide) (by decide) et20 (⟨rfl, N21, K23, un, pa_un, Sv, Sc, Yn⟩)
theorem d_jdk_42_method_53_0 : decode jdk_42_method_53_code 0 = .ok (.aload_n 0, 1) := by decide +kernel
theorem d_jdk_42_method_53_1 : decode jdk_42_method_53_code 1 = .ok (.aload_n 1, 1) := by decide +kernel
theorem d_jdk_42_method_53_2 : decode jdk_42_method_53_code 2 = .ok (.aconst_null, 1) := by decide +kernel
theorem pd_17 : parseMethodDescriptor "(Ljava/lang/AbstractStringBuilder;Ljava/lang/Void;)V" = some ⟨[(.object "java/lang/AbstractStringBuilder"), (.object "java/lang/Void")], none⟩ := by decide +kernel
theorem d_jdk_42_method_53_3 : decode jdk_42_method_53_code 3 = .ok (.invokespecial 489, 3) := by decide +kernel
theorem d_jdk_42_method_53_6 : decode jdk_42_method_53_code 6 = .ok (.return_, 1) := by decide +kernel
theorem ef_rmTb (m : MethodId) (x0 : Addr) (x1 : Addr) : entryFrame m #[(.ref x0), (.ref x1)] 2 = mkF m 0 #[.val (.ref x0), .val (.ref x1)] [] := by first | (simp [entryFrame, mkF, argsToLocals, Value.category]; done) | rfl
set_option maxRecDepth 65536 in
set_option maxHeartbeats 40000000 in
theorem rmTb (l : Launch) (Z : State) (a0 : Array Value) (hw : ∀ d ∈ tables_1, d.before a0 Z = true) (a1 u : Addr) (txt pad : List Int8) (kap : Nat) (cs : Int32) (s1 : Addr) (h0 : Heap) (O0 : Ext Z.heap h0) (S_cs : Sta Z Z.heap "java/lang/String" "COMPACT_STRINGS" "Z" (.int cs)) (hcs : ¬ cs = 0) (E1 : Exa Z h0 a1 "java/lang/StringBuilder") (V1 : Fld Z h0 a1 "java/lang/AbstractStringBuilder" "value" "[B" (.ref u)) (C1 : Fld Z h0 a1 "java/lang/AbstractStringBuilder" "coder" "B" (.int (0 : Int32))) (N1 : Fld Z h0 a1 "java/lang/AbstractStringBuilder" "count" "I" (.int txt.length.toInt32)) (Y1 : Ary Z h0 u .byte (own_bv (txt ++ pad))) (X1 : Exa Z h0 u "[B") (hk : (txt ++ pad).length = kap) (hkk : kap = 16 ∨ kap = 34) (ne : a1 ≠ u) (fr1 : Z.heap.size ≤ a1) (fr2 : Z.heap.size ≤ u) (h34 : txt.length < 34) (Es : Exa Z h0 s1 "java/lang/String") (Sv : Fld Z h0 s1 "java/lang/String" "value" "[B" .null) (Sc : Fld Z h0 s1 "java/lang/String" "coder" "B" (.int (0 : Int32))) (n1 : s1 ≠ a1) (n2 : s1 ≠ u) (fr3 : Z.heap.size ≤ s1) :
    Ctr l Z (⟨"java/lang/String", "<init>", "(Ljava/lang/StringBuilder;)V"⟩ : MethodName) jdk_42_method_53_code 2 none [] ({ frames := 4, cells := 1, slots := 34, locals := 71 } : Room) #[(.ref s1), (.ref a1)] h0 (fun v h L => v = none ∧ Fr Z.heap.size L ∧ Keep h0 h [s1] ∧ ∃ us, h0.size ≤ us ∧ Fld Z h s1 "java/lang/String" "value" "[B" (.ref us) ∧ Fld Z h s1 "java/lang/String" "coder" "B" (.int (0 : Int32)) ∧ Ary Z h us .byte (own_bv txt)) := by
  refine ctr (plainFor_of_name pn_4) ?_
  intro p e s m below meth c s₁ hx hby hml hown hnm hret hlocks hZ X0 e0
  have N0 := Fr.nil Z.heap.size
  have hsz : ∀ {Ls : Array Slot}, Ls.size = 2 → Ls.size = c.maxLocals := fun q => q.trans hml.symm
  have K0 := Keep.refl h0 [s1]
  refine goE (ef_rmTb m (s1) (a1)) ?_
  show Goes p e below _ (s₁.setTop (mkF m 0 #[.val (.ref s1), .val (.ref a1)] []))
  refine gAloadN X0 hx (hb hby d_jdk_42_method_53_0) rfl rfl ?_
  refine gAloadN X0 hx (hb hby d_jdk_42_method_53_1) rfl rfl ?_
  refine gAnull X0 hx (hb hby d_jdk_42_method_53_2) ?_
  have lt_a1_t1 := E1.lt
  have lt_u_t1 := Y1.lt
  have lt_s1_t1 := Es.lt
  refine goCallI X0 hx hZ rfl hown (hw _ (List.mem_of_getElem? (i := 164) rfl)) (hw _ (List.mem_of_getElem? (i := 165) rfl)) (hw _ (List.mem_of_getElem? (i := 4) rfl)) (hw _ (List.mem_of_getElem? (i := 166) rfl)) (by decide) (rmTa l Z a0 hw a1 u txt pad kap cs s1 h0 O0 S_cs hcs E1 V1 C1 N1 Y1 X1 hk hkk ne fr1 fr2 h34 Es Sv Sc n1 n2 fr3) 0 (by decide) (by decide) e0 (hsz rfl) s1 [(.ref a1), .null] [] pd_17 rfl rfl rfl (Nat.le_of_eq rfl) (hb hby d_jdk_42_method_53_3) (by decide) (by decide) (fun Tt1 vt1 Lt1 Xt1 qt1 => ?_)
  obtain ⟨ht1, et1⟩ : ∃ z, Tt1.heap = z := ⟨_, rfl⟩
  rw [et1] at qt1
  obtain ⟨rfl, N2, Kct1, un, pun, Sv, Sc, Yn⟩ := qt1
  have N3 := Fr.app N0 N2
  replace E1 := E1.keep Kct1
  replace V1 := V1.keep Kct1 (ninS (Ne.symm n1) nin0)
  replace C1 := C1.keep Kct1 (ninS (Ne.symm n1) nin0)
  replace N1 := N1.keep Kct1 (ninS (Ne.symm n1) nin0)
  replace Y1 := Y1.keep Kct1 (ninS (Ne.symm n2) nin0)
  replace X1 := X1.keep Kct1
  replace Es := Es.keep Kct1
  have O4 : Ext Z.heap ht1 := extK O0 Kct1 (allS fr3 all0)
  have K5 := K0.trans Kct1 (allS (Or.inl (by simp)) all0)
  have ne_a1_un : a1 ≠ un := Nat.ne_of_lt (Nat.lt_of_lt_of_le lt_a1_t1 pun)
  have ne_u_un : u ≠ un := Nat.ne_of_lt (Nat.lt_of_lt_of_le lt_u_t1 pun)
  have ne_s1_un : s1 ≠ un := Nat.ne_of_lt (Nat.lt_of_lt_of_le lt_s1_t1 pun)
  have fr_un : Z.heap.size ≤ un := Nat.le_trans O0.1 pun
  have pa_un : h0.size ≤ un := Nat.le_trans K0.1 pun
  show Goes p e below _ (Tt1.setTop (mkF m 6 #[.val (.ref s1), .val (.ref a1)] []))
  exact goRet0 Xt1 hx hret hlocks (hb hby d_jdk_42_method_53_6) (by decide) (by decide) et1 (⟨rfl, N3, K5, un, pa_un, Sv, Sc, Yn⟩)
theorem d_jdk_67_method_42_0 : decode jdk_67_method_42_code 0 = .ok (.new 18, 3) := by decide +kernel
theorem d_jdk_67_method_42_3 : decode jdk_67_method_42_code 3 = .ok (.dup, 1) := by decide +kernel
theorem d_jdk_67_method_42_4 : decode jdk_67_method_42_code 4 = .ok (.aload_n 0, 1) := by decide +kernel
theorem pd_18 : parseMethodDescriptor "(Ljava/lang/StringBuilder;)V" = some ⟨[(.object "java/lang/StringBuilder")], none⟩ := by decide +kernel
theorem d_jdk_67_method_42_5 : decode jdk_67_method_42_code 5 = .ok (.invokespecial 137, 3) := by decide +kernel
theorem d_jdk_67_method_42_8 : decode jdk_67_method_42_code 8 = .ok (.areturn, 1) := by decide +kernel
theorem ef_rmTs (m : MethodId) (x0 : Addr) : entryFrame m #[(.ref x0)] 1 = mkF m 0 #[.val (.ref x0)] [] := by first | (simp [entryFrame, mkF, argsToLocals, Value.category]; done) | rfl
set_option maxRecDepth 65536 in
set_option maxHeartbeats 40000000 in
theorem rmTs (l : Launch) (Z : State) (a0 : Array Value) (hw : ∀ d ∈ tables_1, d.before a0 Z = true) (a1 u : Addr) (txt pad : List Int8) (kap : Nat) (cs : Int32)  (h0 : Heap) (O0 : Ext Z.heap h0) (S_cs : Sta Z Z.heap "java/lang/String" "COMPACT_STRINGS" "Z" (.int cs)) (hcs : ¬ cs = 0) (E1 : Exa Z h0 a1 "java/lang/StringBuilder") (V1 : Fld Z h0 a1 "java/lang/AbstractStringBuilder" "value" "[B" (.ref u)) (C1 : Fld Z h0 a1 "java/lang/AbstractStringBuilder" "coder" "B" (.int (0 : Int32))) (N1 : Fld Z h0 a1 "java/lang/AbstractStringBuilder" "count" "I" (.int txt.length.toInt32)) (Y1 : Ary Z h0 u .byte (own_bv (txt ++ pad))) (X1 : Exa Z h0 u "[B") (hk : (txt ++ pad).length = kap) (hkk : kap = 16 ∨ kap = 34) (ne : a1 ≠ u) (fr1 : Z.heap.size ≤ a1) (fr2 : Z.heap.size ≤ u) (h34 : txt.length < 34) :
    Ctr l Z (⟨"java/lang/StringBuilder", "toString", "()Ljava/lang/String;"⟩ : MethodName) jdk_67_method_42_code 1 (some (.object "java/lang/String")) [] ({ frames := 5, cells := 2, slots := 38, locals := 86 } : Room) #[(.ref a1)] h0 (fun v h L => ∃ s2, v = some (.ref s2) ∧ Fr Z.heap.size L ∧ Keep h0 h [] ∧ h0.size ≤ s2 ∧ Exa Z h s2 "java/lang/String" ∧ ∃ us, h0.size ≤ us ∧ Fld Z h s2 "java/lang/String" "value" "[B" (.ref us) ∧ Fld Z h s2 "java/lang/String" "coder" "B" (.int (0 : Int32)) ∧ Ary Z h us .byte (own_bv txt)) := by
  refine ctr (plainFor_of_name pn_1) ?_
  intro p e s m below meth c s₁ hx hby hml hown hnm hret hlocks hZ X0 e0
  have N0 := Fr.nil Z.heap.size
  have hsz : ∀ {Ls : Array Slot}, Ls.size = 1 → Ls.size = c.maxLocals := fun q => q.trans hml.symm
  have K0 := Keep.refl h0 []
  refine goE (ef_rmTs m (a1)) ?_
  show Goes p e below _ (s₁.setTop (mkF m 0 #[.val (.ref a1)] []))
  obtain ⟨Tt1, ht1, Xt1, et1, Et1, At1, Dt1, -, stt1⟩ := newO X0 hx hZ hown (hw _ (List.mem_of_getElem? (i := 160) rfl)) (hw _ (List.mem_of_getElem? (i := 3) rfl)) (hw _ (List.mem_of_getElem? (i := 4) rfl)) e0 (g := (mkF m 0 #[.val (.ref a1)] [])) rfl (hb hby d_jdk_67_method_42_0) (by decide) (by decide)
  obtain ⟨ob2, gob2⟩ : ∃ z, z = h0.size := ⟨_, rfl⟩
  rw [← gob2] at At1 Dt1 stt1
  refine go stt1 ?_
  have ne_a1_ob2 : a1 ≠ ob2 := Nat.ne_of_lt (gob2 ▸ E1.lt)
  have ne_u_ob2 : u ≠ ob2 := Nat.ne_of_lt (gob2 ▸ Y1.lt)
  have fr_ob2 : Z.heap.size ≤ ob2 := gob2 ▸ O0.1
  have pa_ob2 : h0.size ≤ ob2 := gob2 ▸ K0.1
  replace E1 := E1.ext Et1
  replace V1 := V1.ext Et1
  replace C1 := C1.ext Et1
  replace N1 := N1.ext Et1
  replace Y1 := Y1.ext Et1
  replace X1 := X1.ext Et1
  have O3 : Ext Z.heap ht1 := extT O0 Et1
  have K4 := K0.ext Et1
  have F_coder_ob2 : Fld Z ht1 ob2 "java/lang/String" "coder" "B" (.int (0 : Int32)) := Dt1 (Or.inr (hw _ (List.mem_of_getElem? (i := 29) rfl))) (ty := .byte) (by decide)
  have F_value_ob2 : Fld Z ht1 ob2 "java/lang/String" "value" "[B" .null := Dt1 (Or.inr (hw _ (List.mem_of_getElem? (i := 31) rfl))) (ty := (.array .byte)) (by decide)
  show Goes p e below _ (Tt1.setTop (mkF m 3 #[.val (.ref a1)] [(.ref ob2)]))
  refine gDup Xt1 hx (hb hby d_jdk_67_method_42_3) rfl ?_
  refine gAloadN Xt1 hx (hb hby d_jdk_67_method_42_4) rfl rfl ?_
  have lt_a1_t5 := E1.lt
  have lt_u_t5 := Y1.lt
  have lt_ob2_t5 := At1.lt
  refine goCallI Xt1 hx hZ rfl hown (hw _ (List.mem_of_getElem? (i := 161) rfl)) (hw _ (List.mem_of_getElem? (i := 162) rfl)) (hw _ (List.mem_of_getElem? (i := 4) rfl)) (hw _ (List.mem_of_getElem? (i := 163) rfl)) (by decide) (rmTb l Z a0 hw a1 u txt pad kap cs ob2 ht1 O3 S_cs hcs E1 V1 C1 N1 Y1 X1 hk hkk ne fr1 fr2 h34 At1 F_value_ob2 F_coder_ob2 (Ne.symm ne_a1_ob2) (Ne.symm ne_u_ob2) fr_ob2) 1 (by decide) (by decide) et1 (hsz rfl) ob2 [(.ref a1)] [(.ref ob2)] pd_18 rfl rfl rfl (Nat.le_of_eq rfl) (hb hby d_jdk_67_method_42_5) (by decide) (by decide) (fun Tt5 vt5 Lt5 Xt5 qt5 => ?_)
  obtain ⟨ht5, et5⟩ : ∃ z, Tt5.heap = z := ⟨_, rfl⟩
  rw [et5] at qt5
  obtain ⟨rfl, N6, Kct5, un, pun, Sv, Sc, Yn⟩ := qt5
  have N7 := Fr.app N0 N6
  replace E1 := E1.keep Kct5
  replace V1 := V1.keep Kct5 (ninS ne_a1_ob2 nin0)
  replace C1 := C1.keep Kct5 (ninS ne_a1_ob2 nin0)
  replace N1 := N1.keep Kct5 (ninS ne_a1_ob2 nin0)
  replace Y1 := Y1.keep Kct5 (ninS ne_u_ob2 nin0)
  replace X1 := X1.keep Kct5
  replace At1 := At1.keep Kct5
  have O8 : Ext Z.heap ht5 := extK O3 Kct5 (allS fr_ob2 all0)
  have K9 := K4.trans Kct5 (allS (Or.inr pa_ob2) all0)
  have ne_a1_un : a1 ≠ un := Nat.ne_of_lt (Nat.lt_of_lt_of_le lt_a1_t5 pun)
  have ne_u_un : u ≠ un := Nat.ne_of_lt (Nat.lt_of_lt_of_le lt_u_t5 pun)
  have ne_ob2_un : ob2 ≠ un := Nat.ne_of_lt (Nat.lt_of_lt_of_le lt_ob2_t5 pun)
  have fr_un : Z.heap.size ≤ un := Nat.le_trans O3.1 pun
  have pa_un : h0.size ≤ un := Nat.le_trans K4.1 pun
  show Goes p e below _ (Tt5.setTop (mkF m 8 #[.val (.ref a1)] [(.ref ob2)]))
  exact goRetA Xt5 hx hret hlocks rfl rfl (hb hby d_jdk_67_method_42_8) (by decide) (by decide) et5 (⟨ob2, rfl, N7, K9, pa_ob2, At1, un, pa_un, Sv, Sc, Yn⟩)
theorem d_jdk_52_method_21_0 : decode jdk_52_method_21_code 0 = .ok (.iconst 0, 1) := by decide +kernel
theorem d_jdk_52_method_21_1 : decode jdk_52_method_21_code 1 = .ok (.istore 5, 2) := by decide +kernel
theorem d_jdk_52_method_21_3 : decode jdk_52_method_21_code 3 = .ok (.iload 5, 2) := by decide +kernel
theorem d_jdk_52_method_21_5 : decode jdk_52_method_21_code 5 = .ok (.iload 4, 2) := by decide +kernel
theorem d_jdk_52_method_21_7 : decode jdk_52_method_21_code 7 = .ok (.if_icmp .ge 37, 3) := by decide +kernel
theorem d_jdk_52_method_21_10 : decode jdk_52_method_21_code 10 = .ok (.aload_n 0, 1) := by decide +kernel
theorem d_jdk_52_method_21_11 : decode jdk_52_method_21_code 11 = .ok (.iload_n 1, 1) := by decide +kernel
theorem d_jdk_52_method_21_12 : decode jdk_52_method_21_code 12 = .ok (.caload, 1) := by decide +kernel
theorem d_jdk_52_method_21_13 : decode jdk_52_method_21_code 13 = .ok (.istore 6, 2) := by decide +kernel
theorem d_jdk_52_method_21_15 : decode jdk_52_method_21_code 15 = .ok (.iload 6, 2) := by decide +kernel
theorem d_jdk_52_method_21_17 : decode jdk_52_method_21_code 17 = .ok (.sipush 255, 3) := by decide +kernel
theorem d_jdk_52_method_21_20 : decode jdk_52_method_21_code 20 = .ok (.if_icmp .le 6, 3) := by decide +kernel
theorem d_jdk_52_method_21_26 : decode jdk_52_method_21_code 26 = .ok (.aload_n 2, 1) := by decide +kernel
theorem d_jdk_52_method_21_27 : decode jdk_52_method_21_code 27 = .ok (.iload_n 3, 1) := by decide +kernel
theorem d_jdk_52_method_21_28 : decode jdk_52_method_21_code 28 = .ok (.iload 6, 2) := by decide +kernel
theorem d_jdk_52_method_21_30 : decode jdk_52_method_21_code 30 = .ok (.i2b, 1) := by decide +kernel
theorem d_jdk_52_method_21_31 : decode jdk_52_method_21_code 31 = .ok (.bastore, 1) := by decide +kernel
theorem d_jdk_52_method_21_32 : decode jdk_52_method_21_code 32 = .ok (.iinc 1 1, 3) := by decide +kernel
theorem d_jdk_52_method_21_35 : decode jdk_52_method_21_code 35 = .ok (.iinc 3 1, 3) := by decide +kernel
theorem d_jdk_52_method_21_38 : decode jdk_52_method_21_code 38 = .ok (.iinc 5 1, 3) := by decide +kernel
theorem d_jdk_52_method_21_41 : decode jdk_52_method_21_code 41 = .ok (.goto (-38), 3) := by decide +kernel
theorem d_jdk_52_method_21_44 : decode jdk_52_method_21_code 44 = .ok (.iload 4, 2) := by decide +kernel
theorem d_jdk_52_method_21_46 : decode jdk_52_method_21_code 46 = .ok (.ireturn, 1) := by decide +kernel
theorem pn_6 : plainName "java/lang/StringUTF16" = true := by first | (simp [plainName, overriddenIn]; done) | decide +kernel
theorem ef_rmSa2 (m : MethodId) (x0 : Addr) (x1 : Int32) (x2 : Addr) (x3 : Int32) (x4 : Int32) : entryFrame m #[(.ref x0), (.int x1), (.ref x2), (.int x3), (.int x4)] 7 = mkF m 0 #[.val (.ref x0), .val (.int x1), .val (.ref x2), .val (.int x3), .val (.int x4), .unset, .unset] [] := by first | (simp [entryFrame, mkF, argsToLocals, Value.category]; done) | rfl
set_option maxRecDepth 65536 in
set_option maxHeartbeats 40000000 in
theorem rmSa2 (l : Launch) (Z : State) (a0 : Array Value) (hw : ∀ d ∈ tables_1, d.before a0 Z = true) (c0 c1 : Int32) (a1 : Addr) (a2 : Addr) (h0 : Heap) (O0 : Ext Z.heap h0) (Y1 : Ary Z h0 a1 .char [(.int c0), (.int c1)]) (Y2 : Ary Z h0 a2 .byte [(.int (0 : Int32)), (.int (0 : Int32))]) (ne : a1 ≠ a2) (fr2 : Z.heap.size ≤ a2) (hc0 : ¬ (255 : Int32) < c0) (hc1 : ¬ (255 : Int32) < c1) :
    Ctr l Z (⟨"java/lang/StringUTF16", "compress", "([CI[BII)I"⟩ : MethodName) jdk_52_method_21_code 7 (some .int) [] ({ frames := 0, cells := 0, slots := 0, locals := 0 } : Room) #[(.ref a1), (.int (0 : Int32)), (.ref a2), (.int (0 : Int32)), (.int (2 : Int32))] h0 (fun v h L => v = some (.int (2 : Int32)) ∧ Fr Z.heap.size L ∧ Keep h0 h [a2] ∧ Ary Z h a2 .byte [(.int (c0.toInt8.toInt32)), (.int (c1.toInt8.toInt32))]) := by
  refine ctr (plainFor_of_name pn_6) ?_
  intro p e s m below meth c s₁ hx hby hml hown hnm hret hlocks hZ X0 e0
  have N0 := Fr.nil Z.heap.size
  have hsz : ∀ {Ls : Array Slot}, Ls.size = 7 → Ls.size = c.maxLocals := fun q => q.trans hml.symm
  have K0 := Keep.refl h0 [a2]
  refine goE (ef_rmSa2 m (a1) ((0 : Int32)) (a2) ((0 : Int32)) ((2 : Int32))) ?_
  show Goes p e below _ (s₁.setTop (mkF m 0 #[.val (.ref a1), .val (.int (0 : Int32)), .val (.ref a2), .val (.int (0 : Int32)), .val (.int (2 : Int32)), .unset, .unset] []))
  refine gIconst X0 hx (hb hby d_jdk_52_method_21_0) (v := (0 : Int32)) rfl ?_
  refine gIstore X0 hx (hb hby d_jdk_52_method_21_1) (l' := #[.val (.ref a1), .val (.int (0 : Int32)), .val (.ref a2), .val (.int (0 : Int32)), .val (.int (2 : Int32)), .val (.int (0 : Int32)), .unset]) rfl ?_
  refine gIload X0 hx (hb hby d_jdk_52_method_21_3) rfl ?_
  refine gIload X0 hx (hb hby d_jdk_52_method_21_5) rfl ?_
  refine gIcmpN X0 hx (hb hby d_jdk_52_method_21_7) (XT.ii_ge_f (by decide)) ?_
  show Goes p e below _ (s₁.setTop (mkF m 10 #[.val (.ref a1), .val (.int (0 : Int32)), .val (.ref a2), .val (.int (0 : Int32)), .val (.int (2 : Int32)), .val (.int (0 : Int32)), .unset] []))
  refine gAloadN X0 hx (hb hby d_jdk_52_method_21_10) rfl rfl ?_
  refine gIloadN X0 hx (hb hby d_jdk_52_method_21_11) rfl ?_
  refine goCaload X0 hx hZ e0 Y1 (x := c0) (hb hby d_jdk_52_method_21_12) (by decide) rfl ?_
  refine gIstore X0 hx (hb hby d_jdk_52_method_21_13) (l' := #[.val (.ref a1), .val (.int (0 : Int32)), .val (.ref a2), .val (.int (0 : Int32)), .val (.int (2 : Int32)), .val (.int (0 : Int32)), .val (.int c0)]) rfl ?_
  refine gIload X0 hx (hb hby d_jdk_52_method_21_15) rfl ?_
  refine gSipush X0 hx (hb hby d_jdk_52_method_21_17) (v := (255 : Int32)) rfl ?_
  refine gIcmpY X0 hx (hb hby d_jdk_52_method_21_20) (pc' := 26) (XT.ii_le_t hc0) (by decide) (by decide) ?_
  show Goes p e below _ (s₁.setTop (mkF m 26 #[.val (.ref a1), .val (.int (0 : Int32)), .val (.ref a2), .val (.int (0 : Int32)), .val (.int (2 : Int32)), .val (.int (0 : Int32)), .val (.int c0)] []))
  refine gAloadN X0 hx (hb hby d_jdk_52_method_21_26) rfl rfl ?_
  refine gIloadN X0 hx (hb hby d_jdk_52_method_21_27) rfl ?_
  refine gIload X0 hx (hb hby d_jdk_52_method_21_28) rfl ?_
  refine gI2b X0 hx (hb hby d_jdk_52_method_21_30) ?_
  refine goBastore X0 hx hZ e0 Y2 (hb hby d_jdk_52_method_21_31) (by decide) rfl (fun Tt1 ht1 Xt1 et1 Wt1 => ?_)
  have N2 := Fr.snoc Xt1 N0 fr2
  replace Y2 : Ary Z ht1 a2 .byte [(.int (c0.toInt8.toInt32)), (.int (0 : Int32))] := Y2.set Wt1 (by rw [narb]; rfl)
  replace Y1 := Y1.other Wt1 ne
  have O3 : Ext Z.heap ht1 := extW O0 Wt1 fr2
  have K4 := K0.wr Wt1 (Or.inl (by simp))
  show Goes p e below _ (Tt1.setTop (mkF m 32 #[.val (.ref a1), .val (.int (0 : Int32)), .val (.ref a2), .val (.int (0 : Int32)), .val (.int (2 : Int32)), .val (.int (0 : Int32)), .val (.int c0)] []))
  refine gIinc Xt1 hx (hb hby d_jdk_52_method_21_32) (v := (1 : Int32)) rfl rfl (l' := #[.val (.ref a1), .val (.int (1 : Int32)), .val (.ref a2), .val (.int (0 : Int32)), .val (.int (2 : Int32)), .val (.int (0 : Int32)), .val (.int c0)]) rfl ?_
  refine gIinc Xt1 hx (hb hby d_jdk_52_method_21_35) (v := (1 : Int32)) rfl rfl (l' := #[.val (.ref a1), .val (.int (1 : Int32)), .val (.ref a2), .val (.int (1 : Int32)), .val (.int (2 : Int32)), .val (.int (0 : Int32)), .val (.int c0)]) rfl ?_
  refine gIinc Xt1 hx (hb hby d_jdk_52_method_21_38) (v := (1 : Int32)) rfl rfl (l' := #[.val (.ref a1), .val (.int (1 : Int32)), .val (.ref a2), .val (.int (1 : Int32)), .val (.int (2 : Int32)), .val (.int (1 : Int32)), .val (.int c0)]) rfl ?_
  refine gGoto Xt1 hx (hb hby d_jdk_52_method_21_41) (pc' := 3) (by decide) (by decide) ?_
  show Goes p e below _ (Tt1.setTop (mkF m 3 #[.val (.ref a1), .val (.int (1 : Int32)), .val (.ref a2), .val (.int (1 : Int32)), .val (.int (2 : Int32)), .val (.int (1 : Int32)), .val (.int c0)] []))
  refine gIload Xt1 hx (hb hby d_jdk_52_method_21_3) rfl ?_
  refine gIload Xt1 hx (hb hby d_jdk_52_method_21_5) rfl ?_
  refine gIcmpN Xt1 hx (hb hby d_jdk_52_method_21_7) (XT.ii_ge_f (by decide)) ?_
  show Goes p e below _ (Tt1.setTop (mkF m 10 #[.val (.ref a1), .val (.int (1 : Int32)), .val (.ref a2), .val (.int (1 : Int32)), .val (.int (2 : Int32)), .val (.int (1 : Int32)), .val (.int c0)] []))
  refine gAloadN Xt1 hx (hb hby d_jdk_52_method_21_10) rfl rfl ?_
  refine gIloadN Xt1 hx (hb hby d_jdk_52_method_21_11) rfl ?_
  refine goCaload Xt1 hx hZ et1 Y1 (x := c1) (hb hby d_jdk_52_method_21_12) (by decide) rfl ?_
  refine gIstore Xt1 hx (hb hby d_jdk_52_method_21_13) (l' := #[.val (.ref a1), .val (.int (1 : Int32)), .val (.ref a2), .val (.int (1 : Int32)), .val (.int (2 : Int32)), .val (.int (1 : Int32)), .val (.int c1)]) rfl ?_
  refine gIload Xt1 hx (hb hby d_jdk_52_method_21_15) rfl ?_
  refine gSipush Xt1 hx (hb hby d_jdk_52_method_21_17) (v := (255 : Int32)) rfl ?_
  refine gIcmpY Xt1 hx (hb hby d_jdk_52_method_21_20) (pc' := 26) (XT.ii_le_t hc1) (by decide) (by decide) ?_
  show Goes p e below _ (Tt1.setTop (mkF m 26 #[.val (.ref a1), .val (.int (1 : Int32)), .val (.ref a2), .val (.int (1 : Int32)), .val (.int (2 : Int32)), .val (.int (1 : Int32)), .val (.int c1)] []))
  refine gAloadN Xt1 hx (hb hby d_jdk_52_method_21_26) rfl rfl ?_
  refine gIloadN Xt1 hx (hb hby d_jdk_52_method_21_27) rfl ?_
  refine gIload Xt1 hx (hb hby d_jdk_52_method_21_28) rfl ?_
  refine gI2b Xt1 hx (hb hby d_jdk_52_method_21_30) ?_
  refine goBastore Xt1 hx hZ et1 Y2 (hb hby d_jdk_52_method_21_31) (by decide) rfl (fun Tt5 ht5 Xt5 et5 Wt5 => ?_)
  have N6 := Fr.snoc Xt5 N2 fr2
  replace Y2 : Ary Z ht5 a2 .byte [(.int (c0.toInt8.toInt32)), (.int (c1.toInt8.toInt32))] := Y2.set Wt5 (by rw [narb]; rfl)
  replace Y1 := Y1.other Wt5 ne
  have O7 : Ext Z.heap ht5 := extW O3 Wt5 fr2
  have K8 := K4.wr Wt5 (Or.inl (by simp))
  show Goes p e below _ (Tt5.setTop (mkF m 32 #[.val (.ref a1), .val (.int (1 : Int32)), .val (.ref a2), .val (.int (1 : Int32)), .val (.int (2 : Int32)), .val (.int (1 : Int32)), .val (.int c1)] []))
  refine gIinc Xt5 hx (hb hby d_jdk_52_method_21_32) (v := (2 : Int32)) rfl rfl (l' := #[.val (.ref a1), .val (.int (2 : Int32)), .val (.ref a2), .val (.int (1 : Int32)), .val (.int (2 : Int32)), .val (.int (1 : Int32)), .val (.int c1)]) rfl ?_
  refine gIinc Xt5 hx (hb hby d_jdk_52_method_21_35) (v := (2 : Int32)) rfl rfl (l' := #[.val (.ref a1), .val (.int (2 : Int32)), .val (.ref a2), .val (.int (2 : Int32)), .val (.int (2 : Int32)), .val (.int (1 : Int32)), .val (.int c1)]) rfl ?_
  refine gIinc Xt5 hx (hb hby d_jdk_52_method_21_38) (v := (2 : Int32)) rfl rfl (l' := #[.val (.ref a1), .val (.int (2 : Int32)), .val (.ref a2), .val (.int (2 : Int32)), .val (.int (2 : Int32)), .val (.int (2 : Int32)), .val (.int c1)]) rfl ?_
  refine gGoto Xt5 hx (hb hby d_jdk_52_method_21_41) (pc' := 3) (by decide) (by decide) ?_
  show Goes p e below _ (Tt5.setTop (mkF m 3 #[.val (.ref a1), .val (.int (2 : Int32)), .val (.ref a2), .val (.int (2 : Int32)), .val (.int (2 : Int32)), .val (.int (2 : Int32)), .val (.int c1)] []))
  refine gIload Xt5 hx (hb hby d_jdk_52_method_21_3) rfl ?_
  refine gIload Xt5 hx (hb hby d_jdk_52_method_21_5) rfl ?_
  refine gIcmpY Xt5 hx (hb hby d_jdk_52_method_21_7) (pc' := 44) (XT.ii_ge_t (by decide)) (by decide) (by decide) ?_
  show Goes p e below _ (Tt5.setTop (mkF m 44 #[.val (.ref a1), .val (.int (2 : Int32)), .val (.ref a2), .val (.int (2 : Int32)), .val (.int (2 : Int32)), .val (.int (2 : Int32)), .val (.int c1)] []))
  refine gIload Xt5 hx (hb hby d_jdk_52_method_21_44) rfl ?_
  exact goRetI Xt5 hx hret hlocks (hb hby d_jdk_52_method_21_46) (by decide) (by decide) et5 (⟨rfl, N6, K8, Y2⟩)
theorem d_jdk_52_method_16_0 : decode jdk_52_method_16_code 0 = .ok (.iload_n 2, 1) := by decide +kernel
theorem d_jdk_52_method_16_1 : decode jdk_52_method_16_code 1 = .ok (.newarray .byte, 2) := by decide +kernel
theorem d_jdk_52_method_16_3 : decode jdk_52_method_16_code 3 = .ok (.astore_n 3, 1) := by decide +kernel
theorem d_jdk_52_method_16_4 : decode jdk_52_method_16_code 4 = .ok (.aload_n 0, 1) := by decide +kernel
theorem d_jdk_52_method_16_5 : decode jdk_52_method_16_code 5 = .ok (.iload_n 1, 1) := by decide +kernel
theorem d_jdk_52_method_16_6 : decode jdk_52_method_16_code 6 = .ok (.aload_n 3, 1) := by decide +kernel
theorem d_jdk_52_method_16_7 : decode jdk_52_method_16_code 7 = .ok (.iconst 0, 1) := by decide +kernel
theorem d_jdk_52_method_16_8 : decode jdk_52_method_16_code 8 = .ok (.iload_n 2, 1) := by decide +kernel
theorem pd_19 : parseMethodDescriptor "([CI[BII)I" = some ⟨[(.array .char), .int, (.array .byte), .int, .int], some .int⟩ := by decide +kernel
theorem d_jdk_52_method_16_9 : decode jdk_52_method_16_code 9 = .ok (.invokestatic 115, 3) := by decide +kernel
theorem d_jdk_52_method_16_12 : decode jdk_52_method_16_code 12 = .ok (.istore 4, 2) := by decide +kernel
theorem d_jdk_52_method_16_14 : decode jdk_52_method_16_code 14 = .ok (.iload 4, 2) := by decide +kernel
theorem d_jdk_52_method_16_16 : decode jdk_52_method_16_code 16 = .ok (.iload_n 2, 1) := by decide +kernel
theorem d_jdk_52_method_16_17 : decode jdk_52_method_16_code 17 = .ok (.if_icmp .eq 40, 3) := by decide +kernel
theorem d_jdk_52_method_16_57 : decode jdk_52_method_16_code 57 = .ok (.aload_n 3, 1) := by decide +kernel
theorem d_jdk_52_method_16_58 : decode jdk_52_method_16_code 58 = .ok (.areturn, 1) := by decide +kernel
theorem ef_rmSb2 (m : MethodId) (x0 : Addr) (x1 : Int32) (x2 : Int32) : entryFrame m #[(.ref x0), (.int x1), (.int x2)] 6 = mkF m 0 #[.val (.ref x0), .val (.int x1), .val (.int x2), .unset, .unset, .unset] [] := by first | (simp [entryFrame, mkF, argsToLocals, Value.category]; done) | rfl
set_option maxRecDepth 65536 in
set_option maxHeartbeats 40000000 in
theorem rmSb2 (l : Launch) (Z : State) (a0 : Array Value) (hw : ∀ d ∈ tables_1, d.before a0 Z = true) (c0 c1 : Int32) (a1 : Addr) (h0 : Heap) (O0 : Ext Z.heap h0) (Y1 : Ary Z h0 a1 .char [(.int c0), (.int c1)]) (hc0 : ¬ (255 : Int32) < c0) (hc1 : ¬ (255 : Int32) < c1) :
    Ctr l Z (⟨"java/lang/StringUTF16", "compress", "([CII)[B"⟩ : MethodName) jdk_52_method_16_code 6 (some (.array .byte)) [] ({ frames := 1, cells := 1, slots := 2, locals := 18 } : Room) #[(.ref a1), (.int (0 : Int32)), (.int (2 : Int32))] h0 (fun v h L => ∃ u, v = some (.ref u) ∧ Fr Z.heap.size L ∧ Keep h0 h [] ∧ h0.size ≤ u ∧ Ary Z h u .byte [(.int (c0.toInt8.toInt32)), (.int (c1.toInt8.toInt32))]) := by
  refine ctr (plainFor_of_name pn_6) ?_
  intro p e s m below meth c s₁ hx hby hml hown hnm hret hlocks hZ X0 e0
  have N0 := Fr.nil Z.heap.size
  have hsz : ∀ {Ls : Array Slot}, Ls.size = 6 → Ls.size = c.maxLocals := fun q => q.trans hml.symm
  have K0 := Keep.refl h0 []
  refine goE (ef_rmSb2 m (a1) ((0 : Int32)) ((2 : Int32))) ?_
  show Goes p e below _ (s₁.setTop (mkF m 0 #[.val (.ref a1), .val (.int (0 : Int32)), .val (.int (2 : Int32)), .unset, .unset, .unset] []))
  refine gIloadN X0 hx (hb hby d_jdk_52_method_16_0) rfl ?_
  obtain ⟨Tt1, ht1, kt1, Xt1, et1, Et1, At1, stt1⟩ := newP X0 hx hZ (hw _ (List.mem_of_getElem? (i := 21) rfl)) e0 (g := (mkF m 1 #[.val (.ref a1), .val (.int (0 : Int32)), .val (.int (2 : Int32)), .unset, .unset, .unset] [(.int (2 : Int32))])) rfl (hb hby d_jdk_52_method_16_1) rfl (by decide) (cap := 2) (by decide) (by decide) (by decide) (by decide)
  obtain ⟨ob2, gob2⟩ : ∃ z, z = h0.size := ⟨_, rfl⟩
  rw [← gob2] at At1 stt1
  refine go stt1 ?_
  have ne_a1_ob2 : a1 ≠ ob2 := Nat.ne_of_lt (gob2 ▸ Y1.lt)
  have fr_ob2 : Z.heap.size ≤ ob2 := gob2 ▸ O0.1
  have pa_ob2 : h0.size ≤ ob2 := gob2 ▸ K0.1
  replace Y1 := Y1.ext Et1
  have O3 : Ext Z.heap ht1 := extT O0 Et1
  have K4 := K0.ext Et1
  have Y_ob2 : Ary Z ht1 ob2 .byte [(.int (0 : Int32)), (.int (0 : Int32))] := Ary.new At1 rfl (by decide)
  show Goes p e below _ (Tt1.setTop (mkF m 3 #[.val (.ref a1), .val (.int (0 : Int32)), .val (.int (2 : Int32)), .unset, .unset, .unset] [(.ref ob2)]))
  refine gAstoreN Xt1 hx (hb hby d_jdk_52_method_16_3) rfl (l' := #[.val (.ref a1), .val (.int (0 : Int32)), .val (.int (2 : Int32)), .val (.ref ob2), .unset, .unset]) rfl ?_
  refine gAloadN Xt1 hx (hb hby d_jdk_52_method_16_4) rfl rfl ?_
  refine gIloadN Xt1 hx (hb hby d_jdk_52_method_16_5) rfl ?_
  refine gAloadN Xt1 hx (hb hby d_jdk_52_method_16_6) rfl rfl ?_
  refine gIconst Xt1 hx (hb hby d_jdk_52_method_16_7) (v := (0 : Int32)) rfl ?_
  refine gIloadN Xt1 hx (hb hby d_jdk_52_method_16_8) rfl ?_
  refine goCallS Xt1 hx hZ hown (hw _ (List.mem_of_getElem? (i := 22) rfl)) (hw _ (List.mem_of_getElem? (i := 23) rfl)) (hw _ (List.mem_of_getElem? (i := 19) rfl)) (hw _ (List.mem_of_getElem? (i := 24) rfl)) (by decide) (rmSa2 l Z a0 hw c0 c1 a1 ob2 ht1 O3 Y1 Y_ob2 ne_a1_ob2 fr_ob2 hc0 hc1) 0 (by decide) (by decide) et1 (hsz rfl) [(.ref a1), (.int (0 : Int32)), (.ref ob2), (.int (0 : Int32)), (.int (2 : Int32))] [] pd_19 rfl rfl rfl (Nat.le_of_eq rfl) (hb hby d_jdk_52_method_16_9) (by decide) (by decide) (fun Tt5 vt5 Lt5 Xt5 qt5 => ?_)
  obtain ⟨ht5, et5⟩ : ∃ z, Tt5.heap = z := ⟨_, rfl⟩
  rw [et5] at qt5
  obtain ⟨rfl, N6, Kct5, Yb⟩ := qt5
  have N7 := Fr.app N0 N6
  replace Y1 := Y1.keep Kct5 (ninS ne_a1_ob2 nin0)
  have O8 : Ext Z.heap ht5 := extK O3 Kct5 (allS fr_ob2 all0)
  have K9 := K4.trans Kct5 (allS (Or.inr pa_ob2) all0)
  show Goes p e below _ (Tt5.setTop (mkF m 12 #[.val (.ref a1), .val (.int (0 : Int32)), .val (.int (2 : Int32)), .val (.ref ob2), .unset, .unset] [(.int (2 : Int32))]))
  refine gIstore Xt5 hx (hb hby d_jdk_52_method_16_12) (l' := #[.val (.ref a1), .val (.int (0 : Int32)), .val (.int (2 : Int32)), .val (.ref ob2), .val (.int (2 : Int32)), .unset]) rfl ?_
  refine gIload Xt5 hx (hb hby d_jdk_52_method_16_14) rfl ?_
  refine gIloadN Xt5 hx (hb hby d_jdk_52_method_16_16) rfl ?_
  refine gIcmpY Xt5 hx (hb hby d_jdk_52_method_16_17) (pc' := 57) (XT.ii_eq_t rfl) (by decide) (by decide) ?_
  show Goes p e below _ (Tt5.setTop (mkF m 57 #[.val (.ref a1), .val (.int (0 : Int32)), .val (.int (2 : Int32)), .val (.ref ob2), .val (.int (2 : Int32)), .unset] []))
  refine gAloadN Xt5 hx (hb hby d_jdk_52_method_16_57) rfl rfl ?_
  exact goRetA Xt5 hx hret hlocks rfl rfl (hb hby d_jdk_52_method_16_58) (by decide) (by decide) et5 (⟨ob2, rfl, N7, K9, pa_ob2, Yb⟩)
theorem d_jdk_52_method_15_0 : decode jdk_52_method_15_code 0 = .ok (.iload_n 1, 1) := by decide +kernel
theorem d_jdk_52_method_15_1 : decode jdk_52_method_15_code 1 = .ok (.aload_n 0, 1) := by decide +kernel
theorem d_jdk_52_method_15_2 : decode jdk_52_method_15_code 2 = .ok (.arraylength, 1) := by decide +kernel
theorem d_jdk_52_method_15_3 : decode jdk_52_method_15_code 3 = .ok (.isub, 1) := by decide +kernel
theorem d_jdk_52_method_15_4 : decode jdk_52_method_15_code 4 = .ok (.bipush 31, 2) := by decide +kernel
theorem d_jdk_52_method_15_6 : decode jdk_52_method_15_code 6 = .ok (.iushr, 1) := by decide +kernel
theorem d_jdk_52_method_15_7 : decode jdk_52_method_15_code 7 = .ok (.i2b, 1) := by decide +kernel
theorem d_jdk_52_method_15_8 : decode jdk_52_method_15_code 8 = .ok (.ireturn, 1) := by decide +kernel
theorem ef_rmSc2 (m : MethodId) (x0 : Addr) (x1 : Int32) : entryFrame m #[(.ref x0), (.int x1)] 2 = mkF m 0 #[.val (.ref x0), .val (.int x1)] [] := by first | (simp [entryFrame, mkF, argsToLocals, Value.category]; done) | rfl
set_option maxRecDepth 65536 in
set_option maxHeartbeats 40000000 in
theorem rmSc2 (l : Launch) (Z : State) (a0 : Array Value) (hw : ∀ d ∈ tables_1, d.before a0 Z = true) (c0 c1 : Int32) (a1 : Addr) (h0 : Heap) (O0 : Ext Z.heap h0) (Y1 : Ary Z h0 a1 .byte [(.int (c0.toInt8.toInt32)), (.int (c1.toInt8.toInt32))]) :
    Ctr l Z (⟨"java/lang/StringUTF16", "coderFromArrayLen", "([BI)B"⟩ : MethodName) jdk_52_method_15_code 2 (some .byte) [] ({ frames := 0, cells := 0, slots := 0, locals := 0 } : Room) #[(.ref a1), (.int (2 : Int32))] h0 (fun v h L => v = some (.int (0 : Int32)) ∧ Fr Z.heap.size L ∧ h = h0) := by
  refine ctr (plainFor_of_name pn_6) ?_
  intro p e s m below meth c s₁ hx hby hml hown hnm hret hlocks hZ X0 e0
  have N0 := Fr.nil Z.heap.size
  have hsz : ∀ {Ls : Array Slot}, Ls.size = 2 → Ls.size = c.maxLocals := fun q => q.trans hml.symm
  refine goE (ef_rmSc2 m (a1) ((2 : Int32))) ?_
  show Goes p e below _ (s₁.setTop (mkF m 0 #[.val (.ref a1), .val (.int (2 : Int32))] []))
  refine gIloadN X0 hx (hb hby d_jdk_52_method_15_0) rfl ?_
  refine gAloadN X0 hx (hb hby d_jdk_52_method_15_1) rfl rfl ?_
  refine goAlen X0 hx hZ e0 Y1 (n := (2 : Int32)) (hb hby d_jdk_52_method_15_2) rfl ?_
  refine gIsub X0 hx (hb hby d_jdk_52_method_15_3) ?_
  refine gBipush X0 hx (hb hby d_jdk_52_method_15_4) (v := (31 : Int32)) rfl ?_
  refine gIushr X0 hx (hb hby d_jdk_52_method_15_6) ?_
  refine gI2b X0 hx (hb hby d_jdk_52_method_15_7) ?_
  show Goes p e below _ (s₁.setTop (mkF m 8 #[.val (.ref a1), .val (.int (2 : Int32))] [(.int ((XT.ushr (0 : Int32) (31 : Int32)).toInt8.toInt32))]))
  exact goRetN X0 hx (t := .byte) hret hlocks (by simp) (hb hby d_jdk_52_method_15_8) (z' := (0 : Int32)) (by decide) (by decide) (by decide) e0 (⟨rfl, N0, rfl⟩)
theorem d_jdk_42_method_149_0 : decode jdk_42_method_149_code 0 = .ok (.aload_n 0, 1) := by decide +kernel
theorem d_jdk_42_method_149_1 : decode jdk_42_method_149_code 1 = .ok (.invokespecial 1, 3) := by decide +kernel
theorem d_jdk_42_method_149_4 : decode jdk_42_method_149_code 4 = .ok (.iload_n 3, 1) := by decide +kernel
theorem d_jdk_42_method_149_5 : decode jdk_42_method_149_code 5 = .ok (.ifCond .ne 22, 3) := by decide +kernel
theorem d_jdk_42_method_149_27 : decode jdk_42_method_149_code 27 = .ok (.getstatic 38, 3) := by decide +kernel
theorem d_jdk_42_method_149_30 : decode jdk_42_method_149_code 30 = .ok (.ifCond .eq 28, 3) := by decide +kernel
theorem d_jdk_42_method_149_33 : decode jdk_42_method_149_code 33 = .ok (.aload_n 1, 1) := by decide +kernel
theorem d_jdk_42_method_149_34 : decode jdk_42_method_149_code 34 = .ok (.iload_n 2, 1) := by decide +kernel
theorem d_jdk_42_method_149_35 : decode jdk_42_method_149_code 35 = .ok (.iload_n 3, 1) := by decide +kernel
theorem pd_20 : parseMethodDescriptor "([CII)[B" = some ⟨[(.array .char), .int, .int], some (.array .byte)⟩ := by decide +kernel
theorem d_jdk_42_method_149_36 : decode jdk_42_method_149_code 36 = .ok (.invokestatic 177, 3) := by decide +kernel
theorem d_jdk_42_method_149_39 : decode jdk_42_method_149_code 39 = .ok (.astore 5, 2) := by decide +kernel
theorem d_jdk_42_method_149_41 : decode jdk_42_method_149_code 41 = .ok (.aload_n 0, 1) := by decide +kernel
theorem d_jdk_42_method_149_42 : decode jdk_42_method_149_code 42 = .ok (.aload 5, 2) := by decide +kernel
theorem d_jdk_42_method_149_44 : decode jdk_42_method_149_code 44 = .ok (.iload_n 3, 1) := by decide +kernel
theorem pd_21 : parseMethodDescriptor "([BI)B" = some ⟨[(.array .byte), .int], some .byte⟩ := by decide +kernel
theorem d_jdk_42_method_149_45 : decode jdk_42_method_149_code 45 = .ok (.invokestatic 47, 3) := by decide +kernel
theorem d_jdk_42_method_149_48 : decode jdk_42_method_149_code 48 = .ok (.putfield 15, 3) := by decide +kernel
theorem d_jdk_42_method_149_51 : decode jdk_42_method_149_code 51 = .ok (.aload_n 0, 1) := by decide +kernel
theorem d_jdk_42_method_149_52 : decode jdk_42_method_149_code 52 = .ok (.aload 5, 2) := by decide +kernel
theorem d_jdk_42_method_149_54 : decode jdk_42_method_149_code 54 = .ok (.putfield 9, 3) := by decide +kernel
theorem d_jdk_42_method_149_57 : decode jdk_42_method_149_code 57 = .ok (.return_, 1) := by decide +kernel
theorem ef_rmSd2 (m : MethodId) (x0 : Addr) (x1 : Addr) (x2 : Int32) (x3 : Int32) : entryFrame m #[(.ref x0), (.ref x1), (.int x2), (.int x3), .null] 6 = mkF m 0 #[.val (.ref x0), .val (.ref x1), .val (.int x2), .val (.int x3), .val .null, .unset] [] := by first | (simp [entryFrame, mkF, argsToLocals, Value.category]; done) | rfl
set_option maxRecDepth 65536 in
set_option maxHeartbeats 40000000 in
theorem rmSd2 (l : Launch) (Z : State) (a0 : Array Value) (hw : ∀ d ∈ tables_1, d.before a0 Z = true) (cs : Int32) (c0 c1 : Int32) (a1 : Addr) (a2 : Addr) (h0 : Heap) (O0 : Ext Z.heap h0) (S_cs : Sta Z Z.heap "java/lang/String" "COMPACT_STRINGS" "Z" (.int cs)) (hcs : ¬ cs = 0) (E1 : Exa Z h0 a1 "java/lang/String") (F1 : Fld Z h0 a1 "java/lang/String" "value" "[B" .null) (F2 : Fld Z h0 a1 "java/lang/String" "coder" "B" (.int (0 : Int32))) (Y2 : Ary Z h0 a2 .char [(.int c0), (.int c1)]) (ne : a1 ≠ a2) (fr1 : Z.heap.size ≤ a1) (hc0 : ¬ (255 : Int32) < c0) (hc1 : ¬ (255 : Int32) < c1) :
    Ctr l Z (⟨"java/lang/String", "<init>", "([CIILjava/lang/Void;)V"⟩ : MethodName) jdk_42_method_149_code 6 none [] ({ frames := 2, cells := 1, slots := 2, locals := 36 } : Room) #[(.ref a1), (.ref a2), (.int (0 : Int32)), (.int (2 : Int32)), .null] h0 (fun v h L => v = none ∧ Fr Z.heap.size L ∧ Keep h0 h [a1] ∧ ∃ u, h0.size ≤ u ∧ Fld Z h a1 "java/lang/String" "value" "[B" (.ref u) ∧ Fld Z h a1 "java/lang/String" "coder" "B" (.int (0 : Int32)) ∧ Ary Z h u .byte [(.int (c0.toInt8.toInt32)), (.int (c1.toInt8.toInt32))]) := by
  refine ctr (plainFor_of_name pn_4) ?_
  intro p e s m below meth c s₁ hx hby hml hown hnm hret hlocks hZ X0 e0
  have N0 := Fr.nil Z.heap.size
  have hsz : ∀ {Ls : Array Slot}, Ls.size = 6 → Ls.size = c.maxLocals := fun q => q.trans hml.symm
  have K0 := Keep.refl h0 [a1]
  refine goE (ef_rmSd2 m (a1) (a2) ((0 : Int32)) ((2 : Int32))) ?_
  show Goes p e below _ (s₁.setTop (mkF m 0 #[.val (.ref a1), .val (.ref a2), .val (.int (0 : Int32)), .val (.int (2 : Int32)), .val .null, .unset] []))
  refine gAloadN X0 hx (hb hby d_jdk_42_method_149_0) rfl rfl ?_
  obtain ⟨Tt1, Xt1, et1, stt1⟩ := initO X0 hx hZ hown (hw _ (List.mem_of_getElem? (i := 13) rfl)) (hw _ (List.mem_of_getElem? (i := 14) rfl)) (hw _ (List.mem_of_getElem? (i := 15) rfl)) e0 (g := (mkF m 1 #[.val (.ref a1), .val (.ref a2), .val (.int (0 : Int32)), .val (.int (2 : Int32)), .val .null, .unset] [(.ref a1)])) rfl (by rw [hml]; rfl) rfl (hb hby d_jdk_42_method_149_1) (by decide) (W := 0) (Nat.le_of_eq rfl) (by decide)
  refine go stt1 ?_
  show Goes p e below _ (Tt1.setTop (mkF m 4 #[.val (.ref a1), .val (.ref a2), .val (.int (0 : Int32)), .val (.int (2 : Int32)), .val .null, .unset] []))
  refine gIloadN Xt1 hx (hb hby d_jdk_42_method_149_4) rfl ?_
  refine gIfY Xt1 hx (hb hby d_jdk_42_method_149_5) (pc' := 27) (XT.i0_ne_t (by decide)) (by decide) (by decide) ?_
  show Goes p e below _ (Tt1.setTop (mkF m 27 #[.val (.ref a1), .val (.ref a2), .val (.int (0 : Int32)), .val (.int (2 : Int32)), .val .null, .unset] []))
  obtain ⟨Tt2, Xt2, et2, stt2⟩ := getS2 Xt1 hx hZ hown (host := "") (Or.inl (hw _ (List.mem_of_getElem? (i := 16) rfl))) Via.refl et1 (S_cs.ext O0) (g := (mkF m 27 #[.val (.ref a1), .val (.ref a2), .val (.int (0 : Int32)), .val (.int (2 : Int32)), .val .null, .unset] [])) rfl (hb hby d_jdk_42_method_149_27)
  refine go stt2 ?_
  show Goes p e below _ (Tt2.setTop (mkF m 30 #[.val (.ref a1), .val (.ref a2), .val (.int (0 : Int32)), .val (.int (2 : Int32)), .val .null, .unset] [(.int cs)]))
  refine gIfN Xt2 hx (hb hby d_jdk_42_method_149_30) (XT.i0_eq_f hcs) ?_
  show Goes p e below _ (Tt2.setTop (mkF m 33 #[.val (.ref a1), .val (.ref a2), .val (.int (0 : Int32)), .val (.int (2 : Int32)), .val .null, .unset] []))
  refine gAloadN Xt2 hx (hb hby d_jdk_42_method_149_33) rfl rfl ?_
  refine gIloadN Xt2 hx (hb hby d_jdk_42_method_149_34) rfl ?_
  refine gIloadN Xt2 hx (hb hby d_jdk_42_method_149_35) rfl ?_
  have lt_a1_t3 := E1.lt
  have lt_a2_t3 := Y2.lt
  refine goCallS Xt2 hx hZ hown (hw _ (List.mem_of_getElem? (i := 17) rfl)) (hw _ (List.mem_of_getElem? (i := 18) rfl)) (hw _ (List.mem_of_getElem? (i := 19) rfl)) (hw _ (List.mem_of_getElem? (i := 20) rfl)) (by decide) (rmSb2 l Z a0 hw c0 c1 a2 h0 O0 Y2 hc0 hc1) 0 (by decide) (by decide) et2 (hsz rfl) [(.ref a2), (.int (0 : Int32)), (.int (2 : Int32))] [] pd_20 rfl rfl rfl (Nat.le_of_eq rfl) (hb hby d_jdk_42_method_149_36) (by decide) (by decide) (fun Tt3 vt3 Lt3 Xt3 qt3 => ?_)
  obtain ⟨ht3, et3⟩ : ∃ z, Tt3.heap = z := ⟨_, rfl⟩
  rw [et3] at qt3
  obtain ⟨u, rfl, N4, Kct3, pu, Yu⟩ := qt3
  have N5 := Fr.app N0 N4
  replace E1 := E1.keep Kct3
  replace F1 := F1.keep Kct3 nin0
  replace F2 := F2.keep Kct3 nin0
  replace Y2 := Y2.keep Kct3 nin0
  have O6 : Ext Z.heap ht3 := extK O0 Kct3 all0
  have K7 := K0.trans Kct3 all0
  have ne_a1_u : a1 ≠ u := Nat.ne_of_lt (Nat.lt_of_lt_of_le lt_a1_t3 pu)
  have ne_a2_u : a2 ≠ u := Nat.ne_of_lt (Nat.lt_of_lt_of_le lt_a2_t3 pu)
  have fr_u : Z.heap.size ≤ u := Nat.le_trans O0.1 pu
  have pa_u : h0.size ≤ u := Nat.le_trans K0.1 pu
  show Goes p e below _ (Tt3.setTop (mkF m 39 #[.val (.ref a1), .val (.ref a2), .val (.int (0 : Int32)), .val (.int (2 : Int32)), .val .null, .unset] [(.ref u)]))
  refine gAstore Xt3 hx (hb hby d_jdk_42_method_149_39) rfl (l' := #[.val (.ref a1), .val (.ref a2), .val (.int (0 : Int32)), .val (.int (2 : Int32)), .val .null, .val (.ref u)]) rfl ?_
  refine gAloadN Xt3 hx (hb hby d_jdk_42_method_149_41) rfl rfl ?_
  refine gAload Xt3 hx (hb hby d_jdk_42_method_149_42) rfl rfl ?_
  refine gIloadN Xt3 hx (hb hby d_jdk_42_method_149_44) rfl ?_
  refine goCallS Xt3 hx hZ hown (hw _ (List.mem_of_getElem? (i := 25) rfl)) (hw _ (List.mem_of_getElem? (i := 26) rfl)) (hw _ (List.mem_of_getElem? (i := 19) rfl)) (hw _ (List.mem_of_getElem? (i := 27) rfl)) (by decide) (rmSc2 l Z a0 hw c0 c1 u ht3 O6 Yu) 1 (by decide) (by decide) et3 (hsz rfl) [(.ref u), (.int (2 : Int32))] [(.ref a1)] pd_21 rfl rfl rfl (Nat.le_of_eq rfl) (hb hby d_jdk_42_method_149_45) (by decide) (by decide) (fun Tt8 vt8 Lt8 Xt8 qt8 => ?_)
  obtain ⟨rfl, N9, et8⟩ := qt8
  have N10 := Fr.app N5 N9
  show Goes p e below _ (Tt8.setTop (mkF m 48 #[.val (.ref a1), .val (.ref a2), .val (.int (0 : Int32)), .val (.int (2 : Int32)), .val .null, .val (.ref u)] [(.int (0 : Int32)), (.ref a1)]))
  obtain ⟨Tt11, ht11, Xt11, et11, Wt11, stt11⟩ := putF Xt8 hx hZ hown (host := "") (Or.inl (hw _ (List.mem_of_getElem? (i := 28) rfl))) Via.refl et8 F2 E1 (Or.inr ⟨(hw _ (List.mem_of_getElem? (i := 29) rfl)), rfl, hnm⟩) (hw _ (List.mem_of_getElem? (i := 3) rfl)) (ty := .byte) (by decide) rfl rfl (g := (mkF m 48 #[.val (.ref a1), .val (.ref a2), .val (.int (0 : Int32)), .val (.int (2 : Int32)), .val .null, .val (.ref u)] [(.int (0 : Int32)), (.ref a1)])) rfl rfl (hb hby d_jdk_42_method_149_48)
  refine go stt11 ?_
  have N12 := Fr.snoc Xt11 N10 fr1
  replace F2 := F2.same Wt11
  replace E1 := E1.wr Wt11
  replace F1 := F1.other Wt11 (Or.inr (slot_ne (Or.inr (hw _ (List.mem_of_getElem? (i := 31) rfl))) (Or.inr (hw _ (List.mem_of_getElem? (i := 29) rfl))) (by decide) (t := (.array .byte)) (by decide) (t' := .byte) (by decide)))
  replace Y2 := Y2.other Wt11 (Ne.symm ne)
  replace Yu := Yu.other Wt11 (Ne.symm ne_a1_u)
  have O13 : Ext Z.heap ht11 := extW O6 Wt11 fr1
  have K14 := K7.wr Wt11 (Or.inl (by simp))
  show Goes p e below _ (Tt11.setTop (mkF m 51 #[.val (.ref a1), .val (.ref a2), .val (.int (0 : Int32)), .val (.int (2 : Int32)), .val .null, .val (.ref u)] []))
  refine gAloadN Xt11 hx (hb hby d_jdk_42_method_149_51) rfl rfl ?_
  refine gAload Xt11 hx (hb hby d_jdk_42_method_149_52) rfl rfl ?_
  obtain ⟨Tt15, ht15, Xt15, et15, Wt15, stt15⟩ := putF Xt11 hx hZ hown (host := "") (Or.inl (hw _ (List.mem_of_getElem? (i := 30) rfl))) Via.refl et11 F1 E1 (Or.inr ⟨(hw _ (List.mem_of_getElem? (i := 31) rfl)), rfl, hnm⟩) (hw _ (List.mem_of_getElem? (i := 3) rfl)) (ty := (.array .byte)) (by decide) rfl rfl (g := (mkF m 54 #[.val (.ref a1), .val (.ref a2), .val (.int (0 : Int32)), .val (.int (2 : Int32)), .val .null, .val (.ref u)] [(.ref u), (.ref a1)])) rfl rfl (hb hby d_jdk_42_method_149_54)
  refine go stt15 ?_
  have N16 := Fr.snoc Xt15 N12 fr1
  replace F1 := F1.same Wt15
  replace E1 := E1.wr Wt15
  replace F2 := F2.other Wt15 (Or.inr (slot_ne (Or.inr (hw _ (List.mem_of_getElem? (i := 29) rfl))) (Or.inr (hw _ (List.mem_of_getElem? (i := 31) rfl))) (by decide) (t := .byte) (by decide) (t' := (.array .byte)) (by decide)))
  replace Y2 := Y2.other Wt15 (Ne.symm ne)
  replace Yu := Yu.other Wt15 (Ne.symm ne_a1_u)
  have O17 : Ext Z.heap ht15 := extW O13 Wt15 fr1
  have K18 := K14.wr Wt15 (Or.inl (by simp))
  show Goes p e below _ (Tt15.setTop (mkF m 57 #[.val (.ref a1), .val (.ref a2), .val (.int (0 : Int32)), .val (.int (2 : Int32)), .val .null, .val (.ref u)] []))
  exact goRet0 Xt15 hx hret hlocks (hb hby d_jdk_42_method_149_57) (by decide) (by decide) et15 (⟨rfl, N16, K18, u, pa_u, F1, F2, Yu⟩)
theorem d_jdk_42_method_3_0 : decode jdk_42_method_3_code 0 = .ok (.aload_n 0, 1) := by decide +kernel
theorem d_jdk_42_method_3_1 : decode jdk_42_method_3_code 1 = .ok (.aload_n 1, 1) := by decide +kernel
theorem d_jdk_42_method_3_2 : decode jdk_42_method_3_code 2 = .ok (.iconst 0, 1) := by decide +kernel
theorem d_jdk_42_method_3_3 : decode jdk_42_method_3_code 3 = .ok (.aload_n 1, 1) := by decide +kernel
theorem d_jdk_42_method_3_4 : decode jdk_42_method_3_code 4 = .ok (.arraylength, 1) := by decide +kernel
theorem d_jdk_42_method_3_5 : decode jdk_42_method_3_code 5 = .ok (.aconst_null, 1) := by decide +kernel
theorem pd_22 : parseMethodDescriptor "([CIILjava/lang/Void;)V" = some ⟨[(.array .char), .int, .int, (.object "java/lang/Void")], none⟩ := by decide +kernel
theorem d_jdk_42_method_3_6 : decode jdk_42_method_3_code 6 = .ok (.invokespecial 27, 3) := by decide +kernel
theorem d_jdk_42_method_3_9 : decode jdk_42_method_3_code 9 = .ok (.return_, 1) := by decide +kernel
theorem ef_rmS2 (m : MethodId) (x0 : Addr) (x1 : Addr) : entryFrame m #[(.ref x0), (.ref x1)] 2 = mkF m 0 #[.val (.ref x0), .val (.ref x1)] [] := by first | (simp [entryFrame, mkF, argsToLocals, Value.category]; done) | rfl
set_option maxRecDepth 65536 in
set_option maxHeartbeats 40000000 in
theorem rmS2 (l : Launch) (Z : State) (a0 : Array Value) (hw : ∀ d ∈ tables_1, d.before a0 Z = true) (cs : Int32) (c0 c1 : Int32) (a1 : Addr) (a2 : Addr) (h0 : Heap) (O0 : Ext Z.heap h0) (S_cs : Sta Z Z.heap "java/lang/String" "COMPACT_STRINGS" "Z" (.int cs)) (hcs : ¬ cs = 0) (E1 : Exa Z h0 a1 "java/lang/String") (F1 : Fld Z h0 a1 "java/lang/String" "value" "[B" .null) (F2 : Fld Z h0 a1 "java/lang/String" "coder" "B" (.int (0 : Int32))) (Y2 : Ary Z h0 a2 .char [(.int c0), (.int c1)]) (ne : a1 ≠ a2) (fr1 : Z.heap.size ≤ a1) (hc0 : ¬ (255 : Int32) < c0) (hc1 : ¬ (255 : Int32) < c1) :
    Ctr l Z (⟨"java/lang/String", "<init>", "([C)V"⟩ : MethodName) jdk_42_method_3_code 2 none [] ({ frames := 3, cells := 1, slots := 2, locals := 53 } : Room) #[(.ref a1), (.ref a2)] h0 (fun v h L => v = none ∧ Fr Z.heap.size L ∧ Keep h0 h [a1] ∧ ∃ u, h0.size ≤ u ∧ Fld Z h a1 "java/lang/String" "value" "[B" (.ref u) ∧ Fld Z h a1 "java/lang/String" "coder" "B" (.int (0 : Int32)) ∧ Ary Z h u .byte [(.int (c0.toInt8.toInt32)), (.int (c1.toInt8.toInt32))]) := by
  refine ctr (plainFor_of_name pn_4) ?_
  intro p e s m below meth c s₁ hx hby hml hown hnm hret hlocks hZ X0 e0
  have N0 := Fr.nil Z.heap.size
  have hsz : ∀ {Ls : Array Slot}, Ls.size = 2 → Ls.size = c.maxLocals := fun q => q.trans hml.symm
  have K0 := Keep.refl h0 [a1]
  refine goE (ef_rmS2 m (a1) (a2)) ?_
  show Goes p e below _ (s₁.setTop (mkF m 0 #[.val (.ref a1), .val (.ref a2)] []))
  refine gAloadN X0 hx (hb hby d_jdk_42_method_3_0) rfl rfl ?_
  refine gAloadN X0 hx (hb hby d_jdk_42_method_3_1) rfl rfl ?_
  refine gIconst X0 hx (hb hby d_jdk_42_method_3_2) (v := (0 : Int32)) rfl ?_
  refine gAloadN X0 hx (hb hby d_jdk_42_method_3_3) rfl rfl ?_
  refine goAlen X0 hx hZ e0 Y2 (n := (2 : Int32)) (hb hby d_jdk_42_method_3_4) rfl ?_
  refine gAnull X0 hx (hb hby d_jdk_42_method_3_5) ?_
  have lt_a1_t1 := E1.lt
  have lt_a2_t1 := Y2.lt
  refine goCallI X0 hx hZ rfl hown (hw _ (List.mem_of_getElem? (i := 9) rfl)) (hw _ (List.mem_of_getElem? (i := 10) rfl)) (hw _ (List.mem_of_getElem? (i := 4) rfl)) (hw _ (List.mem_of_getElem? (i := 12) rfl)) (by decide) (rmSd2 l Z a0 hw cs c0 c1 a1 a2 h0 O0 S_cs hcs E1 F1 F2 Y2 ne fr1 hc0 hc1) 0 (by decide) (by decide) e0 (hsz rfl) a1 [(.ref a2), (.int (0 : Int32)), (.int (2 : Int32)), .null] [] pd_22 rfl rfl rfl (Nat.le_of_eq rfl) (hb hby d_jdk_42_method_3_6) (by decide) (by decide) (fun Tt1 vt1 Lt1 Xt1 qt1 => ?_)
  obtain ⟨ht1, et1⟩ : ∃ z, Tt1.heap = z := ⟨_, rfl⟩
  rw [et1] at qt1
  obtain ⟨rfl, N2, Kct1, u, pu, Gv, Gc, Yu⟩ := qt1
  have N3 := Fr.app N0 N2
  replace E1 := E1.keep Kct1
  replace Y2 := Y2.keep Kct1 (ninS (Ne.symm ne) nin0)
  have O4 : Ext Z.heap ht1 := extK O0 Kct1 (allS fr1 all0)
  have K5 := K0.trans Kct1 (allS (Or.inl (by simp)) all0)
  have ne_a1_u : a1 ≠ u := Nat.ne_of_lt (Nat.lt_of_lt_of_le lt_a1_t1 pu)
  have ne_a2_u : a2 ≠ u := Nat.ne_of_lt (Nat.lt_of_lt_of_le lt_a2_t1 pu)
  have fr_u : Z.heap.size ≤ u := Nat.le_trans O0.1 pu
  have pa_u : h0.size ≤ u := Nat.le_trans K0.1 pu
  show Goes p e below _ (Tt1.setTop (mkF m 9 #[.val (.ref a1), .val (.ref a2)] []))
  exact goRet0 Xt1 hx hret hlocks (hb hby d_jdk_42_method_3_9) (by decide) (by decide) et1 (⟨rfl, N3, K5, u, pu, Gv, Gc, Yu⟩)
theorem ef_rmSa3 (m : MethodId) (x0 : Addr) (x1 : Int32) (x2 : Addr) (x3 : Int32) (x4 : Int32) : entryFrame m #[(.ref x0), (.int x1), (.ref x2), (.int x3), (.int x4)] 7 = mkF m 0 #[.val (.ref x0), .val (.int x1), .val (.ref x2), .val (.int x3), .val (.int x4), .unset, .unset] [] := by first | (simp [entryFrame, mkF, argsToLocals, Value.category]; done) | rfl
set_option maxRecDepth 65536 in
set_option maxHeartbeats 40000000 in
theorem rmSa3 (l : Launch) (Z : State) (a0 : Array Value) (hw : ∀ d ∈ tables_1, d.before a0 Z = true) (c0 c1 c2 : Int32) (a1 : Addr) (a2 : Addr) (h0 : Heap) (O0 : Ext Z.heap h0) (Y1 : Ary Z h0 a1 .char [(.int c0), (.int c1), (.int c2)]) (Y2 : Ary Z h0 a2 .byte [(.int (0 : Int32)), (.int (0 : Int32)), (.int (0 : Int32))]) (ne : a1 ≠ a2) (fr2 : Z.heap.size ≤ a2) (hc0 : ¬ (255 : Int32) < c0) (hc1 : ¬ (255 : Int32) < c1) (hc2 : ¬ (255 : Int32) < c2) :
    Ctr l Z (⟨"java/lang/StringUTF16", "compress", "([CI[BII)I"⟩ : MethodName) jdk_52_method_21_code 7 (some .int) [] ({ frames := 0, cells := 0, slots := 0, locals := 0 } : Room) #[(.ref a1), (.int (0 : Int32)), (.ref a2), (.int (0 : Int32)), (.int (3 : Int32))] h0 (fun v h L => v = some (.int (3 : Int32)) ∧ Fr Z.heap.size L ∧ Keep h0 h [a2] ∧ Ary Z h a2 .byte [(.int (c0.toInt8.toInt32)), (.int (c1.toInt8.toInt32)), (.int (c2.toInt8.toInt32))]) := by
  refine ctr (plainFor_of_name pn_6) ?_
  intro p e s m below meth c s₁ hx hby hml hown hnm hret hlocks hZ X0 e0
  have N0 := Fr.nil Z.heap.size
  have hsz : ∀ {Ls : Array Slot}, Ls.size = 7 → Ls.size = c.maxLocals := fun q => q.trans hml.symm
  have K0 := Keep.refl h0 [a2]
  refine goE (ef_rmSa3 m (a1) ((0 : Int32)) (a2) ((0 : Int32)) ((3 : Int32))) ?_
  show Goes p e below _ (s₁.setTop (mkF m 0 #[.val (.ref a1), .val (.int (0 : Int32)), .val (.ref a2), .val (.int (0 : Int32)), .val (.int (3 : Int32)), .unset, .unset] []))
  refine gIconst X0 hx (hb hby d_jdk_52_method_21_0) (v := (0 : Int32)) rfl ?_
  refine gIstore X0 hx (hb hby d_jdk_52_method_21_1) (l' := #[.val (.ref a1), .val (.int (0 : Int32)), .val (.ref a2), .val (.int (0 : Int32)), .val (.int (3 : Int32)), .val (.int (0 : Int32)), .unset]) rfl ?_
  refine gIload X0 hx (hb hby d_jdk_52_method_21_3) rfl ?_
  refine gIload X0 hx (hb hby d_jdk_52_method_21_5) rfl ?_
  refine gIcmpN X0 hx (hb hby d_jdk_52_method_21_7) (XT.ii_ge_f (by decide)) ?_
  show Goes p e below _ (s₁.setTop (mkF m 10 #[.val (.ref a1), .val (.int (0 : Int32)), .val (.ref a2), .val (.int (0 : Int32)), .val (.int (3 : Int32)), .val (.int (0 : Int32)), .unset] []))
  refine gAloadN X0 hx (hb hby d_jdk_52_method_21_10) rfl rfl ?_
  refine gIloadN X0 hx (hb hby d_jdk_52_method_21_11) rfl ?_
  refine goCaload X0 hx hZ e0 Y1 (x := c0) (hb hby d_jdk_52_method_21_12) (by decide) rfl ?_
  refine gIstore X0 hx (hb hby d_jdk_52_method_21_13) (l' := #[.val (.ref a1), .val (.int (0 : Int32)), .val (.ref a2), .val (.int (0 : Int32)), .val (.int (3 : Int32)), .val (.int (0 : Int32)), .val (.int c0)]) rfl ?_
  refine gIload X0 hx (hb hby d_jdk_52_method_21_15) rfl ?_
  refine gSipush X0 hx (hb hby d_jdk_52_method_21_17) (v := (255 : Int32)) rfl ?_
  refine gIcmpY X0 hx (hb hby d_jdk_52_method_21_20) (pc' := 26) (XT.ii_le_t hc0) (by decide) (by decide) ?_
  show Goes p e below _ (s₁.setTop (mkF m 26 #[.val (.ref a1), .val (.int (0 : Int32)), .val (.ref a2), .val (.int (0 : Int32)), .val (.int (3 : Int32)), .val (.int (0 : Int32)), .val (.int c0)] []))
  refine gAloadN X0 hx (hb hby d_jdk_52_method_21_26) rfl rfl ?_
  refine gIloadN X0 hx (hb hby d_jdk_52_method_21_27) rfl ?_
  refine gIload X0 hx (hb hby d_jdk_52_method_21_28) rfl ?_
  refine gI2b X0 hx (hb hby d_jdk_52_method_21_30) ?_
  refine goBastore X0 hx hZ e0 Y2 (hb hby d_jdk_52_method_21_31) (by decide) rfl (fun Tt1 ht1 Xt1 et1 Wt1 => ?_)
  have N2 := Fr.snoc Xt1 N0 fr2
  replace Y2 : Ary Z ht1 a2 .byte [(.int (c0.toInt8.toInt32)), (.int (0 : Int32)), (.int (0 : Int32))] := Y2.set Wt1 (by rw [narb]; rfl)
  replace Y1 := Y1.other Wt1 ne
  have O3 : Ext Z.heap ht1 := extW O0 Wt1 fr2
  have K4 := K0.wr Wt1 (Or.inl (by simp))
  show Goes p e below _ (Tt1.setTop (mkF m 32 #[.val (.ref a1), .val (.int (0 : Int32)), .val (.ref a2), .val (.int (0 : Int32)), .val (.int (3 : Int32)), .val (.int (0 : Int32)), .val (.int c0)] []))
  refine gIinc Xt1 hx (hb hby d_jdk_52_method_21_32) (v := (1 : Int32)) rfl rfl (l' := #[.val (.ref a1), .val (.int (1 : Int32)), .val (.ref a2), .val (.int (0 : Int32)), .val (.int (3 : Int32)), .val (.int (0 : Int32)), .val (.int c0)]) rfl ?_
  refine gIinc Xt1 hx (hb hby d_jdk_52_method_21_35) (v := (1 : Int32)) rfl rfl (l' := #[.val (.ref a1), .val (.int (1 : Int32)), .val (.ref a2), .val (.int (1 : Int32)), .val (.int (3 : Int32)), .val (.int (0 : Int32)), .val (.int c0)]) rfl ?_
  refine gIinc Xt1 hx (hb hby d_jdk_52_method_21_38) (v := (1 : Int32)) rfl rfl (l' := #[.val (.ref a1), .val (.int (1 : Int32)), .val (.ref a2), .val (.int (1 : Int32)), .val (.int (3 : Int32)), .val (.int (1 : Int32)), .val (.int c0)]) rfl ?_
  refine gGoto Xt1 hx (hb hby d_jdk_52_method_21_41) (pc' := 3) (by decide) (by decide) ?_
  show Goes p e below _ (Tt1.setTop (mkF m 3 #[.val (.ref a1), .val (.int (1 : Int32)), .val (.ref a2), .val (.int (1 : Int32)), .val (.int (3 : Int32)), .val (.int (1 : Int32)), .val (.int c0)] []))
  refine gIload Xt1 hx (hb hby d_jdk_52_method_21_3) rfl ?_
  refine gIload Xt1 hx (hb hby d_jdk_52_method_21_5) rfl ?_
  refine gIcmpN Xt1 hx (hb hby d_jdk_52_method_21_7) (XT.ii_ge_f (by decide)) ?_
  show Goes p e below _ (Tt1.setTop (mkF m 10 #[.val (.ref a1), .val (.int (1 : Int32)), .val (.ref a2), .val (.int (1 : Int32)), .val (.int (3 : Int32)), .val (.int (1 : Int32)), .val (.int c0)] []))
  refine gAloadN Xt1 hx (hb hby d_jdk_52_method_21_10) rfl rfl ?_
  refine gIloadN Xt1 hx (hb hby d_jdk_52_method_21_11) rfl ?_
  refine goCaload Xt1 hx hZ et1 Y1 (x := c1) (hb hby d_jdk_52_method_21_12) (by decide) rfl ?_
  refine gIstore Xt1 hx (hb hby d_jdk_52_method_21_13) (l' := #[.val (.ref a1), .val (.int (1 : Int32)), .val (.ref a2), .val (.int (1 : Int32)), .val (.int (3 : Int32)), .val (.int (1 : Int32)), .val (.int c1)]) rfl ?_
  refine gIload Xt1 hx (hb hby d_jdk_52_method_21_15) rfl ?_
  refine gSipush Xt1 hx (hb hby d_jdk_52_method_21_17) (v := (255 : Int32)) rfl ?_
  refine gIcmpY Xt1 hx (hb hby d_jdk_52_method_21_20) (pc' := 26) (XT.ii_le_t hc1) (by decide) (by decide) ?_
  show Goes p e below _ (Tt1.setTop (mkF m 26 #[.val (.ref a1), .val (.int (1 : Int32)), .val (.ref a2), .val (.int (1 : Int32)), .val (.int (3 : Int32)), .val (.int (1 : Int32)), .val (.int c1)] []))
  refine gAloadN Xt1 hx (hb hby d_jdk_52_method_21_26) rfl rfl ?_
  refine gIloadN Xt1 hx (hb hby d_jdk_52_method_21_27) rfl ?_
  refine gIload Xt1 hx (hb hby d_jdk_52_method_21_28) rfl ?_
  refine gI2b Xt1 hx (hb hby d_jdk_52_method_21_30) ?_
  refine goBastore Xt1 hx hZ et1 Y2 (hb hby d_jdk_52_method_21_31) (by decide) rfl (fun Tt5 ht5 Xt5 et5 Wt5 => ?_)
  have N6 := Fr.snoc Xt5 N2 fr2
  replace Y2 : Ary Z ht5 a2 .byte [(.int (c0.toInt8.toInt32)), (.int (c1.toInt8.toInt32)), (.int (0 : Int32))] := Y2.set Wt5 (by rw [narb]; rfl)
  replace Y1 := Y1.other Wt5 ne
  have O7 : Ext Z.heap ht5 := extW O3 Wt5 fr2
  have K8 := K4.wr Wt5 (Or.inl (by simp))
  show Goes p e below _ (Tt5.setTop (mkF m 32 #[.val (.ref a1), .val (.int (1 : Int32)), .val (.ref a2), .val (.int (1 : Int32)), .val (.int (3 : Int32)), .val (.int (1 : Int32)), .val (.int c1)] []))
  refine gIinc Xt5 hx (hb hby d_jdk_52_method_21_32) (v := (2 : Int32)) rfl rfl (l' := #[.val (.ref a1), .val (.int (2 : Int32)), .val (.ref a2), .val (.int (1 : Int32)), .val (.int (3 : Int32)), .val (.int (1 : Int32)), .val (.int c1)]) rfl ?_
  refine gIinc Xt5 hx (hb hby d_jdk_52_method_21_35) (v := (2 : Int32)) rfl rfl (l' := #[.val (.ref a1), .val (.int (2 : Int32)), .val (.ref a2), .val (.int (2 : Int32)), .val (.int (3 : Int32)), .val (.int (1 : Int32)), .val (.int c1)]) rfl ?_
  refine gIinc Xt5 hx (hb hby d_jdk_52_method_21_38) (v := (2 : Int32)) rfl rfl (l' := #[.val (.ref a1), .val (.int (2 : Int32)), .val (.ref a2), .val (.int (2 : Int32)), .val (.int (3 : Int32)), .val (.int (2 : Int32)), .val (.int c1)]) rfl ?_
  refine gGoto Xt5 hx (hb hby d_jdk_52_method_21_41) (pc' := 3) (by decide) (by decide) ?_
  show Goes p e below _ (Tt5.setTop (mkF m 3 #[.val (.ref a1), .val (.int (2 : Int32)), .val (.ref a2), .val (.int (2 : Int32)), .val (.int (3 : Int32)), .val (.int (2 : Int32)), .val (.int c1)] []))
  refine gIload Xt5 hx (hb hby d_jdk_52_method_21_3) rfl ?_
  refine gIload Xt5 hx (hb hby d_jdk_52_method_21_5) rfl ?_
  refine gIcmpN Xt5 hx (hb hby d_jdk_52_method_21_7) (XT.ii_ge_f (by decide)) ?_
  show Goes p e below _ (Tt5.setTop (mkF m 10 #[.val (.ref a1), .val (.int (2 : Int32)), .val (.ref a2), .val (.int (2 : Int32)), .val (.int (3 : Int32)), .val (.int (2 : Int32)), .val (.int c1)] []))
  refine gAloadN Xt5 hx (hb hby d_jdk_52_method_21_10) rfl rfl ?_
  refine gIloadN Xt5 hx (hb hby d_jdk_52_method_21_11) rfl ?_
  refine goCaload Xt5 hx hZ et5 Y1 (x := c2) (hb hby d_jdk_52_method_21_12) (by decide) rfl ?_
  refine gIstore Xt5 hx (hb hby d_jdk_52_method_21_13) (l' := #[.val (.ref a1), .val (.int (2 : Int32)), .val (.ref a2), .val (.int (2 : Int32)), .val (.int (3 : Int32)), .val (.int (2 : Int32)), .val (.int c2)]) rfl ?_
  refine gIload Xt5 hx (hb hby d_jdk_52_method_21_15) rfl ?_
  refine gSipush Xt5 hx (hb hby d_jdk_52_method_21_17) (v := (255 : Int32)) rfl ?_
  refine gIcmpY Xt5 hx (hb hby d_jdk_52_method_21_20) (pc' := 26) (XT.ii_le_t hc2) (by decide) (by decide) ?_
  show Goes p e below _ (Tt5.setTop (mkF m 26 #[.val (.ref a1), .val (.int (2 : Int32)), .val (.ref a2), .val (.int (2 : Int32)), .val (.int (3 : Int32)), .val (.int (2 : Int32)), .val (.int c2)] []))
  refine gAloadN Xt5 hx (hb hby d_jdk_52_method_21_26) rfl rfl ?_
  refine gIloadN Xt5 hx (hb hby d_jdk_52_method_21_27) rfl ?_
  refine gIload Xt5 hx (hb hby d_jdk_52_method_21_28) rfl ?_
  refine gI2b Xt5 hx (hb hby d_jdk_52_method_21_30) ?_
  refine goBastore Xt5 hx hZ et5 Y2 (hb hby d_jdk_52_method_21_31) (by decide) rfl (fun Tt9 ht9 Xt9 et9 Wt9 => ?_)
  have N10 := Fr.snoc Xt9 N6 fr2
  replace Y2 : Ary Z ht9 a2 .byte [(.int (c0.toInt8.toInt32)), (.int (c1.toInt8.toInt32)), (.int (c2.toInt8.toInt32))] := Y2.set Wt9 (by rw [narb]; rfl)
  replace Y1 := Y1.other Wt9 ne
  have O11 : Ext Z.heap ht9 := extW O7 Wt9 fr2
  have K12 := K8.wr Wt9 (Or.inl (by simp))
  show Goes p e below _ (Tt9.setTop (mkF m 32 #[.val (.ref a1), .val (.int (2 : Int32)), .val (.ref a2), .val (.int (2 : Int32)), .val (.int (3 : Int32)), .val (.int (2 : Int32)), .val (.int c2)] []))
  refine gIinc Xt9 hx (hb hby d_jdk_52_method_21_32) (v := (3 : Int32)) rfl rfl (l' := #[.val (.ref a1), .val (.int (3 : Int32)), .val (.ref a2), .val (.int (2 : Int32)), .val (.int (3 : Int32)), .val (.int (2 : Int32)), .val (.int c2)]) rfl ?_
  refine gIinc Xt9 hx (hb hby d_jdk_52_method_21_35) (v := (3 : Int32)) rfl rfl (l' := #[.val (.ref a1), .val (.int (3 : Int32)), .val (.ref a2), .val (.int (3 : Int32)), .val (.int (3 : Int32)), .val (.int (2 : Int32)), .val (.int c2)]) rfl ?_
  refine gIinc Xt9 hx (hb hby d_jdk_52_method_21_38) (v := (3 : Int32)) rfl rfl (l' := #[.val (.ref a1), .val (.int (3 : Int32)), .val (.ref a2), .val (.int (3 : Int32)), .val (.int (3 : Int32)), .val (.int (3 : Int32)), .val (.int c2)]) rfl ?_
  refine gGoto Xt9 hx (hb hby d_jdk_52_method_21_41) (pc' := 3) (by decide) (by decide) ?_
  show Goes p e below _ (Tt9.setTop (mkF m 3 #[.val (.ref a1), .val (.int (3 : Int32)), .val (.ref a2), .val (.int (3 : Int32)), .val (.int (3 : Int32)), .val (.int (3 : Int32)), .val (.int c2)] []))
  refine gIload Xt9 hx (hb hby d_jdk_52_method_21_3) rfl ?_
  refine gIload Xt9 hx (hb hby d_jdk_52_method_21_5) rfl ?_
  refine gIcmpY Xt9 hx (hb hby d_jdk_52_method_21_7) (pc' := 44) (XT.ii_ge_t (by decide)) (by decide) (by decide) ?_
  show Goes p e below _ (Tt9.setTop (mkF m 44 #[.val (.ref a1), .val (.int (3 : Int32)), .val (.ref a2), .val (.int (3 : Int32)), .val (.int (3 : Int32)), .val (.int (3 : Int32)), .val (.int c2)] []))
  refine gIload Xt9 hx (hb hby d_jdk_52_method_21_44) rfl ?_
  exact goRetI Xt9 hx hret hlocks (hb hby d_jdk_52_method_21_46) (by decide) (by decide) et9 (⟨rfl, N10, K12, Y2⟩)
theorem ef_rmSb3 (m : MethodId) (x0 : Addr) (x1 : Int32) (x2 : Int32) : entryFrame m #[(.ref x0), (.int x1), (.int x2)] 6 = mkF m 0 #[.val (.ref x0), .val (.int x1), .val (.int x2), .unset, .unset, .unset] [] := by first | (simp [entryFrame, mkF, argsToLocals, Value.category]; done) | rfl
set_option maxRecDepth 65536 in
set_option maxHeartbeats 40000000 in
theorem rmSb3 (l : Launch) (Z : State) (a0 : Array Value) (hw : ∀ d ∈ tables_1, d.before a0 Z = true) (c0 c1 c2 : Int32) (a1 : Addr) (h0 : Heap) (O0 : Ext Z.heap h0) (Y1 : Ary Z h0 a1 .char [(.int c0), (.int c1), (.int c2)]) (hc0 : ¬ (255 : Int32) < c0) (hc1 : ¬ (255 : Int32) < c1) (hc2 : ¬ (255 : Int32) < c2) :
    Ctr l Z (⟨"java/lang/StringUTF16", "compress", "([CII)[B"⟩ : MethodName) jdk_52_method_16_code 6 (some (.array .byte)) [] ({ frames := 1, cells := 1, slots := 3, locals := 18 } : Room) #[(.ref a1), (.int (0 : Int32)), (.int (3 : Int32))] h0 (fun v h L => ∃ u, v = some (.ref u) ∧ Fr Z.heap.size L ∧ Keep h0 h [] ∧ h0.size ≤ u ∧ Ary Z h u .byte [(.int (c0.toInt8.toInt32)), (.int (c1.toInt8.toInt32)), (.int (c2.toInt8.toInt32))]) := by
  refine ctr (plainFor_of_name pn_6) ?_
  intro p e s m below meth c s₁ hx hby hml hown hnm hret hlocks hZ X0 e0
  have N0 := Fr.nil Z.heap.size
  have hsz : ∀ {Ls : Array Slot}, Ls.size = 6 → Ls.size = c.maxLocals := fun q => q.trans hml.symm
  have K0 := Keep.refl h0 []
  refine goE (ef_rmSb3 m (a1) ((0 : Int32)) ((3 : Int32))) ?_
  show Goes p e below _ (s₁.setTop (mkF m 0 #[.val (.ref a1), .val (.int (0 : Int32)), .val (.int (3 : Int32)), .unset, .unset, .unset] []))
  refine gIloadN X0 hx (hb hby d_jdk_52_method_16_0) rfl ?_
  obtain ⟨Tt1, ht1, kt1, Xt1, et1, Et1, At1, stt1⟩ := newP X0 hx hZ (hw _ (List.mem_of_getElem? (i := 21) rfl)) e0 (g := (mkF m 1 #[.val (.ref a1), .val (.int (0 : Int32)), .val (.int (3 : Int32)), .unset, .unset, .unset] [(.int (3 : Int32))])) rfl (hb hby d_jdk_52_method_16_1) rfl (by decide) (cap := 3) (by decide) (by decide) (by decide) (by decide)
  obtain ⟨ob2, gob2⟩ : ∃ z, z = h0.size := ⟨_, rfl⟩
  rw [← gob2] at At1 stt1
  refine go stt1 ?_
  have ne_a1_ob2 : a1 ≠ ob2 := Nat.ne_of_lt (gob2 ▸ Y1.lt)
  have fr_ob2 : Z.heap.size ≤ ob2 := gob2 ▸ O0.1
  have pa_ob2 : h0.size ≤ ob2 := gob2 ▸ K0.1
  replace Y1 := Y1.ext Et1
  have O3 : Ext Z.heap ht1 := extT O0 Et1
  have K4 := K0.ext Et1
  have Y_ob2 : Ary Z ht1 ob2 .byte [(.int (0 : Int32)), (.int (0 : Int32)), (.int (0 : Int32))] := Ary.new At1 rfl (by decide)
  show Goes p e below _ (Tt1.setTop (mkF m 3 #[.val (.ref a1), .val (.int (0 : Int32)), .val (.int (3 : Int32)), .unset, .unset, .unset] [(.ref ob2)]))
  refine gAstoreN Xt1 hx (hb hby d_jdk_52_method_16_3) rfl (l' := #[.val (.ref a1), .val (.int (0 : Int32)), .val (.int (3 : Int32)), .val (.ref ob2), .unset, .unset]) rfl ?_
  refine gAloadN Xt1 hx (hb hby d_jdk_52_method_16_4) rfl rfl ?_
  refine gIloadN Xt1 hx (hb hby d_jdk_52_method_16_5) rfl ?_
  refine gAloadN Xt1 hx (hb hby d_jdk_52_method_16_6) rfl rfl ?_
  refine gIconst Xt1 hx (hb hby d_jdk_52_method_16_7) (v := (0 : Int32)) rfl ?_
  refine gIloadN Xt1 hx (hb hby d_jdk_52_method_16_8) rfl ?_
  refine goCallS Xt1 hx hZ hown (hw _ (List.mem_of_getElem? (i := 22) rfl)) (hw _ (List.mem_of_getElem? (i := 23) rfl)) (hw _ (List.mem_of_getElem? (i := 19) rfl)) (hw _ (List.mem_of_getElem? (i := 24) rfl)) (by decide) (rmSa3 l Z a0 hw c0 c1 c2 a1 ob2 ht1 O3 Y1 Y_ob2 ne_a1_ob2 fr_ob2 hc0 hc1 hc2) 0 (by decide) (by decide) et1 (hsz rfl) [(.ref a1), (.int (0 : Int32)), (.ref ob2), (.int (0 : Int32)), (.int (3 : Int32))] [] pd_19 rfl rfl rfl (Nat.le_of_eq rfl) (hb hby d_jdk_52_method_16_9) (by decide) (by decide) (fun Tt5 vt5 Lt5 Xt5 qt5 => ?_)
  obtain ⟨ht5, et5⟩ : ∃ z, Tt5.heap = z := ⟨_, rfl⟩
  rw [et5] at qt5
  obtain ⟨rfl, N6, Kct5, Yb⟩ := qt5
  have N7 := Fr.app N0 N6
  replace Y1 := Y1.keep Kct5 (ninS ne_a1_ob2 nin0)
  have O8 : Ext Z.heap ht5 := extK O3 Kct5 (allS fr_ob2 all0)
  have K9 := K4.trans Kct5 (allS (Or.inr pa_ob2) all0)
  show Goes p e below _ (Tt5.setTop (mkF m 12 #[.val (.ref a1), .val (.int (0 : Int32)), .val (.int (3 : Int32)), .val (.ref ob2), .unset, .unset] [(.int (3 : Int32))]))
  refine gIstore Xt5 hx (hb hby d_jdk_52_method_16_12) (l' := #[.val (.ref a1), .val (.int (0 : Int32)), .val (.int (3 : Int32)), .val (.ref ob2), .val (.int (3 : Int32)), .unset]) rfl ?_
  refine gIload Xt5 hx (hb hby d_jdk_52_method_16_14) rfl ?_
  refine gIloadN Xt5 hx (hb hby d_jdk_52_method_16_16) rfl ?_
  refine gIcmpY Xt5 hx (hb hby d_jdk_52_method_16_17) (pc' := 57) (XT.ii_eq_t rfl) (by decide) (by decide) ?_
  show Goes p e below _ (Tt5.setTop (mkF m 57 #[.val (.ref a1), .val (.int (0 : Int32)), .val (.int (3 : Int32)), .val (.ref ob2), .val (.int (3 : Int32)), .unset] []))
  refine gAloadN Xt5 hx (hb hby d_jdk_52_method_16_57) rfl rfl ?_
  exact goRetA Xt5 hx hret hlocks rfl rfl (hb hby d_jdk_52_method_16_58) (by decide) (by decide) et5 (⟨ob2, rfl, N7, K9, pa_ob2, Yb⟩)
theorem ef_rmSc3 (m : MethodId) (x0 : Addr) (x1 : Int32) : entryFrame m #[(.ref x0), (.int x1)] 2 = mkF m 0 #[.val (.ref x0), .val (.int x1)] [] := by first | (simp [entryFrame, mkF, argsToLocals, Value.category]; done) | rfl
set_option maxRecDepth 65536 in
set_option maxHeartbeats 40000000 in
theorem rmSc3 (l : Launch) (Z : State) (a0 : Array Value) (hw : ∀ d ∈ tables_1, d.before a0 Z = true) (c0 c1 c2 : Int32) (a1 : Addr) (h0 : Heap) (O0 : Ext Z.heap h0) (Y1 : Ary Z h0 a1 .byte [(.int (c0.toInt8.toInt32)), (.int (c1.toInt8.toInt32)), (.int (c2.toInt8.toInt32))]) :
    Ctr l Z (⟨"java/lang/StringUTF16", "coderFromArrayLen", "([BI)B"⟩ : MethodName) jdk_52_method_15_code 2 (some .byte) [] ({ frames := 0, cells := 0, slots := 0, locals := 0 } : Room) #[(.ref a1), (.int (3 : Int32))] h0 (fun v h L => v = some (.int (0 : Int32)) ∧ Fr Z.heap.size L ∧ h = h0) := by
  refine ctr (plainFor_of_name pn_6) ?_
  intro p e s m below meth c s₁ hx hby hml hown hnm hret hlocks hZ X0 e0
  have N0 := Fr.nil Z.heap.size
  have hsz : ∀ {Ls : Array Slot}, Ls.size = 2 → Ls.size = c.maxLocals := fun q => q.trans hml.symm
  refine goE (ef_rmSc3 m (a1) ((3 : Int32))) ?_
  show Goes p e below _ (s₁.setTop (mkF m 0 #[.val (.ref a1), .val (.int (3 : Int32))] []))
  refine gIloadN X0 hx (hb hby d_jdk_52_method_15_0) rfl ?_
  refine gAloadN X0 hx (hb hby d_jdk_52_method_15_1) rfl rfl ?_
  refine goAlen X0 hx hZ e0 Y1 (n := (3 : Int32)) (hb hby d_jdk_52_method_15_2) rfl ?_
  refine gIsub X0 hx (hb hby d_jdk_52_method_15_3) ?_
  refine gBipush X0 hx (hb hby d_jdk_52_method_15_4) (v := (31 : Int32)) rfl ?_
  refine gIushr X0 hx (hb hby d_jdk_52_method_15_6) ?_
  refine gI2b X0 hx (hb hby d_jdk_52_method_15_7) ?_
  show Goes p e below _ (s₁.setTop (mkF m 8 #[.val (.ref a1), .val (.int (3 : Int32))] [(.int ((XT.ushr (0 : Int32) (31 : Int32)).toInt8.toInt32))]))
  exact goRetN X0 hx (t := .byte) hret hlocks (by simp) (hb hby d_jdk_52_method_15_8) (z' := (0 : Int32)) (by decide) (by decide) (by decide) e0 (⟨rfl, N0, rfl⟩)
theorem ef_rmSd3 (m : MethodId) (x0 : Addr) (x1 : Addr) (x2 : Int32) (x3 : Int32) : entryFrame m #[(.ref x0), (.ref x1), (.int x2), (.int x3), .null] 6 = mkF m 0 #[.val (.ref x0), .val (.ref x1), .val (.int x2), .val (.int x3), .val .null, .unset] [] := by first | (simp [entryFrame, mkF, argsToLocals, Value.category]; done) | rfl
set_option maxRecDepth 65536 in
set_option maxHeartbeats 40000000 in
theorem rmSd3 (l : Launch) (Z : State) (a0 : Array Value) (hw : ∀ d ∈ tables_1, d.before a0 Z = true) (cs : Int32) (c0 c1 c2 : Int32) (a1 : Addr) (a2 : Addr) (h0 : Heap) (O0 : Ext Z.heap h0) (S_cs : Sta Z Z.heap "java/lang/String" "COMPACT_STRINGS" "Z" (.int cs)) (hcs : ¬ cs = 0) (E1 : Exa Z h0 a1 "java/lang/String") (F1 : Fld Z h0 a1 "java/lang/String" "value" "[B" .null) (F2 : Fld Z h0 a1 "java/lang/String" "coder" "B" (.int (0 : Int32))) (Y2 : Ary Z h0 a2 .char [(.int c0), (.int c1), (.int c2)]) (ne : a1 ≠ a2) (fr1 : Z.heap.size ≤ a1) (hc0 : ¬ (255 : Int32) < c0) (hc1 : ¬ (255 : Int32) < c1) (hc2 : ¬ (255 : Int32) < c2) :
    Ctr l Z (⟨"java/lang/String", "<init>", "([CIILjava/lang/Void;)V"⟩ : MethodName) jdk_42_method_149_code 6 none [] ({ frames := 2, cells := 1, slots := 3, locals := 36 } : Room) #[(.ref a1), (.ref a2), (.int (0 : Int32)), (.int (3 : Int32)), .null] h0 (fun v h L => v = none ∧ Fr Z.heap.size L ∧ Keep h0 h [a1] ∧ ∃ u, h0.size ≤ u ∧ Fld Z h a1 "java/lang/String" "value" "[B" (.ref u) ∧ Fld Z h a1 "java/lang/String" "coder" "B" (.int (0 : Int32)) ∧ Ary Z h u .byte [(.int (c0.toInt8.toInt32)), (.int (c1.toInt8.toInt32)), (.int (c2.toInt8.toInt32))]) := by
  refine ctr (plainFor_of_name pn_4) ?_
  intro p e s m below meth c s₁ hx hby hml hown hnm hret hlocks hZ X0 e0
  have N0 := Fr.nil Z.heap.size
  have hsz : ∀ {Ls : Array Slot}, Ls.size = 6 → Ls.size = c.maxLocals := fun q => q.trans hml.symm
  have K0 := Keep.refl h0 [a1]
  refine goE (ef_rmSd3 m (a1) (a2) ((0 : Int32)) ((3 : Int32))) ?_
  show Goes p e below _ (s₁.setTop (mkF m 0 #[.val (.ref a1), .val (.ref a2), .val (.int (0 : Int32)), .val (.int (3 : Int32)), .val .null, .unset] []))
  refine gAloadN X0 hx (hb hby d_jdk_42_method_149_0) rfl rfl ?_
  obtain ⟨Tt1, Xt1, et1, stt1⟩ := initO X0 hx hZ hown (hw _ (List.mem_of_getElem? (i := 13) rfl)) (hw _ (List.mem_of_getElem? (i := 14) rfl)) (hw _ (List.mem_of_getElem? (i := 15) rfl)) e0 (g := (mkF m 1 #[.val (.ref a1), .val (.ref a2), .val (.int (0 : Int32)), .val (.int (3 : Int32)), .val .null, .unset] [(.ref a1)])) rfl (by rw [hml]; rfl) rfl (hb hby d_jdk_42_method_149_1) (by decide) (W := 0) (Nat.le_of_eq rfl) (by decide)
  refine go stt1 ?_
  show Goes p e below _ (Tt1.setTop (mkF m 4 #[.val (.ref a1), .val (.ref a2), .val (.int (0 : Int32)), .val (.int (3 : Int32)), .val .null, .unset] []))
  refine gIloadN Xt1 hx (hb hby d_jdk_42_method_149_4) rfl ?_
  refine gIfY Xt1 hx (hb hby d_jdk_42_method_149_5) (pc' := 27) (XT.i0_ne_t (by decide)) (by decide) (by decide) ?_
  show Goes p e below _ (Tt1.setTop (mkF m 27 #[.val (.ref a1), .val (.ref a2), .val (.int (0 : Int32)), .val (.int (3 : Int32)), .val .null, .unset] []))
  obtain ⟨Tt2, Xt2, et2, stt2⟩ := getS2 Xt1 hx hZ hown (host := "") (Or.inl (hw _ (List.mem_of_getElem? (i := 16) rfl))) Via.refl et1 (S_cs.ext O0) (g := (mkF m 27 #[.val (.ref a1), .val (.ref a2), .val (.int (0 : Int32)), .val (.int (3 : Int32)), .val .null, .unset] [])) rfl (hb hby d_jdk_42_method_149_27)
  refine go stt2 ?_
  show Goes p e below _ (Tt2.setTop (mkF m 30 #[.val (.ref a1), .val (.ref a2), .val (.int (0 : Int32)), .val (.int (3 : Int32)), .val .null, .unset] [(.int cs)]))
  refine gIfN Xt2 hx (hb hby d_jdk_42_method_149_30) (XT.i0_eq_f hcs) ?_
  show Goes p e below _ (Tt2.setTop (mkF m 33 #[.val (.ref a1), .val (.ref a2), .val (.int (0 : Int32)), .val (.int (3 : Int32)), .val .null, .unset] []))
  refine gAloadN Xt2 hx (hb hby d_jdk_42_method_149_33) rfl rfl ?_
  refine gIloadN Xt2 hx (hb hby d_jdk_42_method_149_34) rfl ?_
  refine gIloadN Xt2 hx (hb hby d_jdk_42_method_149_35) rfl ?_
  have lt_a1_t3 := E1.lt
  have lt_a2_t3 := Y2.lt
  refine goCallS Xt2 hx hZ hown (hw _ (List.mem_of_getElem? (i := 17) rfl)) (hw _ (List.mem_of_getElem? (i := 18) rfl)) (hw _ (List.mem_of_getElem? (i := 19) rfl)) (hw _ (List.mem_of_getElem? (i := 20) rfl)) (by decide) (rmSb3 l Z a0 hw c0 c1 c2 a2 h0 O0 Y2 hc0 hc1 hc2) 0 (by decide) (by decide) et2 (hsz rfl) [(.ref a2), (.int (0 : Int32)), (.int (3 : Int32))] [] pd_20 rfl rfl rfl (Nat.le_of_eq rfl) (hb hby d_jdk_42_method_149_36) (by decide) (by decide) (fun Tt3 vt3 Lt3 Xt3 qt3 => ?_)
  obtain ⟨ht3, et3⟩ : ∃ z, Tt3.heap = z := ⟨_, rfl⟩
  rw [et3] at qt3
  obtain ⟨u, rfl, N4, Kct3, pu, Yu⟩ := qt3
  have N5 := Fr.app N0 N4
  replace E1 := E1.keep Kct3
  replace F1 := F1.keep Kct3 nin0
  replace F2 := F2.keep Kct3 nin0
  replace Y2 := Y2.keep Kct3 nin0
  have O6 : Ext Z.heap ht3 := extK O0 Kct3 all0
  have K7 := K0.trans Kct3 all0
  have ne_a1_u : a1 ≠ u := Nat.ne_of_lt (Nat.lt_of_lt_of_le lt_a1_t3 pu)
  have ne_a2_u : a2 ≠ u := Nat.ne_of_lt (Nat.lt_of_lt_of_le lt_a2_t3 pu)
  have fr_u : Z.heap.size ≤ u := Nat.le_trans O0.1 pu
  have pa_u : h0.size ≤ u := Nat.le_trans K0.1 pu
  show Goes p e below _ (Tt3.setTop (mkF m 39 #[.val (.ref a1), .val (.ref a2), .val (.int (0 : Int32)), .val (.int (3 : Int32)), .val .null, .unset] [(.ref u)]))
  refine gAstore Xt3 hx (hb hby d_jdk_42_method_149_39) rfl (l' := #[.val (.ref a1), .val (.ref a2), .val (.int (0 : Int32)), .val (.int (3 : Int32)), .val .null, .val (.ref u)]) rfl ?_
  refine gAloadN Xt3 hx (hb hby d_jdk_42_method_149_41) rfl rfl ?_
  refine gAload Xt3 hx (hb hby d_jdk_42_method_149_42) rfl rfl ?_
  refine gIloadN Xt3 hx (hb hby d_jdk_42_method_149_44) rfl ?_
  refine goCallS Xt3 hx hZ hown (hw _ (List.mem_of_getElem? (i := 25) rfl)) (hw _ (List.mem_of_getElem? (i := 26) rfl)) (hw _ (List.mem_of_getElem? (i := 19) rfl)) (hw _ (List.mem_of_getElem? (i := 27) rfl)) (by decide) (rmSc3 l Z a0 hw c0 c1 c2 u ht3 O6 Yu) 1 (by decide) (by decide) et3 (hsz rfl) [(.ref u), (.int (3 : Int32))] [(.ref a1)] pd_21 rfl rfl rfl (Nat.le_of_eq rfl) (hb hby d_jdk_42_method_149_45) (by decide) (by decide) (fun Tt8 vt8 Lt8 Xt8 qt8 => ?_)
  obtain ⟨rfl, N9, et8⟩ := qt8
  have N10 := Fr.app N5 N9
  show Goes p e below _ (Tt8.setTop (mkF m 48 #[.val (.ref a1), .val (.ref a2), .val (.int (0 : Int32)), .val (.int (3 : Int32)), .val .null, .val (.ref u)] [(.int (0 : Int32)), (.ref a1)]))
  obtain ⟨Tt11, ht11, Xt11, et11, Wt11, stt11⟩ := putF Xt8 hx hZ hown (host := "") (Or.inl (hw _ (List.mem_of_getElem? (i := 28) rfl))) Via.refl et8 F2 E1 (Or.inr ⟨(hw _ (List.mem_of_getElem? (i := 29) rfl)), rfl, hnm⟩) (hw _ (List.mem_of_getElem? (i := 3) rfl)) (ty := .byte) (by decide) rfl rfl (g := (mkF m 48 #[.val (.ref a1), .val (.ref a2), .val (.int (0 : Int32)), .val (.int (3 : Int32)), .val .null, .val (.ref u)] [(.int (0 : Int32)), (.ref a1)])) rfl rfl (hb hby d_jdk_42_method_149_48)
  refine go stt11 ?_
  have N12 := Fr.snoc Xt11 N10 fr1
  replace F2 := F2.same Wt11
  replace E1 := E1.wr Wt11
  replace F1 := F1.other Wt11 (Or.inr (slot_ne (Or.inr (hw _ (List.mem_of_getElem? (i := 31) rfl))) (Or.inr (hw _ (List.mem_of_getElem? (i := 29) rfl))) (by decide) (t := (.array .byte)) (by decide) (t' := .byte) (by decide)))
  replace Y2 := Y2.other Wt11 (Ne.symm ne)
  replace Yu := Yu.other Wt11 (Ne.symm ne_a1_u)
  have O13 : Ext Z.heap ht11 := extW O6 Wt11 fr1
  have K14 := K7.wr Wt11 (Or.inl (by simp))
  show Goes p e below _ (Tt11.setTop (mkF m 51 #[.val (.ref a1), .val (.ref a2), .val (.int (0 : Int32)), .val (.int (3 : Int32)), .val .null, .val (.ref u)] []))
  refine gAloadN Xt11 hx (hb hby d_jdk_42_method_149_51) rfl rfl ?_
  refine gAload Xt11 hx (hb hby d_jdk_42_method_149_52) rfl rfl ?_
  obtain ⟨Tt15, ht15, Xt15, et15, Wt15, stt15⟩ := putF Xt11 hx hZ hown (host := "") (Or.inl (hw _ (List.mem_of_getElem? (i := 30) rfl))) Via.refl et11 F1 E1 (Or.inr ⟨(hw _ (List.mem_of_getElem? (i := 31) rfl)), rfl, hnm⟩) (hw _ (List.mem_of_getElem? (i := 3) rfl)) (ty := (.array .byte)) (by decide) rfl rfl (g := (mkF m 54 #[.val (.ref a1), .val (.ref a2), .val (.int (0 : Int32)), .val (.int (3 : Int32)), .val .null, .val (.ref u)] [(.ref u), (.ref a1)])) rfl rfl (hb hby d_jdk_42_method_149_54)
  refine go stt15 ?_
  have N16 := Fr.snoc Xt15 N12 fr1
  replace F1 := F1.same Wt15
  replace E1 := E1.wr Wt15
  replace F2 := F2.other Wt15 (Or.inr (slot_ne (Or.inr (hw _ (List.mem_of_getElem? (i := 29) rfl))) (Or.inr (hw _ (List.mem_of_getElem? (i := 31) rfl))) (by decide) (t := .byte) (by decide) (t' := (.array .byte)) (by decide)))
  replace Y2 := Y2.other Wt15 (Ne.symm ne)
  replace Yu := Yu.other Wt15 (Ne.symm ne_a1_u)
  have O17 : Ext Z.heap ht15 := extW O13 Wt15 fr1
  have K18 := K14.wr Wt15 (Or.inl (by simp))
  show Goes p e below _ (Tt15.setTop (mkF m 57 #[.val (.ref a1), .val (.ref a2), .val (.int (0 : Int32)), .val (.int (3 : Int32)), .val .null, .val (.ref u)] []))
  exact goRet0 Xt15 hx hret hlocks (hb hby d_jdk_42_method_149_57) (by decide) (by decide) et15 (⟨rfl, N16, K18, u, pa_u, F1, F2, Yu⟩)
theorem ef_rmS3 (m : MethodId) (x0 : Addr) (x1 : Addr) : entryFrame m #[(.ref x0), (.ref x1)] 2 = mkF m 0 #[.val (.ref x0), .val (.ref x1)] [] := by first | (simp [entryFrame, mkF, argsToLocals, Value.category]; done) | rfl
set_option maxRecDepth 65536 in
set_option maxHeartbeats 40000000 in
theorem rmS3 (l : Launch) (Z : State) (a0 : Array Value) (hw : ∀ d ∈ tables_1, d.before a0 Z = true) (cs : Int32) (c0 c1 c2 : Int32) (a1 : Addr) (a2 : Addr) (h0 : Heap) (O0 : Ext Z.heap h0) (S_cs : Sta Z Z.heap "java/lang/String" "COMPACT_STRINGS" "Z" (.int cs)) (hcs : ¬ cs = 0) (E1 : Exa Z h0 a1 "java/lang/String") (F1 : Fld Z h0 a1 "java/lang/String" "value" "[B" .null) (F2 : Fld Z h0 a1 "java/lang/String" "coder" "B" (.int (0 : Int32))) (Y2 : Ary Z h0 a2 .char [(.int c0), (.int c1), (.int c2)]) (ne : a1 ≠ a2) (fr1 : Z.heap.size ≤ a1) (hc0 : ¬ (255 : Int32) < c0) (hc1 : ¬ (255 : Int32) < c1) (hc2 : ¬ (255 : Int32) < c2) :
    Ctr l Z (⟨"java/lang/String", "<init>", "([C)V"⟩ : MethodName) jdk_42_method_3_code 2 none [] ({ frames := 3, cells := 1, slots := 3, locals := 53 } : Room) #[(.ref a1), (.ref a2)] h0 (fun v h L => v = none ∧ Fr Z.heap.size L ∧ Keep h0 h [a1] ∧ ∃ u, h0.size ≤ u ∧ Fld Z h a1 "java/lang/String" "value" "[B" (.ref u) ∧ Fld Z h a1 "java/lang/String" "coder" "B" (.int (0 : Int32)) ∧ Ary Z h u .byte [(.int (c0.toInt8.toInt32)), (.int (c1.toInt8.toInt32)), (.int (c2.toInt8.toInt32))]) := by
  refine ctr (plainFor_of_name pn_4) ?_
  intro p e s m below meth c s₁ hx hby hml hown hnm hret hlocks hZ X0 e0
  have N0 := Fr.nil Z.heap.size
  have hsz : ∀ {Ls : Array Slot}, Ls.size = 2 → Ls.size = c.maxLocals := fun q => q.trans hml.symm
  have K0 := Keep.refl h0 [a1]
  refine goE (ef_rmS3 m (a1) (a2)) ?_
  show Goes p e below _ (s₁.setTop (mkF m 0 #[.val (.ref a1), .val (.ref a2)] []))
  refine gAloadN X0 hx (hb hby d_jdk_42_method_3_0) rfl rfl ?_
  refine gAloadN X0 hx (hb hby d_jdk_42_method_3_1) rfl rfl ?_
  refine gIconst X0 hx (hb hby d_jdk_42_method_3_2) (v := (0 : Int32)) rfl ?_
  refine gAloadN X0 hx (hb hby d_jdk_42_method_3_3) rfl rfl ?_
  refine goAlen X0 hx hZ e0 Y2 (n := (3 : Int32)) (hb hby d_jdk_42_method_3_4) rfl ?_
  refine gAnull X0 hx (hb hby d_jdk_42_method_3_5) ?_
  have lt_a1_t1 := E1.lt
  have lt_a2_t1 := Y2.lt
  refine goCallI X0 hx hZ rfl hown (hw _ (List.mem_of_getElem? (i := 9) rfl)) (hw _ (List.mem_of_getElem? (i := 10) rfl)) (hw _ (List.mem_of_getElem? (i := 4) rfl)) (hw _ (List.mem_of_getElem? (i := 12) rfl)) (by decide) (rmSd3 l Z a0 hw cs c0 c1 c2 a1 a2 h0 O0 S_cs hcs E1 F1 F2 Y2 ne fr1 hc0 hc1 hc2) 0 (by decide) (by decide) e0 (hsz rfl) a1 [(.ref a2), (.int (0 : Int32)), (.int (3 : Int32)), .null] [] pd_22 rfl rfl rfl (Nat.le_of_eq rfl) (hb hby d_jdk_42_method_3_6) (by decide) (by decide) (fun Tt1 vt1 Lt1 Xt1 qt1 => ?_)
  obtain ⟨ht1, et1⟩ : ∃ z, Tt1.heap = z := ⟨_, rfl⟩
  rw [et1] at qt1
  obtain ⟨rfl, N2, Kct1, u, pu, Gv, Gc, Yu⟩ := qt1
  have N3 := Fr.app N0 N2
  replace E1 := E1.keep Kct1
  replace Y2 := Y2.keep Kct1 (ninS (Ne.symm ne) nin0)
  have O4 : Ext Z.heap ht1 := extK O0 Kct1 (allS fr1 all0)
  have K5 := K0.trans Kct1 (allS (Or.inl (by simp)) all0)
  have ne_a1_u : a1 ≠ u := Nat.ne_of_lt (Nat.lt_of_lt_of_le lt_a1_t1 pu)
  have ne_a2_u : a2 ≠ u := Nat.ne_of_lt (Nat.lt_of_lt_of_le lt_a2_t1 pu)
  have fr_u : Z.heap.size ≤ u := Nat.le_trans O0.1 pu
  have pa_u : h0.size ≤ u := Nat.le_trans K0.1 pu
  show Goes p e below _ (Tt1.setTop (mkF m 9 #[.val (.ref a1), .val (.ref a2)] []))
  exact goRet0 Xt1 hx hret hlocks (hb hby d_jdk_42_method_3_9) (by decide) (by decide) et1 (⟨rfl, N3, K5, u, pu, Gv, Gc, Yu⟩)
theorem d_jdk_43_method_3_0 : decode jdk_43_method_3_code 0 = .ok (.iload_n 0, 1) := by decide +kernel
theorem d_jdk_43_method_3_1 : decode jdk_43_method_3_code 1 = .ok (.sipush 255, 3) := by decide +kernel
theorem d_jdk_43_method_3_4 : decode jdk_43_method_3_code 4 = .ok (.if_icmp .gt 7, 3) := by decide +kernel
theorem d_jdk_43_method_3_7 : decode jdk_43_method_3_code 7 = .ok (.iconst 1, 1) := by decide +kernel
theorem d_jdk_43_method_3_8 : decode jdk_43_method_3_code 8 = .ok (.goto 4, 3) := by decide +kernel
theorem d_jdk_43_method_3_12 : decode jdk_43_method_3_code 12 = .ok (.ireturn, 1) := by decide +kernel
theorem pn_7 : plainName "java/lang/StringLatin1" = true := by first | (simp [plainName, overriddenIn]; done) | decide +kernel
theorem ef_rmVe (m : MethodId) (x0 : Int32) : entryFrame m #[(.int x0)] 1 = mkF m 0 #[.val (.int x0)] [] := by first | (simp [entryFrame, mkF, argsToLocals, Value.category]; done) | rfl
set_option maxRecDepth 65536 in
set_option maxHeartbeats 40000000 in
theorem rmVe (l : Launch) (Z : State) (a0 : Array Value) (hw : ∀ d ∈ tables_1, d.before a0 Z = true)  (c0 : Int32) (h0 : Heap) (O0 : Ext Z.heap h0) (hc0 : ¬ (255 : Int32) < c0) :
    Ctr l Z (⟨"java/lang/StringLatin1", "canEncode", "(C)Z"⟩ : MethodName) jdk_43_method_3_code 1 (some .boolean) [] ({ frames := 0, cells := 0, slots := 0, locals := 0 } : Room) #[(.int c0)] h0 (fun v h L => v = some (.int 1) ∧ Fr Z.heap.size L ∧ h = h0) := by
  refine ctr (plainFor_of_name pn_7) ?_
  intro p e s m below meth c s₁ hx hby hml hown hnm hret hlocks hZ X0 e0
  have N0 := Fr.nil Z.heap.size
  have hsz : ∀ {Ls : Array Slot}, Ls.size = 1 → Ls.size = c.maxLocals := fun q => q.trans hml.symm
  refine goE (ef_rmVe m (c0)) ?_
  show Goes p e below _ (s₁.setTop (mkF m 0 #[.val (.int c0)] []))
  refine gIloadN X0 hx (hb hby d_jdk_43_method_3_0) rfl ?_
  refine gSipush X0 hx (hb hby d_jdk_43_method_3_1) (v := (255 : Int32)) rfl ?_
  refine gIcmpN X0 hx (hb hby d_jdk_43_method_3_4) (XT.ii_gt_f hc0) ?_
  show Goes p e below _ (s₁.setTop (mkF m 7 #[.val (.int c0)] []))
  refine gIconst X0 hx (hb hby d_jdk_43_method_3_7) (v := (1 : Int32)) rfl ?_
  refine gGoto X0 hx (hb hby d_jdk_43_method_3_8) (pc' := 12) (by decide) (by decide) ?_
  show Goes p e below _ (s₁.setTop (mkF m 12 #[.val (.int c0)] [(.int (1 : Int32))]))
  exact goRetN X0 hx (t := .boolean) hret hlocks (by simp) (hb hby d_jdk_43_method_3_12) (z' := (1 : Int32)) rfl (by decide) (by decide) e0 (⟨rfl, N0, rfl⟩)
theorem d_jdk_43_method_46_0 : decode jdk_43_method_46_code 0 = .ok (.iconst 1, 1) := by decide +kernel
theorem d_jdk_43_method_46_1 : decode jdk_43_method_46_code 1 = .ok (.newarray .byte, 2) := by decide +kernel
theorem d_jdk_43_method_46_3 : decode jdk_43_method_46_code 3 = .ok (.dup, 1) := by decide +kernel
theorem d_jdk_43_method_46_4 : decode jdk_43_method_46_code 4 = .ok (.iconst 0, 1) := by decide +kernel
theorem d_jdk_43_method_46_5 : decode jdk_43_method_46_code 5 = .ok (.iload_n 0, 1) := by decide +kernel
theorem d_jdk_43_method_46_6 : decode jdk_43_method_46_code 6 = .ok (.i2b, 1) := by decide +kernel
theorem d_jdk_43_method_46_7 : decode jdk_43_method_46_code 7 = .ok (.bastore, 1) := by decide +kernel
theorem d_jdk_43_method_46_8 : decode jdk_43_method_46_code 8 = .ok (.areturn, 1) := by decide +kernel
theorem ef_rmVb (m : MethodId) (x0 : Int32) : entryFrame m #[(.int x0)] 1 = mkF m 0 #[.val (.int x0)] [] := by first | (simp [entryFrame, mkF, argsToLocals, Value.category]; done) | rfl
set_option maxRecDepth 65536 in
set_option maxHeartbeats 40000000 in
theorem rmVb (l : Launch) (Z : State) (a0 : Array Value) (hw : ∀ d ∈ tables_1, d.before a0 Z = true)  (c0 : Int32) (h0 : Heap) (O0 : Ext Z.heap h0)  :
    Ctr l Z (⟨"java/lang/StringLatin1", "toBytes", "(C)[B"⟩ : MethodName) jdk_43_method_46_code 1 (some (.array .byte)) [] ({ frames := 0, cells := 1, slots := 1, locals := 0 } : Room) #[(.int c0)] h0 (fun v h L => ∃ u, v = some (.ref u) ∧ Fr Z.heap.size L ∧ Keep h0 h [] ∧ h0.size ≤ u ∧ Ary Z h u .byte [(.int (c0.toInt8.toInt32))]) := by
  refine ctr (plainFor_of_name pn_7) ?_
  intro p e s m below meth c s₁ hx hby hml hown hnm hret hlocks hZ X0 e0
  have N0 := Fr.nil Z.heap.size
  have hsz : ∀ {Ls : Array Slot}, Ls.size = 1 → Ls.size = c.maxLocals := fun q => q.trans hml.symm
  have K0 := Keep.refl h0 []
  refine goE (ef_rmVb m (c0)) ?_
  show Goes p e below _ (s₁.setTop (mkF m 0 #[.val (.int c0)] []))
  refine gIconst X0 hx (hb hby d_jdk_43_method_46_0) (v := (1 : Int32)) rfl ?_
  obtain ⟨Tt1, ht1, kt1, Xt1, et1, Et1, At1, stt1⟩ := newP X0 hx hZ (hw _ (List.mem_of_getElem? (i := 21) rfl)) e0 (g := (mkF m 1 #[.val (.int c0)] [(.int (1 : Int32))])) rfl (hb hby d_jdk_43_method_46_1) rfl (by decide) (cap := 1) (by decide) (by decide) (by decide) (by decide)
  obtain ⟨ob2, gob2⟩ : ∃ z, z = h0.size := ⟨_, rfl⟩
  rw [← gob2] at At1 stt1
  refine go stt1 ?_
  have fr_ob2 : Z.heap.size ≤ ob2 := gob2 ▸ O0.1
  have pa_ob2 : h0.size ≤ ob2 := gob2 ▸ K0.1
  have O3 : Ext Z.heap ht1 := extT O0 Et1
  have K4 := K0.ext Et1
  have Y_ob2 : Ary Z ht1 ob2 .byte [(.int (0 : Int32))] := Ary.new At1 rfl (by decide)
  show Goes p e below _ (Tt1.setTop (mkF m 3 #[.val (.int c0)] [(.ref ob2)]))
  refine gDup Xt1 hx (hb hby d_jdk_43_method_46_3) rfl ?_
  refine gIconst Xt1 hx (hb hby d_jdk_43_method_46_4) (v := (0 : Int32)) rfl ?_
  refine gIloadN Xt1 hx (hb hby d_jdk_43_method_46_5) rfl ?_
  refine gI2b Xt1 hx (hb hby d_jdk_43_method_46_6) ?_
  refine goBastore Xt1 hx hZ et1 Y_ob2 (hb hby d_jdk_43_method_46_7) (by decide) rfl (fun Tt5 ht5 Xt5 et5 Wt5 => ?_)
  have N6 := Fr.snoc Xt5 N0 fr_ob2
  replace Y_ob2 : Ary Z ht5 ob2 .byte [(.int (c0.toInt8.toInt32))] := Y_ob2.set Wt5 (by rw [narb]; rfl)
  have O7 : Ext Z.heap ht5 := extW O3 Wt5 fr_ob2
  have K8 := K4.wr Wt5 (Or.inr pa_ob2)
  show Goes p e below _ (Tt5.setTop (mkF m 8 #[.val (.int c0)] [(.ref ob2)]))
  exact goRetA Xt5 hx hret hlocks rfl rfl (hb hby d_jdk_43_method_46_8) (by decide) (by decide) et5 (⟨ob2, rfl, N6, K8, pa_ob2, Y_ob2⟩)
theorem d_jdk_42_method_151_0 : decode jdk_42_method_151_code 0 = .ok (.aload_n 0, 1) := by decide +kernel
theorem d_jdk_42_method_151_1 : decode jdk_42_method_151_code 1 = .ok (.invokespecial 1, 3) := by decide +kernel
theorem d_jdk_42_method_151_4 : decode jdk_42_method_151_code 4 = .ok (.aload_n 0, 1) := by decide +kernel
theorem d_jdk_42_method_151_5 : decode jdk_42_method_151_code 5 = .ok (.aload_n 1, 1) := by decide +kernel
theorem d_jdk_42_method_151_6 : decode jdk_42_method_151_code 6 = .ok (.putfield 9, 3) := by decide +kernel
theorem d_jdk_42_method_151_9 : decode jdk_42_method_151_code 9 = .ok (.aload_n 0, 1) := by decide +kernel
theorem d_jdk_42_method_151_10 : decode jdk_42_method_151_code 10 = .ok (.iload_n 2, 1) := by decide +kernel
theorem d_jdk_42_method_151_11 : decode jdk_42_method_151_code 11 = .ok (.putfield 15, 3) := by decide +kernel
theorem d_jdk_42_method_151_14 : decode jdk_42_method_151_code 14 = .ok (.return_, 1) := by decide +kernel
theorem ef_rmVi (m : MethodId) (x0 : Addr) (x1 : Addr) (x2 : Int32) : entryFrame m #[(.ref x0), (.ref x1), (.int x2)] 3 = mkF m 0 #[.val (.ref x0), .val (.ref x1), .val (.int x2)] [] := by first | (simp [entryFrame, mkF, argsToLocals, Value.category]; done) | rfl
set_option maxRecDepth 65536 in
set_option maxHeartbeats 40000000 in
theorem rmVi (l : Launch) (Z : State) (a0 : Array Value) (hw : ∀ d ∈ tables_1, d.before a0 Z = true)  (a1 : Addr) (a2 : Addr) (h0 : Heap) (O0 : Ext Z.heap h0) (E1 : Exa Z h0 a1 "java/lang/String") (F1 : Fld Z h0 a1 "java/lang/String" "value" "[B" .null) (F2 : Fld Z h0 a1 "java/lang/String" "coder" "B" (.int (0 : Int32))) (fr1 : Z.heap.size ≤ a1) :
    Ctr l Z (⟨"java/lang/String", "<init>", "([BB)V"⟩ : MethodName) jdk_42_method_151_code 3 none [] ({ frames := 1, cells := 0, slots := 0, locals := 12 } : Room) #[(.ref a1), (.ref a2), (.int (0 : Int32))] h0 (fun v h L => v = none ∧ Fr Z.heap.size L ∧ Keep h0 h [a1] ∧ Fld Z h a1 "java/lang/String" "value" "[B" (.ref a2) ∧ Fld Z h a1 "java/lang/String" "coder" "B" (.int (0 : Int32))) := by
  refine ctr (plainFor_of_name pn_4) ?_
  intro p e s m below meth c s₁ hx hby hml hown hnm hret hlocks hZ X0 e0
  have N0 := Fr.nil Z.heap.size
  have hsz : ∀ {Ls : Array Slot}, Ls.size = 3 → Ls.size = c.maxLocals := fun q => q.trans hml.symm
  have K0 := Keep.refl h0 [a1]
  refine goE (ef_rmVi m (a1) (a2) ((0 : Int32))) ?_
  show Goes p e below _ (s₁.setTop (mkF m 0 #[.val (.ref a1), .val (.ref a2), .val (.int (0 : Int32))] []))
  refine gAloadN X0 hx (hb hby d_jdk_42_method_151_0) rfl rfl ?_
  obtain ⟨Tt1, Xt1, et1, stt1⟩ := initO X0 hx hZ hown (hw _ (List.mem_of_getElem? (i := 13) rfl)) (hw _ (List.mem_of_getElem? (i := 14) rfl)) (hw _ (List.mem_of_getElem? (i := 15) rfl)) e0 (g := (mkF m 1 #[.val (.ref a1), .val (.ref a2), .val (.int (0 : Int32))] [(.ref a1)])) rfl (by rw [hml]; rfl) rfl (hb hby d_jdk_42_method_151_1) (by decide) (W := 0) (Nat.le_of_eq rfl) (by decide)
  refine go stt1 ?_
  show Goes p e below _ (Tt1.setTop (mkF m 4 #[.val (.ref a1), .val (.ref a2), .val (.int (0 : Int32))] []))
  refine gAloadN Xt1 hx (hb hby d_jdk_42_method_151_4) rfl rfl ?_
  refine gAloadN Xt1 hx (hb hby d_jdk_42_method_151_5) rfl rfl ?_
  obtain ⟨Tt2, ht2, Xt2, et2, Wt2, stt2⟩ := putF Xt1 hx hZ hown (host := "") (Or.inl (hw _ (List.mem_of_getElem? (i := 30) rfl))) Via.refl et1 F1 E1 (Or.inr ⟨(hw _ (List.mem_of_getElem? (i := 31) rfl)), rfl, hnm⟩) (hw _ (List.mem_of_getElem? (i := 3) rfl)) (ty := (.array .byte)) (by decide) rfl rfl (g := (mkF m 6 #[.val (.ref a1), .val (.ref a2), .val (.int (0 : Int32))] [(.ref a2), (.ref a1)])) rfl rfl (hb hby d_jdk_42_method_151_6)
  refine go stt2 ?_
  have N3 := Fr.snoc Xt2 N0 fr1
  replace F1 := F1.same Wt2
  replace E1 := E1.wr Wt2
  replace F2 := F2.other Wt2 (Or.inr (slot_ne (Or.inr (hw _ (List.mem_of_getElem? (i := 29) rfl))) (Or.inr (hw _ (List.mem_of_getElem? (i := 31) rfl))) (by decide) (t := .byte) (by decide) (t' := (.array .byte)) (by decide)))
  have O4 : Ext Z.heap ht2 := extW O0 Wt2 fr1
  have K5 := K0.wr Wt2 (Or.inl (by simp))
  show Goes p e below _ (Tt2.setTop (mkF m 9 #[.val (.ref a1), .val (.ref a2), .val (.int (0 : Int32))] []))
  refine gAloadN Xt2 hx (hb hby d_jdk_42_method_151_9) rfl rfl ?_
  refine gIloadN Xt2 hx (hb hby d_jdk_42_method_151_10) rfl ?_
  obtain ⟨Tt6, ht6, Xt6, et6, Wt6, stt6⟩ := putF Xt2 hx hZ hown (host := "") (Or.inl (hw _ (List.mem_of_getElem? (i := 28) rfl))) Via.refl et2 F2 E1 (Or.inr ⟨(hw _ (List.mem_of_getElem? (i := 29) rfl)), rfl, hnm⟩) (hw _ (List.mem_of_getElem? (i := 3) rfl)) (ty := .byte) (by decide) rfl rfl (g := (mkF m 11 #[.val (.ref a1), .val (.ref a2), .val (.int (0 : Int32))] [(.int (0 : Int32)), (.ref a1)])) rfl rfl (hb hby d_jdk_42_method_151_11)
  refine go stt6 ?_
  have N7 := Fr.snoc Xt6 N3 fr1
  replace F2 := F2.same Wt6
  replace E1 := E1.wr Wt6
  replace F1 := F1.other Wt6 (Or.inr (slot_ne (Or.inr (hw _ (List.mem_of_getElem? (i := 31) rfl))) (Or.inr (hw _ (List.mem_of_getElem? (i := 29) rfl))) (by decide) (t := (.array .byte)) (by decide) (t' := .byte) (by decide)))
  have O8 : Ext Z.heap ht6 := extW O4 Wt6 fr1
  have K9 := K5.wr Wt6 (Or.inl (by simp))
  show Goes p e below _ (Tt6.setTop (mkF m 14 #[.val (.ref a1), .val (.ref a2), .val (.int (0 : Int32))] []))
  exact goRet0 Xt6 hx hret hlocks (hb hby d_jdk_42_method_151_14) (by decide) (by decide) et6 (⟨rfl, N7, K9, F1, F2⟩)
theorem d_jdk_42_method_139_0 : decode jdk_42_method_139_code 0 = .ok (.getstatic 38, 3) := by decide +kernel
theorem d_jdk_42_method_139_3 : decode jdk_42_method_139_code 3 = .ok (.ifCond .eq 23, 3) := by decide +kernel
theorem d_jdk_42_method_139_6 : decode jdk_42_method_139_code 6 = .ok (.iload_n 0, 1) := by decide +kernel
theorem pd_23 : parseMethodDescriptor "(C)Z" = some ⟨[.char], some .boolean⟩ := by decide +kernel
theorem d_jdk_42_method_139_7 : decode jdk_42_method_139_code 7 = .ok (.invokestatic 1015, 3) := by decide +kernel
theorem d_jdk_42_method_139_10 : decode jdk_42_method_139_code 10 = .ok (.ifCond .eq 16, 3) := by decide +kernel
theorem d_jdk_42_method_139_13 : decode jdk_42_method_139_code 13 = .ok (.new 10, 3) := by decide +kernel
theorem d_jdk_42_method_139_16 : decode jdk_42_method_139_code 16 = .ok (.dup, 1) := by decide +kernel
theorem d_jdk_42_method_139_17 : decode jdk_42_method_139_code 17 = .ok (.iload_n 0, 1) := by decide +kernel
theorem pd_24 : parseMethodDescriptor "(C)[B" = some ⟨[.char], some (.array .byte)⟩ := by decide +kernel
theorem d_jdk_42_method_139_18 : decode jdk_42_method_139_code 18 = .ok (.invokestatic 1018, 3) := by decide +kernel
theorem d_jdk_42_method_139_21 : decode jdk_42_method_139_code 21 = .ok (.iconst 0, 1) := by decide +kernel
theorem pd_25 : parseMethodDescriptor "([BB)V" = some ⟨[(.array .byte), .byte], none⟩ := by decide +kernel
theorem d_jdk_42_method_139_22 : decode jdk_42_method_139_code 22 = .ok (.invokespecial 209, 3) := by decide +kernel
theorem d_jdk_42_method_139_25 : decode jdk_42_method_139_code 25 = .ok (.areturn, 1) := by decide +kernel
theorem ef_rmV (m : MethodId) (x0 : Int32) : entryFrame m #[(.int x0)] 1 = mkF m 0 #[.val (.int x0)] [] := by first | (simp [entryFrame, mkF, argsToLocals, Value.category]; done) | rfl
set_option maxRecDepth 65536 in
set_option maxHeartbeats 40000000 in
theorem rmV (l : Launch) (Z : State) (a0 : Array Value) (hw : ∀ d ∈ tables_1, d.before a0 Z = true) (cs : Int32) (c0 : Int32) (h0 : Heap) (O0 : Ext Z.heap h0) (S_cs : Sta Z Z.heap "java/lang/String" "COMPACT_STRINGS" "Z" (.int cs)) (hcs : ¬ cs = 0) (hc0 : ¬ (255 : Int32) < c0) :
    Ctr l Z (⟨"java/lang/String", "valueOf", "(C)Ljava/lang/String;"⟩ : MethodName) jdk_42_method_139_code 1 (some (.object "java/lang/String")) [] ({ frames := 2, cells := 2, slots := 5, locals := 29 } : Room) #[(.int c0)] h0 (fun v h L => ∃ b, v = some (.ref b) ∧ Fr Z.heap.size L ∧ Keep h0 h [] ∧ h0.size ≤ b ∧ Exa Z h b "java/lang/String" ∧ ∃ u, h0.size ≤ u ∧ Fld Z h b "java/lang/String" "value" "[B" (.ref u) ∧ Fld Z h b "java/lang/String" "coder" "B" (.int (0 : Int32)) ∧ Ary Z h u .byte [(.int (c0.toInt8.toInt32))]) := by
  refine ctr (plainFor_of_name pn_4) ?_
  intro p e s m below meth c s₁ hx hby hml hown hnm hret hlocks hZ X0 e0
  have N0 := Fr.nil Z.heap.size
  have hsz : ∀ {Ls : Array Slot}, Ls.size = 1 → Ls.size = c.maxLocals := fun q => q.trans hml.symm
  have K0 := Keep.refl h0 []
  refine goE (ef_rmV m (c0)) ?_
  show Goes p e below _ (s₁.setTop (mkF m 0 #[.val (.int c0)] []))
  obtain ⟨Tt1, Xt1, et1, stt1⟩ := getS2 X0 hx hZ hown (host := "") (Or.inl (hw _ (List.mem_of_getElem? (i := 16) rfl))) Via.refl e0 (S_cs.ext O0) (g := (mkF m 0 #[.val (.int c0)] [])) rfl (hb hby d_jdk_42_method_139_0)
  refine go stt1 ?_
  show Goes p e below _ (Tt1.setTop (mkF m 3 #[.val (.int c0)] [(.int cs)]))
  refine gIfN Xt1 hx (hb hby d_jdk_42_method_139_3) (XT.i0_eq_f hcs) ?_
  show Goes p e below _ (Tt1.setTop (mkF m 6 #[.val (.int c0)] []))
  refine gIloadN Xt1 hx (hb hby d_jdk_42_method_139_6) rfl ?_
  refine goCallS Xt1 hx hZ hown (hw _ (List.mem_of_getElem? (i := 265) rfl)) (hw _ (List.mem_of_getElem? (i := 266) rfl)) (hw _ (List.mem_of_getElem? (i := 212) rfl)) (hw _ (List.mem_of_getElem? (i := 267) rfl)) (by decide) (rmVe l Z a0 hw c0 h0 O0 hc0) 0 (by decide) (by decide) et1 (hsz rfl) [(.int c0)] [] pd_23 rfl rfl rfl (Nat.le_of_eq rfl) (hb hby d_jdk_42_method_139_7) (by decide) (by decide) (fun Tt2 vt2 Lt2 Xt2 qt2 => ?_)
  obtain ⟨rfl, N3, et2⟩ := qt2
  have N4 := Fr.app N0 N3
  show Goes p e below _ (Tt2.setTop (mkF m 10 #[.val (.int c0)] [(.int (1 : Int32))]))
  refine gIfN Xt2 hx (hb hby d_jdk_42_method_139_10) (XT.i0_eq_f (by decide)) ?_
  show Goes p e below _ (Tt2.setTop (mkF m 13 #[.val (.int c0)] []))
  obtain ⟨Tt5, ht5, Xt5, et5, Et5, At5, Dt5, -, stt5⟩ := newO Xt2 hx hZ hown (hw _ (List.mem_of_getElem? (i := 268) rfl)) (hw _ (List.mem_of_getElem? (i := 3) rfl)) (hw _ (List.mem_of_getElem? (i := 4) rfl)) et2 (g := (mkF m 13 #[.val (.int c0)] [])) rfl (hb hby d_jdk_42_method_139_13) (by decide) (by decide)
  obtain ⟨ob6, gob6⟩ : ∃ z, z = h0.size := ⟨_, rfl⟩
  rw [← gob6] at At5 Dt5 stt5
  refine go stt5 ?_
  have fr_ob6 : Z.heap.size ≤ ob6 := gob6 ▸ O0.1
  have pa_ob6 : h0.size ≤ ob6 := gob6 ▸ K0.1
  have O7 : Ext Z.heap ht5 := extT O0 Et5
  have K8 := K0.ext Et5
  have F_coder_ob6 : Fld Z ht5 ob6 "java/lang/String" "coder" "B" (.int (0 : Int32)) := Dt5 (Or.inr (hw _ (List.mem_of_getElem? (i := 29) rfl))) (ty := .byte) (by decide)
  have F_value_ob6 : Fld Z ht5 ob6 "java/lang/String" "value" "[B" .null := Dt5 (Or.inr (hw _ (List.mem_of_getElem? (i := 31) rfl))) (ty := (.array .byte)) (by decide)
  show Goes p e below _ (Tt5.setTop (mkF m 16 #[.val (.int c0)] [(.ref ob6)]))
  refine gDup Xt5 hx (hb hby d_jdk_42_method_139_16) rfl ?_
  refine gIloadN Xt5 hx (hb hby d_jdk_42_method_139_17) rfl ?_
  have lt_ob6_t9 := At5.lt
  refine goCallS Xt5 hx hZ hown (hw _ (List.mem_of_getElem? (i := 269) rfl)) (hw _ (List.mem_of_getElem? (i := 270) rfl)) (hw _ (List.mem_of_getElem? (i := 212) rfl)) (hw _ (List.mem_of_getElem? (i := 271) rfl)) (by decide) (rmVb l Z a0 hw c0 ht5 O7) 2 (by decide) (by decide) et5 (hsz rfl) [(.int c0)] [(.ref ob6), (.ref ob6)] pd_24 rfl rfl rfl (Nat.le_of_eq rfl) (hb hby d_jdk_42_method_139_18) (by decide) (by decide) (fun Tt9 vt9 Lt9 Xt9 qt9 => ?_)
  obtain ⟨ht9, et9⟩ : ∃ z, Tt9.heap = z := ⟨_, rfl⟩
  rw [et9] at qt9
  obtain ⟨u, rfl, N10, Kct9, pu, Yu⟩ := qt9
  have N11 := Fr.app N4 N10
  replace At5 := At5.keep Kct9
  replace F_coder_ob6 := F_coder_ob6.keep Kct9 nin0
  replace F_value_ob6 := F_value_ob6.keep Kct9 nin0
  have O12 : Ext Z.heap ht9 := extK O7 Kct9 all0
  have K13 := K8.trans Kct9 all0
  have ne_ob6_u : ob6 ≠ u := Nat.ne_of_lt (Nat.lt_of_lt_of_le lt_ob6_t9 pu)
  have fr_u : Z.heap.size ≤ u := Nat.le_trans O7.1 pu
  have pa_u : h0.size ≤ u := Nat.le_trans K8.1 pu
  show Goes p e below _ (Tt9.setTop (mkF m 21 #[.val (.int c0)] [(.ref u), (.ref ob6), (.ref ob6)]))
  refine gIconst Xt9 hx (hb hby d_jdk_42_method_139_21) (v := (0 : Int32)) rfl ?_
  refine goCallI Xt9 hx hZ rfl hown (hw _ (List.mem_of_getElem? (i := 272) rfl)) (hw _ (List.mem_of_getElem? (i := 273) rfl)) (hw _ (List.mem_of_getElem? (i := 4) rfl)) (hw _ (List.mem_of_getElem? (i := 274) rfl)) (by decide) (rmVi l Z a0 hw ob6 u ht9 O12 At5 F_value_ob6 F_coder_ob6 fr_ob6) 1 (by decide) (by decide) et9 (hsz rfl) ob6 [(.ref u), (.int (0 : Int32))] [(.ref ob6)] pd_25 rfl rfl rfl (Nat.le_of_eq rfl) (hb hby d_jdk_42_method_139_22) (by decide) (by decide) (fun Tt14 vt14 Lt14 Xt14 qt14 => ?_)
  obtain ⟨ht14, et14⟩ : ∃ z, Tt14.heap = z := ⟨_, rfl⟩
  rw [et14] at qt14
  obtain ⟨rfl, N15, Kct14, Gv, Gc⟩ := qt14
  have N16 := Fr.app N11 N15
  replace At5 := At5.keep Kct14
  replace Yu := Yu.keep Kct14 (ninS (Ne.symm ne_ob6_u) nin0)
  have O17 : Ext Z.heap ht14 := extK O12 Kct14 (allS fr_ob6 all0)
  have K18 := K13.trans Kct14 (allS (Or.inr pa_ob6) all0)
  show Goes p e below _ (Tt14.setTop (mkF m 25 #[.val (.int c0)] [(.ref ob6)]))
  exact goRetA Xt14 hx hret hlocks rfl rfl (hb hby d_jdk_42_method_139_25) (by decide) (by decide) et14 (⟨ob6, rfl, N16, K18, pa_ob6, At5, u, pa_u, Gv, Gc, Yu⟩)
def own_chr (b : Int8) : Int32 := (b.toInt32 &&& (255 : Int32)).toUInt32.toUInt16.toUInt32.toInt32
theorem own_chd : ∀ q < 10, own_chr (48 + q).toInt8 = (48 : Int32) + q.toInt32 := by decide +kernel
theorem own_lc {c : Int32} (q0 : ¬ c < 0) (q1 : ¬ (255 : Int32) < c) : own_chr c.toInt8 = c := by
  rw [Int32.lt_iff_toInt_lt] at q0 q1
  rw [show (0 : Int32).toInt = 0 by decide] at q0
  rw [show (255 : Int32).toInt = 255 by decide] at q1
  apply Int32.toInt_inj.mp
  unfold own_chr
  have i0 := (c_i2b c).1
  have m0 : (c.toInt8.toInt32 &&& 255).toInt = c.toInt8.toInt32.toInt % 256 := c_mask c.toInt8.toInt32 255 8 (by decide) (by decide)
  have z := c_i2c (c.toInt8.toInt32 &&& 255)
  omega
theorem own_divn {a b : Nat} (ha : a < 2 ^ 31) (hB : b < 2 ^ 31) : a.toInt32 / b.toInt32 = (a / b).toInt32 := by
  apply Int32.toInt_inj.mp
  have hlt : a / b ≤ a := Nat.div_le_self a b
  have q := (c_idiv a.toInt32 b.toInt32 b (len_toInt hB) (fun z => by
    have e := congrArg Int32.toInt z
    rw [len_toInt hB, show (-1 : Int32).toInt = -1 by decide] at e
    omega)).1 (by rw [len_toInt ha]; omega)
  rw [q, len_toInt ha, len_toInt (by omega)]
  rfl
theorem own_modn {a : Nat} (ha : a < 2 ^ 31) : a.toInt32 % (10 : Int32) = (a % 10).toInt32 := by
  apply Int32.toInt_inj.mp
  have q := (c_irem a.toInt32 10 10 (by decide)).1 (by rw [len_toInt ha]; omega)
  rw [q, len_toInt ha, len_toInt (by omega)]
  omega
theorem own_p10 {e : Nat} (h : e ≤ 9) : 1 ≤ 10 ^ e ∧ 10 ^ e < 2 ^ 31 := by
  have a : 10 ^ e ≤ 10 ^ 9 := Nat.pow_le_pow_right (by decide) h
  have b : 1 ≤ 10 ^ e := Nat.one_le_pow _ _ (by decide)
  omega
theorem own_len4 (x : Int64) : (x &&& (3 : Int64)).toInt32 = 0 ∨ (x &&& (3 : Int64)).toInt32 = 1 ∨ (x &&& (3 : Int64)).toInt32 = 2 ∨ (x &&& (3 : Int64)).toInt32 = 3 := by
  have m : (x &&& 3).toInt = x.toInt % 4 := c_maskL x 3 2 (by decide) (by decide)
  have q := c_l2i (x &&& 3)
  have b3 := Int32.toInt_lt (x &&& 3).toInt32
  have b4 := Int32.le_toInt (x &&& 3).toInt32
  simp only [← Int32.toInt_inj]
  show _ = 0 ∨ _ = 1 ∨ _ = 2 ∨ _ = 3
  omega
theorem own_c255 (x : Int64) : nar .char ((x &&& (255 : Int64)).toInt32.toUInt32.toUInt16.toUInt32.toInt32) = (x &&& (255 : Int64)).toInt32.toUInt32.toUInt16.toUInt32.toInt32 ∧ ¬ (x &&& (255 : Int64)).toInt32.toUInt32.toUInt16.toUInt32.toInt32 < 0 ∧ ¬ (255 : Int32) < (x &&& (255 : Int64)).toInt32.toUInt32.toUInt16.toUInt32.toInt32 := by
  have m : (x &&& 255).toInt = x.toInt % 256 := c_maskL x 255 8 (by decide) (by decide)
  have q := c_l2i (x &&& 255)
  have b3 := Int32.toInt_lt (x &&& 255).toInt32
  have b4 := Int32.le_toInt (x &&& 255).toInt32
  have z := c_i2c (x &&& 255).toInt32
  refine ⟨narc _, ?_, ?_⟩
  · rw [Int32.lt_iff_toInt_lt, show (0 : Int32).toInt = 0 by decide]; omega
  · rw [Int32.lt_iff_toInt_lt, show (255 : Int32).toInt = 255 by decide]; omega
theorem own_line (x : Int32) : ∃ n : Nat, 1 ≤ n ∧ n < 2 ^ 31 ∧ ((1 : Int32) < (x &&& (2147483647 : Int32)) → (x &&& (2147483647 : Int32)) = n.toInt32) ∧ (¬ (1 : Int32) < (x &&& (2147483647 : Int32)) → (1 : Int32) = n.toInt32) := by
  have m : (x &&& 2147483647).toInt = x.toInt % 2147483648 := c_mask x 2147483647 31 (by decide) (by decide)
  by_cases g : (1 : Int32) < (x &&& (2147483647 : Int32))
  · have g' := g
    rw [Int32.lt_iff_toInt_lt, show (1 : Int32).toInt = 1 by decide] at g'
    refine ⟨(x &&& 2147483647).toInt.toNat, by omega, by omega, fun _ => ?_, fun z => absurd g z⟩
    apply Int32.toInt_inj.mp
    rw [len_toInt (by omega)]
    omega
  · exact ⟨1, by decide, by decide, fun z => absurd z g, fun _ => rfl⟩
theorem d_jdk_41_method_11_0 : decode jdk_41_method_11_code 0 = .ok (.iload_n 0, 1) := by decide +kernel
theorem d_jdk_41_method_11_1 : decode jdk_41_method_11_code 1 = .ok (.ifCond .lt 8, 3) := by decide +kernel
theorem d_jdk_41_method_11_4 : decode jdk_41_method_11_code 4 = .ok (.iload_n 0, 1) := by decide +kernel
theorem d_jdk_41_method_11_5 : decode jdk_41_method_11_code 5 = .ok (.iload_n 1, 1) := by decide +kernel
theorem d_jdk_41_method_11_6 : decode jdk_41_method_11_code 6 = .ok (.if_icmp .lt 10, 3) := by decide +kernel
theorem d_jdk_41_method_11_16 : decode jdk_41_method_11_code 16 = .ok (.iload_n 0, 1) := by decide +kernel
theorem d_jdk_41_method_11_17 : decode jdk_41_method_11_code 17 = .ok (.ireturn, 1) := by decide +kernel
theorem pn_8 : plainName "jdk/internal/util/Preconditions" = true := by first | (simp [plainName, overriddenIn]; done) | decide +kernel
theorem ef_rmPn (m : MethodId) (x0 : Int32) (x1 : Int32) : entryFrame m #[(.int x0), (.int x1), .null] 3 = mkF m 0 #[.val (.int x0), .val (.int x1), .val .null] [] := by first | (simp [entryFrame, mkF, argsToLocals, Value.category]; done) | rfl
set_option maxRecDepth 65536 in
set_option maxHeartbeats 40000000 in
theorem rmPn (l : Launch) (Z : State) (a0 : Array Value) (hw : ∀ d ∈ tables_1, d.before a0 Z = true)  (i_ : Int32) (n_ : Int32) (h0 : Heap) (O0 : Ext Z.heap h0) (k1 : ¬ i_ < 0) (k2 : i_ < n_) :
    Ctr l Z (⟨"jdk/internal/util/Preconditions", "checkIndex", "(IILjava/util/function/BiFunction;)I"⟩ : MethodName) jdk_41_method_11_code 3 (some .int) [] ({ frames := 0, cells := 0, slots := 0, locals := 0 } : Room) #[(.int i_), (.int n_), .null] h0 (fun v h L => v = some (.int i_) ∧ Fr Z.heap.size L ∧ h = h0) := by
  refine ctr (plainFor_of_name pn_8) ?_
  intro p e s m below meth c s₁ hx hby hml hown hnm hret hlocks hZ X0 e0
  have N0 := Fr.nil Z.heap.size
  have hsz : ∀ {Ls : Array Slot}, Ls.size = 3 → Ls.size = c.maxLocals := fun q => q.trans hml.symm
  refine goE (ef_rmPn m (i_) (n_)) ?_
  show Goes p e below _ (s₁.setTop (mkF m 0 #[.val (.int i_), .val (.int n_), .val .null] []))
  refine gIloadN X0 hx (hb hby d_jdk_41_method_11_0) rfl ?_
  refine gIfN X0 hx (hb hby d_jdk_41_method_11_1) (XT.i0_lt_f k1) ?_
  show Goes p e below _ (s₁.setTop (mkF m 4 #[.val (.int i_), .val (.int n_), .val .null] []))
  refine gIloadN X0 hx (hb hby d_jdk_41_method_11_4) rfl ?_
  refine gIloadN X0 hx (hb hby d_jdk_41_method_11_5) rfl ?_
  refine gIcmpY X0 hx (hb hby d_jdk_41_method_11_6) (pc' := 16) (XT.ii_lt_t k2) (by decide) (by decide) ?_
  show Goes p e below _ (s₁.setTop (mkF m 16 #[.val (.int i_), .val (.int n_), .val .null] []))
  refine gIloadN X0 hx (hb hby d_jdk_41_method_11_16) rfl ?_
  exact goRetI X0 hx hret hlocks (hb hby d_jdk_41_method_11_17) (by decide) (by decide) e0 (⟨rfl, N0, rfl⟩)
theorem ef_rmPa (m : MethodId) (x0 : Int32) (x1 : Int32) (x2 : Addr) : entryFrame m #[(.int x0), (.int x1), (.ref x2)] 3 = mkF m 0 #[.val (.int x0), .val (.int x1), .val (.ref x2)] [] := by first | (simp [entryFrame, mkF, argsToLocals, Value.category]; done) | rfl
set_option maxRecDepth 65536 in
set_option maxHeartbeats 40000000 in
theorem rmPa (l : Launch) (Z : State) (a0 : Array Value) (hw : ∀ d ∈ tables_1, d.before a0 Z = true)  (i_ : Int32) (n_ : Int32) (fa : Addr) (h0 : Heap) (O0 : Ext Z.heap h0) (k1 : ¬ i_ < 0) (k2 : i_ < n_) :
    Ctr l Z (⟨"jdk/internal/util/Preconditions", "checkIndex", "(IILjava/util/function/BiFunction;)I"⟩ : MethodName) jdk_41_method_11_code 3 (some .int) [] ({ frames := 0, cells := 0, slots := 0, locals := 0 } : Room) #[(.int i_), (.int n_), (.ref fa)] h0 (fun v h L => v = some (.int i_) ∧ Fr Z.heap.size L ∧ h = h0) := by
  refine ctr (plainFor_of_name pn_8) ?_
  intro p e s m below meth c s₁ hx hby hml hown hnm hret hlocks hZ X0 e0
  have N0 := Fr.nil Z.heap.size
  have hsz : ∀ {Ls : Array Slot}, Ls.size = 3 → Ls.size = c.maxLocals := fun q => q.trans hml.symm
  refine goE (ef_rmPa m (i_) (n_) (fa)) ?_
  show Goes p e below _ (s₁.setTop (mkF m 0 #[.val (.int i_), .val (.int n_), .val (.ref fa)] []))
  refine gIloadN X0 hx (hb hby d_jdk_41_method_11_0) rfl ?_
  refine gIfN X0 hx (hb hby d_jdk_41_method_11_1) (XT.i0_lt_f k1) ?_
  show Goes p e below _ (s₁.setTop (mkF m 4 #[.val (.int i_), .val (.int n_), .val (.ref fa)] []))
  refine gIloadN X0 hx (hb hby d_jdk_41_method_11_4) rfl ?_
  refine gIloadN X0 hx (hb hby d_jdk_41_method_11_5) rfl ?_
  refine gIcmpY X0 hx (hb hby d_jdk_41_method_11_6) (pc' := 16) (XT.ii_lt_t k2) (by decide) (by decide) ?_
  show Goes p e below _ (s₁.setTop (mkF m 16 #[.val (.int i_), .val (.int n_), .val (.ref fa)] []))
  refine gIloadN X0 hx (hb hby d_jdk_41_method_11_16) rfl ?_
  exact goRetI X0 hx hret hlocks (hb hby d_jdk_41_method_11_17) (by decide) (by decide) e0 (⟨rfl, N0, rfl⟩)
theorem d_jdk_42_method_155_0 : decode jdk_42_method_155_code 0 = .ok (.iload_n 0, 1) := by decide +kernel
theorem d_jdk_42_method_155_1 : decode jdk_42_method_155_code 1 = .ok (.iload_n 1, 1) := by decide +kernel
theorem d_jdk_42_method_155_2 : decode jdk_42_method_155_code 2 = .ok (.getstatic 1053, 3) := by decide +kernel
theorem pd_26 : parseMethodDescriptor "(IILjava/util/function/BiFunction;)I" = some ⟨[.int, .int, (.object "java/util/function/BiFunction")], some .int⟩ := by decide +kernel
theorem d_jdk_42_method_155_5 : decode jdk_42_method_155_code 5 = .ok (.invokestatic 1059, 3) := by decide +kernel
theorem d_jdk_42_method_155_8 : decode jdk_42_method_155_code 8 = .ok (.pop, 1) := by decide +kernel
theorem d_jdk_42_method_155_9 : decode jdk_42_method_155_code 9 = .ok (.return_, 1) := by decide +kernel
theorem ef_rmCk (m : MethodId) (x0 : Int32) (x1 : Int32) : entryFrame m #[(.int x0), (.int x1)] 2 = mkF m 0 #[.val (.int x0), .val (.int x1)] [] := by first | (simp [entryFrame, mkF, argsToLocals, Value.category]; done) | rfl
set_option maxRecDepth 65536 in
set_option maxHeartbeats 40000000 in
theorem rmCk (l : Launch) (Z : State) (a0 : Array Value) (hw : ∀ d ∈ tables_1, d.before a0 Z = true) (fm : Value) (i_ : Int32) (n_ : Int32) (h0 : Heap) (O0 : Ext Z.heap h0) (S_fm : Sta Z Z.heap "jdk/internal/util/Preconditions" "SIOOBE_FORMATTER" "Ljava/util/function/BiFunction;" fm) (rf : fm.isRef = true) (k1 : ¬ i_ < 0) (k2 : i_ < n_) :
    Ctr l Z (⟨"java/lang/String", "checkIndex", "(II)V"⟩ : MethodName) jdk_42_method_155_code 2 none [] ({ frames := 1, cells := 0, slots := 0, locals := 14 } : Room) #[(.int i_), (.int n_)] h0 (fun v h L => v = none ∧ Fr Z.heap.size L ∧ h = h0) := by
  refine ctr (plainFor_of_name pn_4) ?_
  intro p e s m below meth c s₁ hx hby hml hown hnm hret hlocks hZ X0 e0
  have N0 := Fr.nil Z.heap.size
  have hsz : ∀ {Ls : Array Slot}, Ls.size = 2 → Ls.size = c.maxLocals := fun q => q.trans hml.symm
  refine goE (ef_rmCk m (i_) (n_)) ?_
  show Goes p e below _ (s₁.setTop (mkF m 0 #[.val (.int i_), .val (.int n_)] []))
  rcases ref_cases rf with rfl | ⟨fa, rfl⟩
  · refine gIloadN X0 hx (hb hby d_jdk_42_method_155_0) rfl ?_
    refine gIloadN X0 hx (hb hby d_jdk_42_method_155_1) rfl ?_
    obtain ⟨Tt1, Xt1, et1, stt1⟩ := getS2 X0 hx hZ hown (host := "") (Or.inl (hw _ (List.mem_of_getElem? (i := 217) rfl))) Via.refl e0 (S_fm.ext O0) (g := (mkF m 2 #[.val (.int i_), .val (.int n_)] [(.int n_), (.int i_)])) rfl (hb hby d_jdk_42_method_155_2)
    refine go stt1 ?_
    show Goes p e below _ (Tt1.setTop (mkF m 5 #[.val (.int i_), .val (.int n_)] [.null, (.int n_), (.int i_)]))
    refine goCallS Xt1 hx hZ hown (hw _ (List.mem_of_getElem? (i := 219) rfl)) (hw _ (List.mem_of_getElem? (i := 220) rfl)) (hw _ (List.mem_of_getElem? (i := 218) rfl)) (hw _ (List.mem_of_getElem? (i := 221) rfl)) (by decide) (rmPn l Z a0 hw i_ n_ h0 O0 k1 k2) 0 (by decide) (by decide) et1 (hsz rfl) [(.int i_), (.int n_), .null] [] pd_26 rfl rfl rfl (Nat.le_of_eq rfl) (hb hby d_jdk_42_method_155_5) (by decide) (by decide) (fun Tt2 vt2 Lt2 Xt2 qt2 => ?_)
    obtain ⟨rfl, N3, et2⟩ := qt2
    have N4 := Fr.app N0 N3
    show Goes p e below _ (Tt2.setTop (mkF m 8 #[.val (.int i_), .val (.int n_)] [(.int i_)]))
    refine gPop Xt2 hx (hb hby d_jdk_42_method_155_8) rfl ?_
    exact goRet0 Xt2 hx hret hlocks (hb hby d_jdk_42_method_155_9) (by decide) (by decide) et2 (⟨rfl, N4, rfl⟩)
  · refine gIloadN X0 hx (hb hby d_jdk_42_method_155_0) rfl ?_
    refine gIloadN X0 hx (hb hby d_jdk_42_method_155_1) rfl ?_
    obtain ⟨Tt5, Xt5, et5, stt5⟩ := getS2 X0 hx hZ hown (host := "") (Or.inl (hw _ (List.mem_of_getElem? (i := 217) rfl))) Via.refl e0 (S_fm.ext O0) (g := (mkF m 2 #[.val (.int i_), .val (.int n_)] [(.int n_), (.int i_)])) rfl (hb hby d_jdk_42_method_155_2)
    refine go stt5 ?_
    show Goes p e below _ (Tt5.setTop (mkF m 5 #[.val (.int i_), .val (.int n_)] [(.ref fa), (.int n_), (.int i_)]))
    refine goCallS Xt5 hx hZ hown (hw _ (List.mem_of_getElem? (i := 219) rfl)) (hw _ (List.mem_of_getElem? (i := 220) rfl)) (hw _ (List.mem_of_getElem? (i := 218) rfl)) (hw _ (List.mem_of_getElem? (i := 221) rfl)) (by decide) (rmPa l Z a0 hw i_ n_ fa h0 O0 k1 k2) 0 (by decide) (by decide) et5 (hsz rfl) [(.int i_), (.int n_), (.ref fa)] [] pd_26 rfl rfl rfl (Nat.le_of_eq rfl) (hb hby d_jdk_42_method_155_5) (by decide) (by decide) (fun Tt6 vt6 Lt6 Xt6 qt6 => ?_)
    obtain ⟨rfl, N7, et6⟩ := qt6
    have N8 := Fr.app N0 N7
    show Goes p e below _ (Tt6.setTop (mkF m 8 #[.val (.int i_), .val (.int n_)] [(.int i_)]))
    refine gPop Xt6 hx (hb hby d_jdk_42_method_155_8) rfl ?_
    exact goRet0 Xt6 hx hret hlocks (hb hby d_jdk_42_method_155_9) (by decide) (by decide) et6 (⟨rfl, N8, rfl⟩)
theorem d_jdk_43_method_2_0 : decode jdk_43_method_2_code 0 = .ok (.iload_n 1, 1) := by decide +kernel
theorem d_jdk_43_method_2_1 : decode jdk_43_method_2_code 1 = .ok (.aload_n 0, 1) := by decide +kernel
theorem d_jdk_43_method_2_2 : decode jdk_43_method_2_code 2 = .ok (.arraylength, 1) := by decide +kernel
theorem d_jdk_43_method_2_3 : decode jdk_43_method_2_code 3 = .ok (.invokestatic 9, 3) := by decide +kernel
theorem d_jdk_43_method_2_6 : decode jdk_43_method_2_code 6 = .ok (.aload_n 0, 1) := by decide +kernel
theorem d_jdk_43_method_2_7 : decode jdk_43_method_2_code 7 = .ok (.iload_n 1, 1) := by decide +kernel
theorem d_jdk_43_method_2_8 : decode jdk_43_method_2_code 8 = .ok (.baload, 1) := by decide +kernel
theorem d_jdk_43_method_2_9 : decode jdk_43_method_2_code 9 = .ok (.sipush 255, 3) := by decide +kernel
theorem d_jdk_43_method_2_12 : decode jdk_43_method_2_code 12 = .ok (.iand, 1) := by decide +kernel
theorem d_jdk_43_method_2_13 : decode jdk_43_method_2_code 13 = .ok (.i2c, 1) := by decide +kernel
theorem d_jdk_43_method_2_14 : decode jdk_43_method_2_code 14 = .ok (.ireturn, 1) := by decide +kernel
theorem ef_rmLc (m : MethodId) (x0 : Addr) (x1 : Int32) : entryFrame m #[(.ref x0), (.int x1)] 2 = mkF m 0 #[.val (.ref x0), .val (.int x1)] [] := by first | (simp [entryFrame, mkF, argsToLocals, Value.category]; done) | rfl
set_option maxRecDepth 65536 in
set_option maxHeartbeats 40000000 in
theorem rmLc (l : Launch) (Z : State) (a0 : Array Value) (hw : ∀ d ∈ tables_1, d.before a0 Z = true) (fm : Value) (us : Addr) (sb : List Int8) (i : Nat) (b_ : Int8)  (h0 : Heap) (O0 : Ext Z.heap h0) (S_fm : Sta Z Z.heap "jdk/internal/util/Preconditions" "SIOOBE_FORMATTER" "Ljava/util/function/BiFunction;" fm) (rf : fm.isRef = true) (Sy : Ary Z h0 us .byte (own_bv sb)) (hlb : sb.length < 1000) (hat : sb[i]? = some b_) :
    Ctr l Z (⟨"java/lang/StringLatin1", "charAt", "([BI)C"⟩ : MethodName) jdk_43_method_2_code 2 (some .char) [] ({ frames := 2, cells := 0, slots := 0, locals := 27 } : Room) #[(.ref us), (.int i.toInt32)] h0 (fun v h L => v = some (.int (own_chr b_)) ∧ Fr Z.heap.size L ∧ h = h0) := by
  refine ctr (plainFor_of_name pn_7) ?_
  intro p e s m below meth c s₁ hx hby hml hown hnm hret hlocks hZ X0 e0
  have N0 := Fr.nil Z.heap.size
  have hsz : ∀ {Ls : Array Slot}, Ls.size = 2 → Ls.size = c.maxLocals := fun q => q.trans hml.symm
  refine goE (ef_rmLc m (us) (i.toInt32)) ?_
  show Goes p e below _ (s₁.setTop (mkF m 0 #[.val (.ref us), .val (.int i.toInt32)] []))
  have hil : i < sb.length := (List.getElem?_eq_some_iff.mp hat).1
  refine gIloadN X0 hx (hb hby d_jdk_43_method_2_0) rfl ?_
  refine gAloadN X0 hx (hb hby d_jdk_43_method_2_1) rfl rfl ?_
  refine goAlen X0 hx hZ e0 Sy (n := sb.length.toInt32) (hb hby d_jdk_43_method_2_2) (own_len rfl) ?_
  refine goCallS X0 hx hZ hown (hw _ (List.mem_of_getElem? (i := 214) rfl)) (hw _ (List.mem_of_getElem? (i := 215) rfl)) (hw _ (List.mem_of_getElem? (i := 4) rfl)) (hw _ (List.mem_of_getElem? (i := 216) rfl)) (by decide) (rmCk l Z a0 hw fm i.toInt32 sb.length.toInt32 h0 O0 S_fm rf (own_natn (by omega)) ((own_ltn (by omega) (by omega)).mpr hil)) 0 (by decide) (by decide) e0 (hsz rfl) [(.int i.toInt32), (.int sb.length.toInt32)] [] pd_14 rfl rfl rfl (Nat.le_of_eq rfl) (hb hby d_jdk_43_method_2_3) (by decide) (by decide) (fun Tt1 vt1 Lt1 Xt1 qt1 => ?_)
  obtain ⟨rfl, N2, et1⟩ := qt1
  have N3 := Fr.app N0 N2
  show Goes p e below _ (Tt1.setTop (mkF m 6 #[.val (.ref us), .val (.int i.toInt32)] []))
  refine gAloadN Xt1 hx (hb hby d_jdk_43_method_2_6) rfl rfl ?_
  refine gIloadN Xt1 hx (hb hby d_jdk_43_method_2_7) rfl ?_
  refine goBaload Xt1 hx hZ et1 Sy (x := (b_.toInt32)) (hb hby d_jdk_43_method_2_8) (own_natn (by omega)) (by rw [own_natc (by omega)]; exact own_bv_at hat) ?_
  show Goes p e below _ (Tt1.setTop (mkF m 9 #[.val (.ref us), .val (.int i.toInt32)] [(.int (b_.toInt32))]))
  refine gSipush Xt1 hx (hb hby d_jdk_43_method_2_9) (v := (255 : Int32)) rfl ?_
  refine gIand Xt1 hx (hb hby d_jdk_43_method_2_12) ?_
  refine gI2c Xt1 hx (hb hby d_jdk_43_method_2_13) ?_
  exact goRetN Xt1 hx (t := .char) hret hlocks (by simp) (hb hby d_jdk_43_method_2_14) (z' := (own_chr b_)) (narc _) (by decide) (by decide) et1 (⟨rfl, N3, rfl⟩)
theorem d_jdk_42_method_154_0 : decode jdk_42_method_154_code 0 = .ok (.getstatic 38, 3) := by decide +kernel
theorem d_jdk_42_method_154_3 : decode jdk_42_method_154_code 3 = .ok (.ifCond .eq 14, 3) := by decide +kernel
theorem d_jdk_42_method_154_6 : decode jdk_42_method_154_code 6 = .ok (.aload_n 0, 1) := by decide +kernel
theorem d_jdk_42_method_154_7 : decode jdk_42_method_154_code 7 = .ok (.getfield 15, 3) := by decide +kernel
theorem d_jdk_42_method_154_10 : decode jdk_42_method_154_code 10 = .ok (.ifCond .ne 7, 3) := by decide +kernel
theorem d_jdk_42_method_154_13 : decode jdk_42_method_154_code 13 = .ok (.iconst 1, 1) := by decide +kernel
theorem d_jdk_42_method_154_14 : decode jdk_42_method_154_code 14 = .ok (.goto 4, 3) := by decide +kernel
theorem d_jdk_42_method_154_18 : decode jdk_42_method_154_code 18 = .ok (.ireturn, 1) := by decide +kernel
theorem ef_rmLt (m : MethodId) (x0 : Addr) : entryFrame m #[(.ref x0)] 1 = mkF m 0 #[.val (.ref x0)] [] := by first | (simp [entryFrame, mkF, argsToLocals, Value.category]; done) | rfl
set_option maxRecDepth 65536 in
set_option maxHeartbeats 40000000 in
theorem rmLt (l : Launch) (Z : State) (a0 : Array Value) (hw : ∀ d ∈ tables_1, d.before a0 Z = true) (us : Addr) (sb : List Int8) (cs : Int32) (s1 : Addr) (h0 : Heap) (O0 : Ext Z.heap h0) (S_cs : Sta Z Z.heap "java/lang/String" "COMPACT_STRINGS" "Z" (.int cs)) (hcs : ¬ cs = 0) (Es : Exa Z h0 s1 "java/lang/String") (Sv : Fld Z h0 s1 "java/lang/String" "value" "[B" (.ref us)) (Sc : Fld Z h0 s1 "java/lang/String" "coder" "B" (.int (0 : Int32))) (Sy : Ary Z h0 us .byte (own_bv sb)) :
    Ctr l Z (⟨"java/lang/String", "isLatin1", "()Z"⟩ : MethodName) jdk_42_method_154_code 1 (some .boolean) [] ({ frames := 0, cells := 0, slots := 0, locals := 0 } : Room) #[(.ref s1)] h0 (fun v h L => v = some (.int 1) ∧ Fr Z.heap.size L ∧ h = h0) := by
  refine ctr (plainFor_of_name pn_4) ?_
  intro p e s m below meth c s₁ hx hby hml hown hnm hret hlocks hZ X0 e0
  have N0 := Fr.nil Z.heap.size
  have hsz : ∀ {Ls : Array Slot}, Ls.size = 1 → Ls.size = c.maxLocals := fun q => q.trans hml.symm
  refine goE (ef_rmLt m (s1)) ?_
  show Goes p e below _ (s₁.setTop (mkF m 0 #[.val (.ref s1)] []))
  obtain ⟨Tt1, Xt1, et1, stt1⟩ := getS2 X0 hx hZ hown (host := "") (Or.inl (hw _ (List.mem_of_getElem? (i := 16) rfl))) Via.refl e0 (S_cs.ext O0) (g := (mkF m 0 #[.val (.ref s1)] [])) rfl (hb hby d_jdk_42_method_154_0)
  refine go stt1 ?_
  show Goes p e below _ (Tt1.setTop (mkF m 3 #[.val (.ref s1)] [(.int cs)]))
  refine gIfN Xt1 hx (hb hby d_jdk_42_method_154_3) (XT.i0_eq_f hcs) ?_
  show Goes p e below _ (Tt1.setTop (mkF m 6 #[.val (.ref s1)] []))
  refine gAloadN Xt1 hx (hb hby d_jdk_42_method_154_6) rfl rfl ?_
  obtain ⟨Tt2, Xt2, et2, stt2⟩ := getF Xt1 hx hZ hown (host := "") (Or.inl (hw _ (List.mem_of_getElem? (i := 28) rfl))) Via.refl et1 Sc (g := (mkF m 7 #[.val (.ref s1)] [(.ref s1)])) rfl rfl (hb hby d_jdk_42_method_154_7)
  refine go stt2 ?_
  show Goes p e below _ (Tt2.setTop (mkF m 10 #[.val (.ref s1)] [(.int (0 : Int32))]))
  refine gIfN Xt2 hx (hb hby d_jdk_42_method_154_10) (XT.i0_ne_f (by decide)) ?_
  show Goes p e below _ (Tt2.setTop (mkF m 13 #[.val (.ref s1)] []))
  refine gIconst Xt2 hx (hb hby d_jdk_42_method_154_13) (v := (1 : Int32)) rfl ?_
  refine gGoto Xt2 hx (hb hby d_jdk_42_method_154_14) (pc' := 18) (by decide) (by decide) ?_
  show Goes p e below _ (Tt2.setTop (mkF m 18 #[.val (.ref s1)] [(.int (1 : Int32))]))
  exact goRetN Xt2 hx (t := .boolean) hret hlocks (by simp) (hb hby d_jdk_42_method_154_18) (z' := (1 : Int32)) rfl (by decide) (by decide) et2 (⟨rfl, N0, rfl⟩)
theorem d_jdk_42_method_56_0 : decode jdk_42_method_56_code 0 = .ok (.aload_n 0, 1) := by decide +kernel
theorem d_jdk_42_method_56_1 : decode jdk_42_method_56_code 1 = .ok (.invokevirtual 492, 3) := by decide +kernel
theorem d_jdk_42_method_56_4 : decode jdk_42_method_56_code 4 = .ok (.ifCond .eq 12, 3) := by decide +kernel
theorem d_jdk_42_method_56_7 : decode jdk_42_method_56_code 7 = .ok (.aload_n 0, 1) := by decide +kernel
theorem d_jdk_42_method_56_8 : decode jdk_42_method_56_code 8 = .ok (.getfield 9, 3) := by decide +kernel
theorem d_jdk_42_method_56_11 : decode jdk_42_method_56_code 11 = .ok (.iload_n 1, 1) := by decide +kernel
theorem pd_27 : parseMethodDescriptor "([BI)C" = some ⟨[(.array .byte), .int], some .char⟩ := by decide +kernel
theorem d_jdk_42_method_56_12 : decode jdk_42_method_56_code 12 = .ok (.invokestatic 495, 3) := by decide +kernel
theorem d_jdk_42_method_56_15 : decode jdk_42_method_56_code 15 = .ok (.ireturn, 1) := by decide +kernel
theorem ef_rmCa (m : MethodId) (x0 : Addr) (x1 : Int32) : entryFrame m #[(.ref x0), (.int x1)] 2 = mkF m 0 #[.val (.ref x0), .val (.int x1)] [] := by first | (simp [entryFrame, mkF, argsToLocals, Value.category]; done) | rfl
set_option maxRecDepth 65536 in
set_option maxHeartbeats 40000000 in
theorem rmCa (l : Launch) (Z : State) (a0 : Array Value) (hw : ∀ d ∈ tables_1, d.before a0 Z = true) (fm : Value) (us : Addr) (sb : List Int8) (i : Nat) (b_ : Int8) (cs : Int32) (s1 : Addr) (h0 : Heap) (O0 : Ext Z.heap h0) (S_cs : Sta Z Z.heap "java/lang/String" "COMPACT_STRINGS" "Z" (.int cs)) (hcs : ¬ cs = 0) (S_fm : Sta Z Z.heap "jdk/internal/util/Preconditions" "SIOOBE_FORMATTER" "Ljava/util/function/BiFunction;" fm) (rf : fm.isRef = true) (Es : Exa Z h0 s1 "java/lang/String") (Sv : Fld Z h0 s1 "java/lang/String" "value" "[B" (.ref us)) (Sc : Fld Z h0 s1 "java/lang/String" "coder" "B" (.int (0 : Int32))) (Sy : Ary Z h0 us .byte (own_bv sb)) (hlb : sb.length < 1000) (hat : sb[i]? = some b_) :
    Ctr l Z (⟨"java/lang/String", "charAt", "(I)C"⟩ : MethodName) jdk_42_method_56_code 2 (some .char) [] ({ frames := 3, cells := 0, slots := 0, locals := 40 } : Room) #[(.ref s1), (.int i.toInt32)] h0 (fun v h L => v = some (.int (own_chr b_)) ∧ Fr Z.heap.size L ∧ h = h0) := by
  refine ctr (plainFor_of_name pn_4) ?_
  intro p e s m below meth c s₁ hx hby hml hown hnm hret hlocks hZ X0 e0
  have N0 := Fr.nil Z.heap.size
  have hsz : ∀ {Ls : Array Slot}, Ls.size = 2 → Ls.size = c.maxLocals := fun q => q.trans hml.symm
  refine goE (ef_rmCa m (s1) (i.toInt32)) ?_
  show Goes p e below _ (s₁.setTop (mkF m 0 #[.val (.ref s1), .val (.int i.toInt32)] []))
  refine gAloadN X0 hx (hb hby d_jdk_42_method_56_0) rfl rfl ?_
  refine goCallV X0 hx hZ hown (hw _ (List.mem_of_getElem? (i := 205) rfl)) (hw _ (List.mem_of_getElem? (i := 206) rfl)) (hw _ (List.mem_of_getElem? (i := 208) rfl)) (hw _ (List.mem_of_getElem? (i := 207) rfl)) (hw _ (List.mem_of_getElem? (i := 4) rfl)) (hw _ (List.mem_of_getElem? (i := 209) rfl)) (by decide) (rmLt l Z a0 hw us sb cs s1 h0 O0 S_cs hcs Es Sv Sc Sy) 0 (by decide) (by decide) e0 Es (hsz rfl) [] [] pd_11 rfl rfl rfl (Nat.le_of_eq rfl) (hb hby d_jdk_42_method_56_1) (by decide) (by decide) (fun Tt1 vt1 Lt1 Xt1 qt1 => ?_)
  obtain ⟨rfl, N2, et1⟩ := qt1
  have N3 := Fr.app N0 N2
  show Goes p e below _ (Tt1.setTop (mkF m 4 #[.val (.ref s1), .val (.int i.toInt32)] [(.int (1 : Int32))]))
  refine gIfN Xt1 hx (hb hby d_jdk_42_method_56_4) (XT.i0_eq_f (by decide)) ?_
  show Goes p e below _ (Tt1.setTop (mkF m 7 #[.val (.ref s1), .val (.int i.toInt32)] []))
  refine gAloadN Xt1 hx (hb hby d_jdk_42_method_56_7) rfl rfl ?_
  obtain ⟨Tt4, Xt4, et4, stt4⟩ := getF Xt1 hx hZ hown (host := "") (Or.inl (hw _ (List.mem_of_getElem? (i := 30) rfl))) Via.refl et1 Sv (g := (mkF m 8 #[.val (.ref s1), .val (.int i.toInt32)] [(.ref s1)])) rfl rfl (hb hby d_jdk_42_method_56_8)
  refine go stt4 ?_
  show Goes p e below _ (Tt4.setTop (mkF m 11 #[.val (.ref s1), .val (.int i.toInt32)] [(.ref us)]))
  refine gIloadN Xt4 hx (hb hby d_jdk_42_method_56_11) rfl ?_
  refine goCallS Xt4 hx hZ hown (hw _ (List.mem_of_getElem? (i := 210) rfl)) (hw _ (List.mem_of_getElem? (i := 211) rfl)) (hw _ (List.mem_of_getElem? (i := 212) rfl)) (hw _ (List.mem_of_getElem? (i := 213) rfl)) (by decide) (rmLc l Z a0 hw fm us sb i b_ h0 O0 S_fm rf Sy hlb hat) 0 (by decide) (by decide) et4 (hsz rfl) [(.ref us), (.int i.toInt32)] [] pd_27 rfl rfl rfl (Nat.le_of_eq rfl) (hb hby d_jdk_42_method_56_12) (by decide) (by decide) (fun Tt5 vt5 Lt5 Xt5 qt5 => ?_)
  obtain ⟨rfl, N6, et5⟩ := qt5
  have N7 := Fr.app N3 N6
  show Goes p e below _ (Tt5.setTop (mkF m 15 #[.val (.ref s1), .val (.int i.toInt32)] [(.int (own_chr b_))]))
  exact goRetN Xt5 hx (t := .char) hret hlocks (by simp) (hb hby d_jdk_42_method_56_15) (z' := (own_chr b_)) (narc _) (by decide) (by decide) et5 (⟨rfl, N7, rfl⟩)
theorem d_method_3_0 : decode method_3_code 0 = .ok (.iload_n 0, 1) := by decide +kernel
theorem d_method_3_1 : decode method_3_code 1 = .ok (.bipush 10, 2) := by decide +kernel
theorem d_method_3_3 : decode method_3_code 3 = .ok (.if_icmp .ge 5, 3) := by decide +kernel
theorem d_method_3_6 : decode method_3_code 6 = .ok (.iconst 1, 1) := by decide +kernel
theorem d_method_3_7 : decode method_3_code 7 = .ok (.ireturn, 1) := by decide +kernel
theorem d_method_3_8 : decode method_3_code 8 = .ok (.iload_n 0, 1) := by decide +kernel
theorem d_method_3_9 : decode method_3_code 9 = .ok (.bipush 100, 2) := by decide +kernel
theorem d_method_3_11 : decode method_3_code 11 = .ok (.if_icmp .ge 5, 3) := by decide +kernel
theorem d_method_3_14 : decode method_3_code 14 = .ok (.iconst 2, 1) := by decide +kernel
theorem d_method_3_15 : decode method_3_code 15 = .ok (.ireturn, 1) := by decide +kernel
theorem d_method_3_16 : decode method_3_code 16 = .ok (.iload_n 0, 1) := by decide +kernel
theorem d_method_3_17 : decode method_3_code 17 = .ok (.sipush 1000, 3) := by decide +kernel
theorem d_method_3_20 : decode method_3_code 20 = .ok (.if_icmp .ge 5, 3) := by decide +kernel
theorem d_method_3_23 : decode method_3_code 23 = .ok (.iconst 3, 1) := by decide +kernel
theorem d_method_3_24 : decode method_3_code 24 = .ok (.ireturn, 1) := by decide +kernel
theorem d_method_3_25 : decode method_3_code 25 = .ok (.iload_n 0, 1) := by decide +kernel
theorem d_method_3_26 : decode method_3_code 26 = .ok (.sipush 10000, 3) := by decide +kernel
theorem d_method_3_29 : decode method_3_code 29 = .ok (.if_icmp .ge 5, 3) := by decide +kernel
theorem d_method_3_32 : decode method_3_code 32 = .ok (.iconst 4, 1) := by decide +kernel
theorem d_method_3_33 : decode method_3_code 33 = .ok (.ireturn, 1) := by decide +kernel
theorem d_method_3_34 : decode method_3_code 34 = .ok (.iload_n 0, 1) := by decide +kernel
theorem d_method_3_35 : decode method_3_code 35 = .ok (.ldc 54, 2) := by decide +kernel
theorem d_method_3_37 : decode method_3_code 37 = .ok (.if_icmp .ge 5, 3) := by decide +kernel
theorem d_method_3_40 : decode method_3_code 40 = .ok (.iconst 5, 1) := by decide +kernel
theorem d_method_3_41 : decode method_3_code 41 = .ok (.ireturn, 1) := by decide +kernel
theorem d_method_3_42 : decode method_3_code 42 = .ok (.iload_n 0, 1) := by decide +kernel
theorem d_method_3_43 : decode method_3_code 43 = .ok (.ldc 55, 2) := by decide +kernel
theorem d_method_3_45 : decode method_3_code 45 = .ok (.if_icmp .ge 6, 3) := by decide +kernel
theorem d_method_3_48 : decode method_3_code 48 = .ok (.bipush 6, 2) := by decide +kernel
theorem d_method_3_50 : decode method_3_code 50 = .ok (.ireturn, 1) := by decide +kernel
theorem d_method_3_51 : decode method_3_code 51 = .ok (.iload_n 0, 1) := by decide +kernel
theorem d_method_3_52 : decode method_3_code 52 = .ok (.ldc 56, 2) := by decide +kernel
theorem d_method_3_54 : decode method_3_code 54 = .ok (.if_icmp .ge 6, 3) := by decide +kernel
theorem d_method_3_57 : decode method_3_code 57 = .ok (.bipush 7, 2) := by decide +kernel
theorem d_method_3_59 : decode method_3_code 59 = .ok (.ireturn, 1) := by decide +kernel
theorem d_method_3_60 : decode method_3_code 60 = .ok (.iload_n 0, 1) := by decide +kernel
theorem d_method_3_61 : decode method_3_code 61 = .ok (.ldc 57, 2) := by decide +kernel
theorem d_method_3_63 : decode method_3_code 63 = .ok (.if_icmp .ge 6, 3) := by decide +kernel
theorem d_method_3_66 : decode method_3_code 66 = .ok (.bipush 8, 2) := by decide +kernel
theorem d_method_3_68 : decode method_3_code 68 = .ok (.ireturn, 1) := by decide +kernel
theorem d_method_3_69 : decode method_3_code 69 = .ok (.iload_n 0, 1) := by decide +kernel
theorem d_method_3_70 : decode method_3_code 70 = .ok (.ldc 58, 2) := by decide +kernel
theorem d_method_3_72 : decode method_3_code 72 = .ok (.if_icmp .ge 6, 3) := by decide +kernel
theorem d_method_3_75 : decode method_3_code 75 = .ok (.bipush 9, 2) := by decide +kernel
theorem d_method_3_77 : decode method_3_code 77 = .ok (.ireturn, 1) := by decide +kernel
theorem d_method_3_78 : decode method_3_code 78 = .ok (.bipush 10, 2) := by decide +kernel
theorem d_method_3_80 : decode method_3_code 80 = .ok (.ireturn, 1) := by decide +kernel
theorem pn_9 : plainName "com/example/phal/phal/model/SourcePositionToStringPinLaw" = true := by first | (simp [plainName, overriddenIn]; done) | decide +kernel
theorem ef_rmDi (m : MethodId) (x0 : Int32) : entryFrame m #[(.int x0)] 1 = mkF m 0 #[.val (.int x0)] [] := by first | (simp [entryFrame, mkF, argsToLocals, Value.category]; done) | rfl
set_option maxRecDepth 65536 in
set_option maxHeartbeats 40000000 in
theorem rmDi (l : Launch) (Z : State) (a0 : Array Value) (hw : ∀ d ∈ tables_1, d.before a0 Z = true) (n : Nat)  (h0 : Heap) (O0 : Ext Z.heap h0) (hn1 : 1 ≤ n) (hn : n < 2 ^ 31) :
    Ctr l Z (⟨"com/example/phal/phal/model/SourcePositionToStringPinLaw", "digits", "(I)I"⟩ : MethodName) method_3_code 1 (some .int) [] ({ frames := 0, cells := 0, slots := 0, locals := 0 } : Room) #[(.int n.toInt32)] h0 (fun v h L => ∃ d : Nat, v = some (.int d.toInt32) ∧ Fr Z.heap.size L ∧ h = h0 ∧ d ≤ 10 ∧ own_D n d) := by
  refine ctr (plainFor_of_name pn_9) ?_
  intro p e s m below meth c s₁ hx hby hml hown hnm hret hlocks hZ X0 e0
  have N0 := Fr.nil Z.heap.size
  have hsz : ∀ {Ls : Array Slot}, Ls.size = 1 → Ls.size = c.maxLocals := fun q => q.trans hml.symm
  refine goE (ef_rmDi m (n.toInt32)) ?_
  show Goes p e below _ (s₁.setTop (mkF m 0 #[.val (.int n.toInt32)] []))
  refine gIloadN X0 hx (hb hby d_method_3_0) rfl ?_
  refine gBipush X0 hx (hb hby d_method_3_1) (v := (10 : Int32)) rfl ?_
  by_cases g1 : n < 10
  · refine gIcmpN X0 hx (hb hby d_method_3_3) (XT.ii_ge_f ((own_ltn (b := 10) (by omega) (by decide)).mpr g1)) ?_
    show Goes p e below _ (s₁.setTop (mkF m 6 #[.val (.int n.toInt32)] []))
    refine gIconst X0 hx (hb hby d_method_3_6) (v := (1 : Int32)) rfl ?_
    exact goRetI X0 hx hret hlocks (hb hby d_method_3_7) (by decide) (by decide) e0 (⟨1, rfl, N0, rfl, by decide, by decide, by show 1 ≤ n; omega, g1⟩)
  · refine gIcmpY X0 hx (hb hby d_method_3_3) (pc' := 8) (XT.ii_ge_t (fun q => g1 ((own_ltn (b := 10) (by omega) (by decide)).mp q))) (by decide) (by decide) ?_
    show Goes p e below _ (s₁.setTop (mkF m 8 #[.val (.int n.toInt32)] []))
    refine gIloadN X0 hx (hb hby d_method_3_8) rfl ?_
    refine gBipush X0 hx (hb hby d_method_3_9) (v := (100 : Int32)) rfl ?_
    by_cases g2 : n < 100
    · refine gIcmpN X0 hx (hb hby d_method_3_11) (XT.ii_ge_f ((own_ltn (b := 100) (by omega) (by decide)).mpr g2)) ?_
      show Goes p e below _ (s₁.setTop (mkF m 14 #[.val (.int n.toInt32)] []))
      refine gIconst X0 hx (hb hby d_method_3_14) (v := (2 : Int32)) rfl ?_
      exact goRetI X0 hx hret hlocks (hb hby d_method_3_15) (by decide) (by decide) e0 (⟨2, rfl, N0, rfl, by decide, by decide, by show 10 ≤ n; omega, g2⟩)
    · refine gIcmpY X0 hx (hb hby d_method_3_11) (pc' := 16) (XT.ii_ge_t (fun q => g2 ((own_ltn (b := 100) (by omega) (by decide)).mp q))) (by decide) (by decide) ?_
      show Goes p e below _ (s₁.setTop (mkF m 16 #[.val (.int n.toInt32)] []))
      refine gIloadN X0 hx (hb hby d_method_3_16) rfl ?_
      refine gSipush X0 hx (hb hby d_method_3_17) (v := (1000 : Int32)) rfl ?_
      by_cases g3 : n < 1000
      · refine gIcmpN X0 hx (hb hby d_method_3_20) (XT.ii_ge_f ((own_ltn (b := 1000) (by omega) (by decide)).mpr g3)) ?_
        show Goes p e below _ (s₁.setTop (mkF m 23 #[.val (.int n.toInt32)] []))
        refine gIconst X0 hx (hb hby d_method_3_23) (v := (3 : Int32)) rfl ?_
        exact goRetI X0 hx hret hlocks (hb hby d_method_3_24) (by decide) (by decide) e0 (⟨3, rfl, N0, rfl, by decide, by decide, by show 100 ≤ n; omega, g3⟩)
      · refine gIcmpY X0 hx (hb hby d_method_3_20) (pc' := 25) (XT.ii_ge_t (fun q => g3 ((own_ltn (b := 1000) (by omega) (by decide)).mp q))) (by decide) (by decide) ?_
        show Goes p e below _ (s₁.setTop (mkF m 25 #[.val (.int n.toInt32)] []))
        refine gIloadN X0 hx (hb hby d_method_3_25) rfl ?_
        refine gSipush X0 hx (hb hby d_method_3_26) (v := (10000 : Int32)) rfl ?_
        by_cases g4 : n < 10000
        · refine gIcmpN X0 hx (hb hby d_method_3_29) (XT.ii_ge_f ((own_ltn (b := 10000) (by omega) (by decide)).mpr g4)) ?_
          show Goes p e below _ (s₁.setTop (mkF m 32 #[.val (.int n.toInt32)] []))
          refine gIconst X0 hx (hb hby d_method_3_32) (v := (4 : Int32)) rfl ?_
          exact goRetI X0 hx hret hlocks (hb hby d_method_3_33) (by decide) (by decide) e0 (⟨4, rfl, N0, rfl, by decide, by decide, by show 1000 ≤ n; omega, g4⟩)
        · refine gIcmpY X0 hx (hb hby d_method_3_29) (pc' := 34) (XT.ii_ge_t (fun q => g4 ((own_ltn (b := 10000) (by omega) (by decide)).mp q))) (by decide) (by decide) ?_
          show Goes p e below _ (s₁.setTop (mkF m 34 #[.val (.int n.toInt32)] []))
          refine gIloadN X0 hx (hb hby d_method_3_34) rfl ?_
          refine gLdcI X0 hx hZ hown (hw _ (List.mem_of_getElem? (i := 248) rfl)) (hb hby d_method_3_35) ?_
          by_cases g5 : n < 100000
          · refine gIcmpN X0 hx (hb hby d_method_3_37) (XT.ii_ge_f ((own_ltn (b := 100000) (by omega) (by decide)).mpr g5)) ?_
            show Goes p e below _ (s₁.setTop (mkF m 40 #[.val (.int n.toInt32)] []))
            refine gIconst X0 hx (hb hby d_method_3_40) (v := (5 : Int32)) rfl ?_
            exact goRetI X0 hx hret hlocks (hb hby d_method_3_41) (by decide) (by decide) e0 (⟨5, rfl, N0, rfl, by decide, by decide, by show 10000 ≤ n; omega, g5⟩)
          · refine gIcmpY X0 hx (hb hby d_method_3_37) (pc' := 42) (XT.ii_ge_t (fun q => g5 ((own_ltn (b := 100000) (by omega) (by decide)).mp q))) (by decide) (by decide) ?_
            show Goes p e below _ (s₁.setTop (mkF m 42 #[.val (.int n.toInt32)] []))
            refine gIloadN X0 hx (hb hby d_method_3_42) rfl ?_
            refine gLdcI X0 hx hZ hown (hw _ (List.mem_of_getElem? (i := 249) rfl)) (hb hby d_method_3_43) ?_
            by_cases g6 : n < 1000000
            · refine gIcmpN X0 hx (hb hby d_method_3_45) (XT.ii_ge_f ((own_ltn (b := 1000000) (by omega) (by decide)).mpr g6)) ?_
              show Goes p e below _ (s₁.setTop (mkF m 48 #[.val (.int n.toInt32)] []))
              refine gBipush X0 hx (hb hby d_method_3_48) (v := (6 : Int32)) rfl ?_
              exact goRetI X0 hx hret hlocks (hb hby d_method_3_50) (by decide) (by decide) e0 (⟨6, rfl, N0, rfl, by decide, by decide, by show 100000 ≤ n; omega, g6⟩)
            · refine gIcmpY X0 hx (hb hby d_method_3_45) (pc' := 51) (XT.ii_ge_t (fun q => g6 ((own_ltn (b := 1000000) (by omega) (by decide)).mp q))) (by decide) (by decide) ?_
              show Goes p e below _ (s₁.setTop (mkF m 51 #[.val (.int n.toInt32)] []))
              refine gIloadN X0 hx (hb hby d_method_3_51) rfl ?_
              refine gLdcI X0 hx hZ hown (hw _ (List.mem_of_getElem? (i := 250) rfl)) (hb hby d_method_3_52) ?_
              by_cases g7 : n < 10000000
              · refine gIcmpN X0 hx (hb hby d_method_3_54) (XT.ii_ge_f ((own_ltn (b := 10000000) (by omega) (by decide)).mpr g7)) ?_
                show Goes p e below _ (s₁.setTop (mkF m 57 #[.val (.int n.toInt32)] []))
                refine gBipush X0 hx (hb hby d_method_3_57) (v := (7 : Int32)) rfl ?_
                exact goRetI X0 hx hret hlocks (hb hby d_method_3_59) (by decide) (by decide) e0 (⟨7, rfl, N0, rfl, by decide, by decide, by show 1000000 ≤ n; omega, g7⟩)
              · refine gIcmpY X0 hx (hb hby d_method_3_54) (pc' := 60) (XT.ii_ge_t (fun q => g7 ((own_ltn (b := 10000000) (by omega) (by decide)).mp q))) (by decide) (by decide) ?_
                show Goes p e below _ (s₁.setTop (mkF m 60 #[.val (.int n.toInt32)] []))
                refine gIloadN X0 hx (hb hby d_method_3_60) rfl ?_
                refine gLdcI X0 hx hZ hown (hw _ (List.mem_of_getElem? (i := 251) rfl)) (hb hby d_method_3_61) ?_
                by_cases g8 : n < 100000000
                · refine gIcmpN X0 hx (hb hby d_method_3_63) (XT.ii_ge_f ((own_ltn (b := 100000000) (by omega) (by decide)).mpr g8)) ?_
                  show Goes p e below _ (s₁.setTop (mkF m 66 #[.val (.int n.toInt32)] []))
                  refine gBipush X0 hx (hb hby d_method_3_66) (v := (8 : Int32)) rfl ?_
                  exact goRetI X0 hx hret hlocks (hb hby d_method_3_68) (by decide) (by decide) e0 (⟨8, rfl, N0, rfl, by decide, by decide, by show 10000000 ≤ n; omega, g8⟩)
                · refine gIcmpY X0 hx (hb hby d_method_3_63) (pc' := 69) (XT.ii_ge_t (fun q => g8 ((own_ltn (b := 100000000) (by omega) (by decide)).mp q))) (by decide) (by decide) ?_
                  show Goes p e below _ (s₁.setTop (mkF m 69 #[.val (.int n.toInt32)] []))
                  refine gIloadN X0 hx (hb hby d_method_3_69) rfl ?_
                  refine gLdcI X0 hx hZ hown (hw _ (List.mem_of_getElem? (i := 252) rfl)) (hb hby d_method_3_70) ?_
                  by_cases g9 : n < 1000000000
                  · refine gIcmpN X0 hx (hb hby d_method_3_72) (XT.ii_ge_f ((own_ltn (b := 1000000000) (by omega) (by decide)).mpr g9)) ?_
                    show Goes p e below _ (s₁.setTop (mkF m 75 #[.val (.int n.toInt32)] []))
                    refine gBipush X0 hx (hb hby d_method_3_75) (v := (9 : Int32)) rfl ?_
                    exact goRetI X0 hx hret hlocks (hb hby d_method_3_77) (by decide) (by decide) e0 (⟨9, rfl, N0, rfl, by decide, by decide, by show 100000000 ≤ n; omega, g9⟩)
                  · refine gIcmpY X0 hx (hb hby d_method_3_72) (pc' := 78) (XT.ii_ge_t (fun q => g9 ((own_ltn (b := 1000000000) (by omega) (by decide)).mp q))) (by decide) (by decide) ?_
                    show Goes p e below _ (s₁.setTop (mkF m 78 #[.val (.int n.toInt32)] []))
                    refine gBipush X0 hx (hb hby d_method_3_78) (v := (10 : Int32)) rfl ?_
                    exact goRetI X0 hx hret hlocks (hb hby d_method_3_80) (by decide) (by decide) e0 (⟨10, rfl, N0, rfl, by decide, by decide, by show 1000000000 ≤ n; omega, by show n < 10000000000; omega⟩)
theorem d_method_4_0 : decode method_4_code 0 = .ok (.iload_n 0, 1) := by decide +kernel
theorem d_method_4_1 : decode method_4_code 1 = .ok (.ifCond .ne 5, 3) := by decide +kernel
theorem d_method_4_4 : decode method_4_code 4 = .ok (.iconst 1, 1) := by decide +kernel
theorem d_method_4_5 : decode method_4_code 5 = .ok (.ireturn, 1) := by decide +kernel
theorem d_method_4_6 : decode method_4_code 6 = .ok (.iload_n 0, 1) := by decide +kernel
theorem d_method_4_7 : decode method_4_code 7 = .ok (.iconst 1, 1) := by decide +kernel
theorem d_method_4_8 : decode method_4_code 8 = .ok (.if_icmp .ne 6, 3) := by decide +kernel
theorem d_method_4_11 : decode method_4_code 11 = .ok (.bipush 10, 2) := by decide +kernel
theorem d_method_4_13 : decode method_4_code 13 = .ok (.ireturn, 1) := by decide +kernel
theorem d_method_4_14 : decode method_4_code 14 = .ok (.iload_n 0, 1) := by decide +kernel
theorem d_method_4_15 : decode method_4_code 15 = .ok (.iconst 2, 1) := by decide +kernel
theorem d_method_4_16 : decode method_4_code 16 = .ok (.if_icmp .ne 6, 3) := by decide +kernel
theorem d_method_4_19 : decode method_4_code 19 = .ok (.bipush 100, 2) := by decide +kernel
theorem d_method_4_21 : decode method_4_code 21 = .ok (.ireturn, 1) := by decide +kernel
theorem d_method_4_22 : decode method_4_code 22 = .ok (.iload_n 0, 1) := by decide +kernel
theorem d_method_4_23 : decode method_4_code 23 = .ok (.iconst 3, 1) := by decide +kernel
theorem d_method_4_24 : decode method_4_code 24 = .ok (.if_icmp .ne 7, 3) := by decide +kernel
theorem d_method_4_27 : decode method_4_code 27 = .ok (.sipush 1000, 3) := by decide +kernel
theorem d_method_4_30 : decode method_4_code 30 = .ok (.ireturn, 1) := by decide +kernel
theorem d_method_4_31 : decode method_4_code 31 = .ok (.iload_n 0, 1) := by decide +kernel
theorem d_method_4_32 : decode method_4_code 32 = .ok (.iconst 4, 1) := by decide +kernel
theorem d_method_4_33 : decode method_4_code 33 = .ok (.if_icmp .ne 7, 3) := by decide +kernel
theorem d_method_4_36 : decode method_4_code 36 = .ok (.sipush 10000, 3) := by decide +kernel
theorem d_method_4_39 : decode method_4_code 39 = .ok (.ireturn, 1) := by decide +kernel
theorem d_method_4_40 : decode method_4_code 40 = .ok (.iload_n 0, 1) := by decide +kernel
theorem d_method_4_41 : decode method_4_code 41 = .ok (.iconst 5, 1) := by decide +kernel
theorem d_method_4_42 : decode method_4_code 42 = .ok (.if_icmp .ne 6, 3) := by decide +kernel
theorem d_method_4_45 : decode method_4_code 45 = .ok (.ldc 54, 2) := by decide +kernel
theorem d_method_4_47 : decode method_4_code 47 = .ok (.ireturn, 1) := by decide +kernel
theorem d_method_4_48 : decode method_4_code 48 = .ok (.iload_n 0, 1) := by decide +kernel
theorem d_method_4_49 : decode method_4_code 49 = .ok (.bipush 6, 2) := by decide +kernel
theorem d_method_4_51 : decode method_4_code 51 = .ok (.if_icmp .ne 6, 3) := by decide +kernel
theorem d_method_4_54 : decode method_4_code 54 = .ok (.ldc 55, 2) := by decide +kernel
theorem d_method_4_56 : decode method_4_code 56 = .ok (.ireturn, 1) := by decide +kernel
theorem d_method_4_57 : decode method_4_code 57 = .ok (.iload_n 0, 1) := by decide +kernel
theorem d_method_4_58 : decode method_4_code 58 = .ok (.bipush 7, 2) := by decide +kernel
theorem d_method_4_60 : decode method_4_code 60 = .ok (.if_icmp .ne 6, 3) := by decide +kernel
theorem d_method_4_63 : decode method_4_code 63 = .ok (.ldc 56, 2) := by decide +kernel
theorem d_method_4_65 : decode method_4_code 65 = .ok (.ireturn, 1) := by decide +kernel
theorem d_method_4_66 : decode method_4_code 66 = .ok (.iload_n 0, 1) := by decide +kernel
theorem d_method_4_67 : decode method_4_code 67 = .ok (.bipush 8, 2) := by decide +kernel
theorem d_method_4_69 : decode method_4_code 69 = .ok (.if_icmp .ne 6, 3) := by decide +kernel
theorem d_method_4_72 : decode method_4_code 72 = .ok (.ldc 57, 2) := by decide +kernel
theorem d_method_4_74 : decode method_4_code 74 = .ok (.ireturn, 1) := by decide +kernel
theorem d_method_4_75 : decode method_4_code 75 = .ok (.ldc 58, 2) := by decide +kernel
theorem d_method_4_77 : decode method_4_code 77 = .ok (.ireturn, 1) := by decide +kernel
theorem ef_rmPw (m : MethodId) (x0 : Int32) : entryFrame m #[(.int x0)] 1 = mkF m 0 #[.val (.int x0)] [] := by first | (simp [entryFrame, mkF, argsToLocals, Value.category]; done) | rfl
set_option maxRecDepth 65536 in
set_option maxHeartbeats 40000000 in
theorem rmPw (l : Launch) (Z : State) (a0 : Array Value) (hw : ∀ d ∈ tables_1, d.before a0 Z = true) (q_ : Nat)  (h0 : Heap) (O0 : Ext Z.heap h0) (hq : q_ ≤ 9) :
    Ctr l Z (⟨"com/example/phal/phal/model/SourcePositionToStringPinLaw", "pow10", "(I)I"⟩ : MethodName) method_4_code 1 (some .int) [] ({ frames := 0, cells := 0, slots := 0, locals := 0 } : Room) #[(.int q_.toInt32)] h0 (fun v h L => v = some (.int (10 ^ q_).toInt32) ∧ Fr Z.heap.size L ∧ h = h0) := by
  refine ctr (plainFor_of_name pn_9) ?_
  intro p e s m below meth c s₁ hx hby hml hown hnm hret hlocks hZ X0 e0
  have N0 := Fr.nil Z.heap.size
  have hsz : ∀ {Ls : Array Slot}, Ls.size = 1 → Ls.size = c.maxLocals := fun q => q.trans hml.symm
  refine goE (ef_rmPw m (q_.toInt32)) ?_
  show Goes p e below _ (s₁.setTop (mkF m 0 #[.val (.int q_.toInt32)] []))
  obtain h | h | h | h | h | h | h | h | h | h : q_ = 0 ∨ q_ = 1 ∨ q_ = 2 ∨ q_ = 3 ∨ q_ = 4 ∨ q_ = 5 ∨ q_ = 6 ∨ q_ = 7 ∨ q_ = 8 ∨ q_ = 9 := by omega
  · subst h
    show Goes p e below _ (s₁.setTop (mkF m 0 #[.val (.int (0 : Nat).toInt32)] []))
    refine gIloadN X0 hx (hb hby d_method_4_0) rfl ?_
    refine gIfN X0 hx (hb hby d_method_4_1) (XT.i0_ne_f rfl) ?_
    show Goes p e below _ (s₁.setTop (mkF m 4 #[.val (.int (0 : Nat).toInt32)] []))
    refine gIconst X0 hx (hb hby d_method_4_4) (v := (1 : Int32)) rfl ?_
    exact goRetI X0 hx hret hlocks (hb hby d_method_4_5) (by decide) (by decide) e0 (⟨rfl, N0, rfl⟩)
  · subst h
    show Goes p e below _ (s₁.setTop (mkF m 0 #[.val (.int (1 : Nat).toInt32)] []))
    refine gIloadN X0 hx (hb hby d_method_4_0) rfl ?_
    refine gIfY X0 hx (hb hby d_method_4_1) (pc' := 6) (XT.i0_ne_t (by decide)) (by decide) (by decide) ?_
    show Goes p e below _ (s₁.setTop (mkF m 6 #[.val (.int (1 : Nat).toInt32)] []))
    refine gIloadN X0 hx (hb hby d_method_4_6) rfl ?_
    refine gIconst X0 hx (hb hby d_method_4_7) (v := (1 : Int32)) rfl ?_
    refine gIcmpN X0 hx (hb hby d_method_4_8) (XT.ii_ne_f rfl) ?_
    show Goes p e below _ (s₁.setTop (mkF m 11 #[.val (.int (1 : Nat).toInt32)] []))
    refine gBipush X0 hx (hb hby d_method_4_11) (v := (10 : Int32)) rfl ?_
    exact goRetI X0 hx hret hlocks (hb hby d_method_4_13) (by decide) (by decide) e0 (⟨rfl, N0, rfl⟩)
  · subst h
    show Goes p e below _ (s₁.setTop (mkF m 0 #[.val (.int (2 : Nat).toInt32)] []))
    refine gIloadN X0 hx (hb hby d_method_4_0) rfl ?_
    refine gIfY X0 hx (hb hby d_method_4_1) (pc' := 6) (XT.i0_ne_t (by decide)) (by decide) (by decide) ?_
    show Goes p e below _ (s₁.setTop (mkF m 6 #[.val (.int (2 : Nat).toInt32)] []))
    refine gIloadN X0 hx (hb hby d_method_4_6) rfl ?_
    refine gIconst X0 hx (hb hby d_method_4_7) (v := (1 : Int32)) rfl ?_
    refine gIcmpY X0 hx (hb hby d_method_4_8) (pc' := 14) (XT.ii_ne_t (by decide)) (by decide) (by decide) ?_
    show Goes p e below _ (s₁.setTop (mkF m 14 #[.val (.int (2 : Nat).toInt32)] []))
    refine gIloadN X0 hx (hb hby d_method_4_14) rfl ?_
    refine gIconst X0 hx (hb hby d_method_4_15) (v := (2 : Int32)) rfl ?_
    refine gIcmpN X0 hx (hb hby d_method_4_16) (XT.ii_ne_f rfl) ?_
    show Goes p e below _ (s₁.setTop (mkF m 19 #[.val (.int (2 : Nat).toInt32)] []))
    refine gBipush X0 hx (hb hby d_method_4_19) (v := (100 : Int32)) rfl ?_
    exact goRetI X0 hx hret hlocks (hb hby d_method_4_21) (by decide) (by decide) e0 (⟨rfl, N0, rfl⟩)
  · subst h
    show Goes p e below _ (s₁.setTop (mkF m 0 #[.val (.int (3 : Nat).toInt32)] []))
    refine gIloadN X0 hx (hb hby d_method_4_0) rfl ?_
    refine gIfY X0 hx (hb hby d_method_4_1) (pc' := 6) (XT.i0_ne_t (by decide)) (by decide) (by decide) ?_
    show Goes p e below _ (s₁.setTop (mkF m 6 #[.val (.int (3 : Nat).toInt32)] []))
    refine gIloadN X0 hx (hb hby d_method_4_6) rfl ?_
    refine gIconst X0 hx (hb hby d_method_4_7) (v := (1 : Int32)) rfl ?_
    refine gIcmpY X0 hx (hb hby d_method_4_8) (pc' := 14) (XT.ii_ne_t (by decide)) (by decide) (by decide) ?_
    show Goes p e below _ (s₁.setTop (mkF m 14 #[.val (.int (3 : Nat).toInt32)] []))
    refine gIloadN X0 hx (hb hby d_method_4_14) rfl ?_
    refine gIconst X0 hx (hb hby d_method_4_15) (v := (2 : Int32)) rfl ?_
    refine gIcmpY X0 hx (hb hby d_method_4_16) (pc' := 22) (XT.ii_ne_t (by decide)) (by decide) (by decide) ?_
    show Goes p e below _ (s₁.setTop (mkF m 22 #[.val (.int (3 : Nat).toInt32)] []))
    refine gIloadN X0 hx (hb hby d_method_4_22) rfl ?_
    refine gIconst X0 hx (hb hby d_method_4_23) (v := (3 : Int32)) rfl ?_
    refine gIcmpN X0 hx (hb hby d_method_4_24) (XT.ii_ne_f rfl) ?_
    show Goes p e below _ (s₁.setTop (mkF m 27 #[.val (.int (3 : Nat).toInt32)] []))
    refine gSipush X0 hx (hb hby d_method_4_27) (v := (1000 : Int32)) rfl ?_
    exact goRetI X0 hx hret hlocks (hb hby d_method_4_30) (by decide) (by decide) e0 (⟨rfl, N0, rfl⟩)
  · subst h
    show Goes p e below _ (s₁.setTop (mkF m 0 #[.val (.int (4 : Nat).toInt32)] []))
    refine gIloadN X0 hx (hb hby d_method_4_0) rfl ?_
    refine gIfY X0 hx (hb hby d_method_4_1) (pc' := 6) (XT.i0_ne_t (by decide)) (by decide) (by decide) ?_
    show Goes p e below _ (s₁.setTop (mkF m 6 #[.val (.int (4 : Nat).toInt32)] []))
    refine gIloadN X0 hx (hb hby d_method_4_6) rfl ?_
    refine gIconst X0 hx (hb hby d_method_4_7) (v := (1 : Int32)) rfl ?_
    refine gIcmpY X0 hx (hb hby d_method_4_8) (pc' := 14) (XT.ii_ne_t (by decide)) (by decide) (by decide) ?_
    show Goes p e below _ (s₁.setTop (mkF m 14 #[.val (.int (4 : Nat).toInt32)] []))
    refine gIloadN X0 hx (hb hby d_method_4_14) rfl ?_
    refine gIconst X0 hx (hb hby d_method_4_15) (v := (2 : Int32)) rfl ?_
    refine gIcmpY X0 hx (hb hby d_method_4_16) (pc' := 22) (XT.ii_ne_t (by decide)) (by decide) (by decide) ?_
    show Goes p e below _ (s₁.setTop (mkF m 22 #[.val (.int (4 : Nat).toInt32)] []))
    refine gIloadN X0 hx (hb hby d_method_4_22) rfl ?_
    refine gIconst X0 hx (hb hby d_method_4_23) (v := (3 : Int32)) rfl ?_
    refine gIcmpY X0 hx (hb hby d_method_4_24) (pc' := 31) (XT.ii_ne_t (by decide)) (by decide) (by decide) ?_
    show Goes p e below _ (s₁.setTop (mkF m 31 #[.val (.int (4 : Nat).toInt32)] []))
    refine gIloadN X0 hx (hb hby d_method_4_31) rfl ?_
    refine gIconst X0 hx (hb hby d_method_4_32) (v := (4 : Int32)) rfl ?_
    refine gIcmpN X0 hx (hb hby d_method_4_33) (XT.ii_ne_f rfl) ?_
    show Goes p e below _ (s₁.setTop (mkF m 36 #[.val (.int (4 : Nat).toInt32)] []))
    refine gSipush X0 hx (hb hby d_method_4_36) (v := (10000 : Int32)) rfl ?_
    exact goRetI X0 hx hret hlocks (hb hby d_method_4_39) (by decide) (by decide) e0 (⟨rfl, N0, rfl⟩)
  · subst h
    show Goes p e below _ (s₁.setTop (mkF m 0 #[.val (.int (5 : Nat).toInt32)] []))
    refine gIloadN X0 hx (hb hby d_method_4_0) rfl ?_
    refine gIfY X0 hx (hb hby d_method_4_1) (pc' := 6) (XT.i0_ne_t (by decide)) (by decide) (by decide) ?_
    show Goes p e below _ (s₁.setTop (mkF m 6 #[.val (.int (5 : Nat).toInt32)] []))
    refine gIloadN X0 hx (hb hby d_method_4_6) rfl ?_
    refine gIconst X0 hx (hb hby d_method_4_7) (v := (1 : Int32)) rfl ?_
    refine gIcmpY X0 hx (hb hby d_method_4_8) (pc' := 14) (XT.ii_ne_t (by decide)) (by decide) (by decide) ?_
    show Goes p e below _ (s₁.setTop (mkF m 14 #[.val (.int (5 : Nat).toInt32)] []))
    refine gIloadN X0 hx (hb hby d_method_4_14) rfl ?_
    refine gIconst X0 hx (hb hby d_method_4_15) (v := (2 : Int32)) rfl ?_
    refine gIcmpY X0 hx (hb hby d_method_4_16) (pc' := 22) (XT.ii_ne_t (by decide)) (by decide) (by decide) ?_
    show Goes p e below _ (s₁.setTop (mkF m 22 #[.val (.int (5 : Nat).toInt32)] []))
    refine gIloadN X0 hx (hb hby d_method_4_22) rfl ?_
    refine gIconst X0 hx (hb hby d_method_4_23) (v := (3 : Int32)) rfl ?_
    refine gIcmpY X0 hx (hb hby d_method_4_24) (pc' := 31) (XT.ii_ne_t (by decide)) (by decide) (by decide) ?_
    show Goes p e below _ (s₁.setTop (mkF m 31 #[.val (.int (5 : Nat).toInt32)] []))
    refine gIloadN X0 hx (hb hby d_method_4_31) rfl ?_
    refine gIconst X0 hx (hb hby d_method_4_32) (v := (4 : Int32)) rfl ?_
    refine gIcmpY X0 hx (hb hby d_method_4_33) (pc' := 40) (XT.ii_ne_t (by decide)) (by decide) (by decide) ?_
    show Goes p e below _ (s₁.setTop (mkF m 40 #[.val (.int (5 : Nat).toInt32)] []))
    refine gIloadN X0 hx (hb hby d_method_4_40) rfl ?_
    refine gIconst X0 hx (hb hby d_method_4_41) (v := (5 : Int32)) rfl ?_
    refine gIcmpN X0 hx (hb hby d_method_4_42) (XT.ii_ne_f rfl) ?_
    show Goes p e below _ (s₁.setTop (mkF m 45 #[.val (.int (5 : Nat).toInt32)] []))
    refine gLdcI X0 hx hZ hown (hw _ (List.mem_of_getElem? (i := 248) rfl)) (hb hby d_method_4_45) ?_
    exact goRetI X0 hx hret hlocks (hb hby d_method_4_47) (by decide) (by decide) e0 (⟨rfl, N0, rfl⟩)
  · subst h
    show Goes p e below _ (s₁.setTop (mkF m 0 #[.val (.int (6 : Nat).toInt32)] []))
    refine gIloadN X0 hx (hb hby d_method_4_0) rfl ?_
    refine gIfY X0 hx (hb hby d_method_4_1) (pc' := 6) (XT.i0_ne_t (by decide)) (by decide) (by decide) ?_
    show Goes p e below _ (s₁.setTop (mkF m 6 #[.val (.int (6 : Nat).toInt32)] []))
    refine gIloadN X0 hx (hb hby d_method_4_6) rfl ?_
    refine gIconst X0 hx (hb hby d_method_4_7) (v := (1 : Int32)) rfl ?_
    refine gIcmpY X0 hx (hb hby d_method_4_8) (pc' := 14) (XT.ii_ne_t (by decide)) (by decide) (by decide) ?_
    show Goes p e below _ (s₁.setTop (mkF m 14 #[.val (.int (6 : Nat).toInt32)] []))
    refine gIloadN X0 hx (hb hby d_method_4_14) rfl ?_
    refine gIconst X0 hx (hb hby d_method_4_15) (v := (2 : Int32)) rfl ?_
    refine gIcmpY X0 hx (hb hby d_method_4_16) (pc' := 22) (XT.ii_ne_t (by decide)) (by decide) (by decide) ?_
    show Goes p e below _ (s₁.setTop (mkF m 22 #[.val (.int (6 : Nat).toInt32)] []))
    refine gIloadN X0 hx (hb hby d_method_4_22) rfl ?_
    refine gIconst X0 hx (hb hby d_method_4_23) (v := (3 : Int32)) rfl ?_
    refine gIcmpY X0 hx (hb hby d_method_4_24) (pc' := 31) (XT.ii_ne_t (by decide)) (by decide) (by decide) ?_
    show Goes p e below _ (s₁.setTop (mkF m 31 #[.val (.int (6 : Nat).toInt32)] []))
    refine gIloadN X0 hx (hb hby d_method_4_31) rfl ?_
    refine gIconst X0 hx (hb hby d_method_4_32) (v := (4 : Int32)) rfl ?_
    refine gIcmpY X0 hx (hb hby d_method_4_33) (pc' := 40) (XT.ii_ne_t (by decide)) (by decide) (by decide) ?_
    show Goes p e below _ (s₁.setTop (mkF m 40 #[.val (.int (6 : Nat).toInt32)] []))
    refine gIloadN X0 hx (hb hby d_method_4_40) rfl ?_
    refine gIconst X0 hx (hb hby d_method_4_41) (v := (5 : Int32)) rfl ?_
    refine gIcmpY X0 hx (hb hby d_method_4_42) (pc' := 48) (XT.ii_ne_t (by decide)) (by decide) (by decide) ?_
    show Goes p e below _ (s₁.setTop (mkF m 48 #[.val (.int (6 : Nat).toInt32)] []))
    refine gIloadN X0 hx (hb hby d_method_4_48) rfl ?_
    refine gBipush X0 hx (hb hby d_method_4_49) (v := (6 : Int32)) rfl ?_
    refine gIcmpN X0 hx (hb hby d_method_4_51) (XT.ii_ne_f rfl) ?_
    show Goes p e below _ (s₁.setTop (mkF m 54 #[.val (.int (6 : Nat).toInt32)] []))
    refine gLdcI X0 hx hZ hown (hw _ (List.mem_of_getElem? (i := 249) rfl)) (hb hby d_method_4_54) ?_
    exact goRetI X0 hx hret hlocks (hb hby d_method_4_56) (by decide) (by decide) e0 (⟨rfl, N0, rfl⟩)
  · subst h
    show Goes p e below _ (s₁.setTop (mkF m 0 #[.val (.int (7 : Nat).toInt32)] []))
    refine gIloadN X0 hx (hb hby d_method_4_0) rfl ?_
    refine gIfY X0 hx (hb hby d_method_4_1) (pc' := 6) (XT.i0_ne_t (by decide)) (by decide) (by decide) ?_
    show Goes p e below _ (s₁.setTop (mkF m 6 #[.val (.int (7 : Nat).toInt32)] []))
    refine gIloadN X0 hx (hb hby d_method_4_6) rfl ?_
    refine gIconst X0 hx (hb hby d_method_4_7) (v := (1 : Int32)) rfl ?_
    refine gIcmpY X0 hx (hb hby d_method_4_8) (pc' := 14) (XT.ii_ne_t (by decide)) (by decide) (by decide) ?_
    show Goes p e below _ (s₁.setTop (mkF m 14 #[.val (.int (7 : Nat).toInt32)] []))
    refine gIloadN X0 hx (hb hby d_method_4_14) rfl ?_
    refine gIconst X0 hx (hb hby d_method_4_15) (v := (2 : Int32)) rfl ?_
    refine gIcmpY X0 hx (hb hby d_method_4_16) (pc' := 22) (XT.ii_ne_t (by decide)) (by decide) (by decide) ?_
    show Goes p e below _ (s₁.setTop (mkF m 22 #[.val (.int (7 : Nat).toInt32)] []))
    refine gIloadN X0 hx (hb hby d_method_4_22) rfl ?_
    refine gIconst X0 hx (hb hby d_method_4_23) (v := (3 : Int32)) rfl ?_
    refine gIcmpY X0 hx (hb hby d_method_4_24) (pc' := 31) (XT.ii_ne_t (by decide)) (by decide) (by decide) ?_
    show Goes p e below _ (s₁.setTop (mkF m 31 #[.val (.int (7 : Nat).toInt32)] []))
    refine gIloadN X0 hx (hb hby d_method_4_31) rfl ?_
    refine gIconst X0 hx (hb hby d_method_4_32) (v := (4 : Int32)) rfl ?_
    refine gIcmpY X0 hx (hb hby d_method_4_33) (pc' := 40) (XT.ii_ne_t (by decide)) (by decide) (by decide) ?_
    show Goes p e below _ (s₁.setTop (mkF m 40 #[.val (.int (7 : Nat).toInt32)] []))
    refine gIloadN X0 hx (hb hby d_method_4_40) rfl ?_
    refine gIconst X0 hx (hb hby d_method_4_41) (v := (5 : Int32)) rfl ?_
    refine gIcmpY X0 hx (hb hby d_method_4_42) (pc' := 48) (XT.ii_ne_t (by decide)) (by decide) (by decide) ?_
    show Goes p e below _ (s₁.setTop (mkF m 48 #[.val (.int (7 : Nat).toInt32)] []))
    refine gIloadN X0 hx (hb hby d_method_4_48) rfl ?_
    refine gBipush X0 hx (hb hby d_method_4_49) (v := (6 : Int32)) rfl ?_
    refine gIcmpY X0 hx (hb hby d_method_4_51) (pc' := 57) (XT.ii_ne_t (by decide)) (by decide) (by decide) ?_
    show Goes p e below _ (s₁.setTop (mkF m 57 #[.val (.int (7 : Nat).toInt32)] []))
    refine gIloadN X0 hx (hb hby d_method_4_57) rfl ?_
    refine gBipush X0 hx (hb hby d_method_4_58) (v := (7 : Int32)) rfl ?_
    refine gIcmpN X0 hx (hb hby d_method_4_60) (XT.ii_ne_f rfl) ?_
    show Goes p e below _ (s₁.setTop (mkF m 63 #[.val (.int (7 : Nat).toInt32)] []))
    refine gLdcI X0 hx hZ hown (hw _ (List.mem_of_getElem? (i := 250) rfl)) (hb hby d_method_4_63) ?_
    exact goRetI X0 hx hret hlocks (hb hby d_method_4_65) (by decide) (by decide) e0 (⟨rfl, N0, rfl⟩)
  · subst h
    show Goes p e below _ (s₁.setTop (mkF m 0 #[.val (.int (8 : Nat).toInt32)] []))
    refine gIloadN X0 hx (hb hby d_method_4_0) rfl ?_
    refine gIfY X0 hx (hb hby d_method_4_1) (pc' := 6) (XT.i0_ne_t (by decide)) (by decide) (by decide) ?_
    show Goes p e below _ (s₁.setTop (mkF m 6 #[.val (.int (8 : Nat).toInt32)] []))
    refine gIloadN X0 hx (hb hby d_method_4_6) rfl ?_
    refine gIconst X0 hx (hb hby d_method_4_7) (v := (1 : Int32)) rfl ?_
    refine gIcmpY X0 hx (hb hby d_method_4_8) (pc' := 14) (XT.ii_ne_t (by decide)) (by decide) (by decide) ?_
    show Goes p e below _ (s₁.setTop (mkF m 14 #[.val (.int (8 : Nat).toInt32)] []))
    refine gIloadN X0 hx (hb hby d_method_4_14) rfl ?_
    refine gIconst X0 hx (hb hby d_method_4_15) (v := (2 : Int32)) rfl ?_
    refine gIcmpY X0 hx (hb hby d_method_4_16) (pc' := 22) (XT.ii_ne_t (by decide)) (by decide) (by decide) ?_
    show Goes p e below _ (s₁.setTop (mkF m 22 #[.val (.int (8 : Nat).toInt32)] []))
    refine gIloadN X0 hx (hb hby d_method_4_22) rfl ?_
    refine gIconst X0 hx (hb hby d_method_4_23) (v := (3 : Int32)) rfl ?_
    refine gIcmpY X0 hx (hb hby d_method_4_24) (pc' := 31) (XT.ii_ne_t (by decide)) (by decide) (by decide) ?_
    show Goes p e below _ (s₁.setTop (mkF m 31 #[.val (.int (8 : Nat).toInt32)] []))
    refine gIloadN X0 hx (hb hby d_method_4_31) rfl ?_
    refine gIconst X0 hx (hb hby d_method_4_32) (v := (4 : Int32)) rfl ?_
    refine gIcmpY X0 hx (hb hby d_method_4_33) (pc' := 40) (XT.ii_ne_t (by decide)) (by decide) (by decide) ?_
    show Goes p e below _ (s₁.setTop (mkF m 40 #[.val (.int (8 : Nat).toInt32)] []))
    refine gIloadN X0 hx (hb hby d_method_4_40) rfl ?_
    refine gIconst X0 hx (hb hby d_method_4_41) (v := (5 : Int32)) rfl ?_
    refine gIcmpY X0 hx (hb hby d_method_4_42) (pc' := 48) (XT.ii_ne_t (by decide)) (by decide) (by decide) ?_
    show Goes p e below _ (s₁.setTop (mkF m 48 #[.val (.int (8 : Nat).toInt32)] []))
    refine gIloadN X0 hx (hb hby d_method_4_48) rfl ?_
    refine gBipush X0 hx (hb hby d_method_4_49) (v := (6 : Int32)) rfl ?_
    refine gIcmpY X0 hx (hb hby d_method_4_51) (pc' := 57) (XT.ii_ne_t (by decide)) (by decide) (by decide) ?_
    show Goes p e below _ (s₁.setTop (mkF m 57 #[.val (.int (8 : Nat).toInt32)] []))
    refine gIloadN X0 hx (hb hby d_method_4_57) rfl ?_
    refine gBipush X0 hx (hb hby d_method_4_58) (v := (7 : Int32)) rfl ?_
    refine gIcmpY X0 hx (hb hby d_method_4_60) (pc' := 66) (XT.ii_ne_t (by decide)) (by decide) (by decide) ?_
    show Goes p e below _ (s₁.setTop (mkF m 66 #[.val (.int (8 : Nat).toInt32)] []))
    refine gIloadN X0 hx (hb hby d_method_4_66) rfl ?_
    refine gBipush X0 hx (hb hby d_method_4_67) (v := (8 : Int32)) rfl ?_
    refine gIcmpN X0 hx (hb hby d_method_4_69) (XT.ii_ne_f rfl) ?_
    show Goes p e below _ (s₁.setTop (mkF m 72 #[.val (.int (8 : Nat).toInt32)] []))
    refine gLdcI X0 hx hZ hown (hw _ (List.mem_of_getElem? (i := 251) rfl)) (hb hby d_method_4_72) ?_
    exact goRetI X0 hx hret hlocks (hb hby d_method_4_74) (by decide) (by decide) e0 (⟨rfl, N0, rfl⟩)
  · subst h
    show Goes p e below _ (s₁.setTop (mkF m 0 #[.val (.int (9 : Nat).toInt32)] []))
    refine gIloadN X0 hx (hb hby d_method_4_0) rfl ?_
    refine gIfY X0 hx (hb hby d_method_4_1) (pc' := 6) (XT.i0_ne_t (by decide)) (by decide) (by decide) ?_
    show Goes p e below _ (s₁.setTop (mkF m 6 #[.val (.int (9 : Nat).toInt32)] []))
    refine gIloadN X0 hx (hb hby d_method_4_6) rfl ?_
    refine gIconst X0 hx (hb hby d_method_4_7) (v := (1 : Int32)) rfl ?_
    refine gIcmpY X0 hx (hb hby d_method_4_8) (pc' := 14) (XT.ii_ne_t (by decide)) (by decide) (by decide) ?_
    show Goes p e below _ (s₁.setTop (mkF m 14 #[.val (.int (9 : Nat).toInt32)] []))
    refine gIloadN X0 hx (hb hby d_method_4_14) rfl ?_
    refine gIconst X0 hx (hb hby d_method_4_15) (v := (2 : Int32)) rfl ?_
    refine gIcmpY X0 hx (hb hby d_method_4_16) (pc' := 22) (XT.ii_ne_t (by decide)) (by decide) (by decide) ?_
    show Goes p e below _ (s₁.setTop (mkF m 22 #[.val (.int (9 : Nat).toInt32)] []))
    refine gIloadN X0 hx (hb hby d_method_4_22) rfl ?_
    refine gIconst X0 hx (hb hby d_method_4_23) (v := (3 : Int32)) rfl ?_
    refine gIcmpY X0 hx (hb hby d_method_4_24) (pc' := 31) (XT.ii_ne_t (by decide)) (by decide) (by decide) ?_
    show Goes p e below _ (s₁.setTop (mkF m 31 #[.val (.int (9 : Nat).toInt32)] []))
    refine gIloadN X0 hx (hb hby d_method_4_31) rfl ?_
    refine gIconst X0 hx (hb hby d_method_4_32) (v := (4 : Int32)) rfl ?_
    refine gIcmpY X0 hx (hb hby d_method_4_33) (pc' := 40) (XT.ii_ne_t (by decide)) (by decide) (by decide) ?_
    show Goes p e below _ (s₁.setTop (mkF m 40 #[.val (.int (9 : Nat).toInt32)] []))
    refine gIloadN X0 hx (hb hby d_method_4_40) rfl ?_
    refine gIconst X0 hx (hb hby d_method_4_41) (v := (5 : Int32)) rfl ?_
    refine gIcmpY X0 hx (hb hby d_method_4_42) (pc' := 48) (XT.ii_ne_t (by decide)) (by decide) (by decide) ?_
    show Goes p e below _ (s₁.setTop (mkF m 48 #[.val (.int (9 : Nat).toInt32)] []))
    refine gIloadN X0 hx (hb hby d_method_4_48) rfl ?_
    refine gBipush X0 hx (hb hby d_method_4_49) (v := (6 : Int32)) rfl ?_
    refine gIcmpY X0 hx (hb hby d_method_4_51) (pc' := 57) (XT.ii_ne_t (by decide)) (by decide) (by decide) ?_
    show Goes p e below _ (s₁.setTop (mkF m 57 #[.val (.int (9 : Nat).toInt32)] []))
    refine gIloadN X0 hx (hb hby d_method_4_57) rfl ?_
    refine gBipush X0 hx (hb hby d_method_4_58) (v := (7 : Int32)) rfl ?_
    refine gIcmpY X0 hx (hb hby d_method_4_60) (pc' := 66) (XT.ii_ne_t (by decide)) (by decide) (by decide) ?_
    show Goes p e below _ (s₁.setTop (mkF m 66 #[.val (.int (9 : Nat).toInt32)] []))
    refine gIloadN X0 hx (hb hby d_method_4_66) rfl ?_
    refine gBipush X0 hx (hb hby d_method_4_67) (v := (8 : Int32)) rfl ?_
    refine gIcmpY X0 hx (hb hby d_method_4_69) (pc' := 75) (XT.ii_ne_t (by decide)) (by decide) (by decide) ?_
    show Goes p e below _ (s₁.setTop (mkF m 75 #[.val (.int (9 : Nat).toInt32)] []))
    refine gLdcI X0 hx hZ hown (hw _ (List.mem_of_getElem? (i := 252) rfl)) (hb hby d_method_4_75) ?_
    exact goRetI X0 hx hret hlocks (hb hby d_method_4_77) (by decide) (by decide) e0 (⟨rfl, N0, rfl⟩)
theorem d_method_5_0 : decode method_5_code 0 = .ok (.iload 4, 2) := by decide +kernel
theorem d_method_5_2 : decode method_5_code 2 = .ok (.iload_n 3, 1) := by decide +kernel
theorem d_method_5_3 : decode method_5_code 3 = .ok (.if_icmp .lt 5, 3) := by decide +kernel
theorem d_method_5_6 : decode method_5_code 6 = .ok (.iconst 1, 1) := by decide +kernel
theorem d_method_5_7 : decode method_5_code 7 = .ok (.ireturn, 1) := by decide +kernel
theorem d_method_5_8 : decode method_5_code 8 = .ok (.iload_n 2, 1) := by decide +kernel
theorem d_method_5_9 : decode method_5_code 9 = .ok (.iload_n 3, 1) := by decide +kernel
theorem d_method_5_10 : decode method_5_code 10 = .ok (.iconst 1, 1) := by decide +kernel
theorem d_method_5_11 : decode method_5_code 11 = .ok (.isub, 1) := by decide +kernel
theorem d_method_5_12 : decode method_5_code 12 = .ok (.iload 4, 2) := by decide +kernel
theorem d_method_5_14 : decode method_5_code 14 = .ok (.isub, 1) := by decide +kernel
theorem d_method_5_15 : decode method_5_code 15 = .ok (.invokestatic 59, 3) := by decide +kernel
theorem d_method_5_18 : decode method_5_code 18 = .ok (.idiv, 1) := by decide +kernel
theorem d_method_5_19 : decode method_5_code 19 = .ok (.bipush 10, 2) := by decide +kernel
theorem d_method_5_21 : decode method_5_code 21 = .ok (.irem, 1) := by decide +kernel
theorem d_method_5_22 : decode method_5_code 22 = .ok (.istore 5, 2) := by decide +kernel
theorem d_method_5_24 : decode method_5_code 24 = .ok (.aload_n 0, 1) := by decide +kernel
theorem d_method_5_25 : decode method_5_code 25 = .ok (.iload_n 1, 1) := by decide +kernel
theorem d_method_5_26 : decode method_5_code 26 = .ok (.iload 4, 2) := by decide +kernel
theorem d_method_5_28 : decode method_5_code 28 = .ok (.iadd, 1) := by decide +kernel
theorem pd_28 : parseMethodDescriptor "(I)C" = some ⟨[.int], some .char⟩ := by decide +kernel
theorem d_method_5_29 : decode method_5_code 29 = .ok (.invokevirtual 46, 3) := by decide +kernel
theorem d_method_5_32 : decode method_5_code 32 = .ok (.bipush 48, 2) := by decide +kernel
theorem d_method_5_34 : decode method_5_code 34 = .ok (.iload 5, 2) := by decide +kernel
theorem d_method_5_36 : decode method_5_code 36 = .ok (.iadd, 1) := by decide +kernel
theorem d_method_5_37 : decode method_5_code 37 = .ok (.if_icmp .ne 7, 3) := by decide +kernel
theorem d_method_5_40 : decode method_5_code 40 = .ok (.iconst 1, 1) := by decide +kernel
theorem d_method_5_41 : decode method_5_code 41 = .ok (.goto 4, 3) := by decide +kernel
theorem d_method_5_45 : decode method_5_code 45 = .ok (.ireturn, 1) := by decide +kernel
theorem ef_rmDa (m : MethodId) (x0 : Addr) (x1 : Int32) (x2 : Int32) (x3 : Int32) (x4 : Int32) : entryFrame m #[(.ref x0), (.int x1), (.int x2), (.int x3), (.int x4)] 6 = mkF m 0 #[.val (.ref x0), .val (.int x1), .val (.int x2), .val (.int x3), .val (.int x4), .unset] [] := by first | (simp [entryFrame, mkF, argsToLocals, Value.category]; done) | rfl
set_option maxRecDepth 65536 in
set_option maxHeartbeats 40000000 in
theorem rmDa (l : Launch) (Z : State) (a0 : Array Value) (hw : ∀ d ∈ tables_1, d.before a0 Z = true) (fm : Value) (s1 us : Addr) (sb : List Int8) (n d st : Nat) (k : Nat) (cs : Int32)  (h0 : Heap) (O0 : Ext Z.heap h0) (S_cs : Sta Z Z.heap "java/lang/String" "COMPACT_STRINGS" "Z" (.int cs)) (hcs : ¬ cs = 0) (S_fm : Sta Z Z.heap "jdk/internal/util/Preconditions" "SIOOBE_FORMATTER" "Ljava/util/function/BiFunction;" fm) (rf : fm.isRef = true) (Es : Exa Z h0 s1 "java/lang/String") (Sv : Fld Z h0 s1 "java/lang/String" "value" "[B" (.ref us)) (Sc : Fld Z h0 s1 "java/lang/String" "coder" "B" (.int (0 : Int32))) (Sy : Ary Z h0 us .byte (own_bv sb)) (hlb : sb.length < 1000) (hn : n < 2 ^ 31) (hd10 : d ≤ 10) (hst : st < 1000) (hk10 : k < 10) (hdig : k < d → sb[st + k]? = some (48 + n / 10 ^ (d - 1 - k) % 10).toInt8) :
    Ctr l Z (⟨"com/example/phal/phal/model/SourcePositionToStringPinLaw", "digitAt", "(Ljava/lang/String;IIII)Z"⟩ : MethodName) method_5_code 6 (some .boolean) [] ({ frames := 4, cells := 0, slots := 0, locals := 53 } : Room) #[(.ref s1), (.int st.toInt32), (.int n.toInt32), (.int d.toInt32), (.int k.toInt32)] h0 (fun v h L => v = some (.int 1) ∧ Fr Z.heap.size L ∧ h = h0) := by
  refine ctr (plainFor_of_name pn_9) ?_
  intro p e s m below meth c s₁ hx hby hml hown hnm hret hlocks hZ X0 e0
  have N0 := Fr.nil Z.heap.size
  have hsz : ∀ {Ls : Array Slot}, Ls.size = 6 → Ls.size = c.maxLocals := fun q => q.trans hml.symm
  refine goE (ef_rmDa m (s1) (st.toInt32) (n.toInt32) (d.toInt32) (k.toInt32)) ?_
  show Goes p e below _ (s₁.setTop (mkF m 0 #[.val (.ref s1), .val (.int st.toInt32), .val (.int n.toInt32), .val (.int d.toInt32), .val (.int k.toInt32), .unset] []))
  refine gIload X0 hx (hb hby d_method_5_0) rfl ?_
  refine gIloadN X0 hx (hb hby d_method_5_2) rfl ?_
  by_cases g : k < d
  · refine gIcmpY X0 hx (hb hby d_method_5_3) (pc' := 8) (XT.ii_lt_t ((own_ltn (by omega) (by omega)).mpr g)) (by decide) (by decide) ?_
    show Goes p e below _ (s₁.setTop (mkF m 8 #[.val (.ref s1), .val (.int st.toInt32), .val (.int n.toInt32), .val (.int d.toInt32), .val (.int k.toInt32), .unset] []))
    refine gIloadN X0 hx (hb hby d_method_5_8) rfl ?_
    refine gIloadN X0 hx (hb hby d_method_5_9) rfl ?_
    refine gIconst X0 hx (hb hby d_method_5_10) (v := (1 : Int32)) rfl ?_
    show Goes p e below _ (s₁.setTop (mkF m 11 #[.val (.ref s1), .val (.int st.toInt32), .val (.int n.toInt32), .val (.int d.toInt32), .val (.int k.toInt32), .unset] [(.int (1 : Nat).toInt32), (.int d.toInt32), (.int n.toInt32)]))
    refine gIsub X0 hx (hb hby d_method_5_11) ?_
    show Goes p e below _ (s₁.setTop (mkF m 12 #[.val (.ref s1), .val (.int st.toInt32), .val (.int n.toInt32), .val (.int d.toInt32), .val (.int k.toInt32), .unset] [(.int (d.toInt32 - (1 : Nat).toInt32)), (.int n.toInt32)]))
    rw [own_subn (by omega) (by omega)]
    show Goes p e below _ (s₁.setTop (mkF m 12 #[.val (.ref s1), .val (.int st.toInt32), .val (.int n.toInt32), .val (.int d.toInt32), .val (.int k.toInt32), .unset] [(.int (d - 1).toInt32), (.int n.toInt32)]))
    refine gIload X0 hx (hb hby d_method_5_12) rfl ?_
    refine gIsub X0 hx (hb hby d_method_5_14) ?_
    show Goes p e below _ (s₁.setTop (mkF m 15 #[.val (.ref s1), .val (.int st.toInt32), .val (.int n.toInt32), .val (.int d.toInt32), .val (.int k.toInt32), .unset] [(.int ((d - 1).toInt32 - k.toInt32)), (.int n.toInt32)]))
    rw [own_subn (by omega) (by omega)]
    show Goes p e below _ (s₁.setTop (mkF m 15 #[.val (.ref s1), .val (.int st.toInt32), .val (.int n.toInt32), .val (.int d.toInt32), .val (.int k.toInt32), .unset] [(.int (d - 1 - k).toInt32), (.int n.toInt32)]))
    have p10 := own_p10 (e := d - 1 - k) (by omega)
    have hdg := hdig g
    have hdl : n / 10 ^ (d - 1 - k) ≤ n := Nat.div_le_self _ _
    clear hdig
    refine goCallS X0 hx hZ hown (hw _ (List.mem_of_getElem? (i := 228) rfl)) (hw _ (List.mem_of_getElem? (i := 229) rfl)) (hw _ (List.mem_of_getElem? (i := 197) rfl)) (hw _ (List.mem_of_getElem? (i := 230) rfl)) (by decide) (rmPw l Z a0 hw (d - 1 - k) h0 O0 (by omega)) 1 (by decide) (by decide) e0 (hsz rfl) [(.int (d - 1 - k).toInt32)] [(.int n.toInt32)] pd_3 rfl rfl rfl (Nat.le_of_eq rfl) (hb hby d_method_5_15) (by decide) (by decide) (fun Tt1 vt1 Lt1 Xt1 qt1 => ?_)
    obtain ⟨rfl, N2, et1⟩ := qt1
    have N3 := Fr.app N0 N2
    show Goes p e below _ (Tt1.setTop (mkF m 18 #[.val (.ref s1), .val (.int st.toInt32), .val (.int n.toInt32), .val (.int d.toInt32), .val (.int k.toInt32), .unset] [(.int (10 ^ (d - 1 - k)).toInt32), (.int n.toInt32)]))
    generalize 10 ^ (d - 1 - k) = P_ at p10 hdg hdl ⊢
    show Goes p e below _ (Tt1.setTop (mkF m 18 #[.val (.ref s1), .val (.int st.toInt32), .val (.int n.toInt32), .val (.int d.toInt32), .val (.int k.toInt32), .unset] [(.int P_.toInt32), (.int n.toInt32)]))
    refine gIdiv Xt1 hx (hb hby d_method_5_18) (fun z => absurd ((own_eqn (b := 0) p10.2 (by decide)).mp z) (Nat.ne_of_gt p10.1)) ?_
    show Goes p e below _ (Tt1.setTop (mkF m 19 #[.val (.ref s1), .val (.int st.toInt32), .val (.int n.toInt32), .val (.int d.toInt32), .val (.int k.toInt32), .unset] [(.int (n.toInt32 / P_.toInt32))]))
    show Goes p e below _ (Tt1.setTop (mkF m 19 #[.val (.ref s1), .val (.int st.toInt32), .val (.int n.toInt32), .val (.int d.toInt32), .val (.int k.toInt32), .unset] [(.int (n.toInt32 / P_.toInt32))]))
    rw [own_divn hn p10.2]
    show Goes p e below _ (Tt1.setTop (mkF m 19 #[.val (.ref s1), .val (.int st.toInt32), .val (.int n.toInt32), .val (.int d.toInt32), .val (.int k.toInt32), .unset] [(.int (n / P_).toInt32)]))
    generalize n / P_ = Q_ at hdg hdl ⊢
    show Goes p e below _ (Tt1.setTop (mkF m 19 #[.val (.ref s1), .val (.int st.toInt32), .val (.int n.toInt32), .val (.int d.toInt32), .val (.int k.toInt32), .unset] [(.int Q_.toInt32)]))
    refine gBipush Xt1 hx (hb hby d_method_5_19) (v := (10 : Int32)) rfl ?_
    refine gIrem Xt1 hx (hb hby d_method_5_21) (by decide) ?_
    show Goes p e below _ (Tt1.setTop (mkF m 22 #[.val (.ref s1), .val (.int st.toInt32), .val (.int n.toInt32), .val (.int d.toInt32), .val (.int k.toInt32), .unset] [(.int (Q_.toInt32 % (10 : Int32)))]))
    rw [own_modn (Nat.lt_of_le_of_lt hdl hn)]
    show Goes p e below _ (Tt1.setTop (mkF m 22 #[.val (.ref s1), .val (.int st.toInt32), .val (.int n.toInt32), .val (.int d.toInt32), .val (.int k.toInt32), .unset] [(.int (Q_ % 10).toInt32)]))
    refine gIstore Xt1 hx (hb hby d_method_5_22) (l' := #[.val (.ref s1), .val (.int st.toInt32), .val (.int n.toInt32), .val (.int d.toInt32), .val (.int k.toInt32), .val (.int (Q_ % 10).toInt32)]) rfl ?_
    refine gAloadN Xt1 hx (hb hby d_method_5_24) rfl rfl ?_
    refine gIloadN Xt1 hx (hb hby d_method_5_25) rfl ?_
    refine gIload Xt1 hx (hb hby d_method_5_26) rfl ?_
    refine gIadd Xt1 hx (hb hby d_method_5_28) ?_
    show Goes p e below _ (Tt1.setTop (mkF m 29 #[.val (.ref s1), .val (.int st.toInt32), .val (.int n.toInt32), .val (.int d.toInt32), .val (.int k.toInt32), .val (.int (Q_ % 10).toInt32)] [(.int (st.toInt32 + k.toInt32)), (.ref s1)]))
    rw [own_addn (by omega)]
    show Goes p e below _ (Tt1.setTop (mkF m 29 #[.val (.ref s1), .val (.int st.toInt32), .val (.int n.toInt32), .val (.int d.toInt32), .val (.int k.toInt32), .val (.int (Q_ % 10).toInt32)] [(.int (st + k).toInt32), (.ref s1)]))
    refine goCallV Xt1 hx hZ hown (hw _ (List.mem_of_getElem? (i := 200) rfl)) (hw _ (List.mem_of_getElem? (i := 201) rfl)) (hw _ (List.mem_of_getElem? (i := 203) rfl)) (hw _ (List.mem_of_getElem? (i := 202) rfl)) (hw _ (List.mem_of_getElem? (i := 4) rfl)) (hw _ (List.mem_of_getElem? (i := 204) rfl)) (by decide) (rmCa l Z a0 hw fm us sb (st + k) (48 + Q_ % 10).toInt8 cs s1 h0 O0 S_cs hcs S_fm rf Es Sv Sc Sy hlb hdg) 0 (by decide) (by decide) et1 Es (hsz rfl) [(.int (st + k).toInt32)] [] pd_28 rfl rfl rfl (Nat.le_of_eq rfl) (hb hby d_method_5_29) (by decide) (by decide) (fun Tt4 vt4 Lt4 Xt4 qt4 => ?_)
    obtain ⟨rfl, N5, et4⟩ := qt4
    have N6 := Fr.app N3 N5
    show Goes p e below _ (Tt4.setTop (mkF m 32 #[.val (.ref s1), .val (.int st.toInt32), .val (.int n.toInt32), .val (.int d.toInt32), .val (.int k.toInt32), .val (.int (Q_ % 10).toInt32)] [(.int (own_chr (48 + Q_ % 10).toInt8))]))
    refine gBipush Xt4 hx (hb hby d_method_5_32) (v := (48 : Int32)) rfl ?_
    refine gIload Xt4 hx (hb hby d_method_5_34) rfl ?_
    refine gIadd Xt4 hx (hb hby d_method_5_36) ?_
    refine gIcmpN Xt4 hx (hb hby d_method_5_37) (XT.ii_ne_f (own_chd _ (Nat.mod_lt _ (by decide)))) ?_
    show Goes p e below _ (Tt4.setTop (mkF m 40 #[.val (.ref s1), .val (.int st.toInt32), .val (.int n.toInt32), .val (.int d.toInt32), .val (.int k.toInt32), .val (.int (Q_ % 10).toInt32)] []))
    refine gIconst Xt4 hx (hb hby d_method_5_40) (v := (1 : Int32)) rfl ?_
    refine gGoto Xt4 hx (hb hby d_method_5_41) (pc' := 45) (by decide) (by decide) ?_
    show Goes p e below _ (Tt4.setTop (mkF m 45 #[.val (.ref s1), .val (.int st.toInt32), .val (.int n.toInt32), .val (.int d.toInt32), .val (.int k.toInt32), .val (.int (Q_ % 10).toInt32)] [(.int (1 : Int32))]))
    exact goRetN Xt4 hx (t := .boolean) hret hlocks (by simp) (hb hby d_method_5_45) (z' := (1 : Int32)) rfl (by decide) (by decide) et4 (⟨rfl, N6, rfl⟩)
  · refine gIcmpN X0 hx (hb hby d_method_5_3) (XT.ii_lt_f (fun z => g ((own_ltn (by omega) (by omega)).mp z))) ?_
    show Goes p e below _ (s₁.setTop (mkF m 6 #[.val (.ref s1), .val (.int st.toInt32), .val (.int n.toInt32), .val (.int d.toInt32), .val (.int k.toInt32), .unset] []))
    refine gIconst X0 hx (hb hby d_method_5_6) (v := (1 : Int32)) rfl ?_
    exact goRetN X0 hx (t := .boolean) hret hlocks (by simp) (hb hby d_method_5_7) (z' := (1 : Int32)) rfl (by decide) (by decide) e0 (⟨rfl, N0, rfl⟩)
theorem d_method_6_0 : decode method_6_code 0 = .ok (.aload_n 0, 1) := by decide +kernel
theorem d_method_6_1 : decode method_6_code 1 = .ok (.iload_n 1, 1) := by decide +kernel
theorem d_method_6_2 : decode method_6_code 2 = .ok (.iload_n 2, 1) := by decide +kernel
theorem d_method_6_3 : decode method_6_code 3 = .ok (.iload_n 3, 1) := by decide +kernel
theorem d_method_6_4 : decode method_6_code 4 = .ok (.iconst 0, 1) := by decide +kernel
theorem pd_29 : parseMethodDescriptor "(Ljava/lang/String;IIII)Z" = some ⟨[(.object "java/lang/String"), .int, .int, .int, .int], some .boolean⟩ := by decide +kernel
theorem d_method_6_5 : decode method_6_code 5 = .ok (.invokestatic 62, 3) := by decide +kernel
theorem d_method_6_8 : decode method_6_code 8 = .ok (.ifCond .eq 110, 3) := by decide +kernel
theorem d_method_6_11 : decode method_6_code 11 = .ok (.aload_n 0, 1) := by decide +kernel
theorem d_method_6_12 : decode method_6_code 12 = .ok (.iload_n 1, 1) := by decide +kernel
theorem d_method_6_13 : decode method_6_code 13 = .ok (.iload_n 2, 1) := by decide +kernel
theorem d_method_6_14 : decode method_6_code 14 = .ok (.iload_n 3, 1) := by decide +kernel
theorem d_method_6_15 : decode method_6_code 15 = .ok (.iconst 1, 1) := by decide +kernel
theorem d_method_6_16 : decode method_6_code 16 = .ok (.invokestatic 62, 3) := by decide +kernel
theorem d_method_6_19 : decode method_6_code 19 = .ok (.ifCond .eq 99, 3) := by decide +kernel
theorem d_method_6_22 : decode method_6_code 22 = .ok (.aload_n 0, 1) := by decide +kernel
theorem d_method_6_23 : decode method_6_code 23 = .ok (.iload_n 1, 1) := by decide +kernel
theorem d_method_6_24 : decode method_6_code 24 = .ok (.iload_n 2, 1) := by decide +kernel
theorem d_method_6_25 : decode method_6_code 25 = .ok (.iload_n 3, 1) := by decide +kernel
theorem d_method_6_26 : decode method_6_code 26 = .ok (.iconst 2, 1) := by decide +kernel
theorem d_method_6_27 : decode method_6_code 27 = .ok (.invokestatic 62, 3) := by decide +kernel
theorem d_method_6_30 : decode method_6_code 30 = .ok (.ifCond .eq 88, 3) := by decide +kernel
theorem d_method_6_33 : decode method_6_code 33 = .ok (.aload_n 0, 1) := by decide +kernel
theorem d_method_6_34 : decode method_6_code 34 = .ok (.iload_n 1, 1) := by decide +kernel
theorem d_method_6_35 : decode method_6_code 35 = .ok (.iload_n 2, 1) := by decide +kernel
theorem d_method_6_36 : decode method_6_code 36 = .ok (.iload_n 3, 1) := by decide +kernel
theorem d_method_6_37 : decode method_6_code 37 = .ok (.iconst 3, 1) := by decide +kernel
theorem d_method_6_38 : decode method_6_code 38 = .ok (.invokestatic 62, 3) := by decide +kernel
theorem d_method_6_41 : decode method_6_code 41 = .ok (.ifCond .eq 77, 3) := by decide +kernel
theorem d_method_6_44 : decode method_6_code 44 = .ok (.aload_n 0, 1) := by decide +kernel
theorem d_method_6_45 : decode method_6_code 45 = .ok (.iload_n 1, 1) := by decide +kernel
theorem d_method_6_46 : decode method_6_code 46 = .ok (.iload_n 2, 1) := by decide +kernel
theorem d_method_6_47 : decode method_6_code 47 = .ok (.iload_n 3, 1) := by decide +kernel
theorem d_method_6_48 : decode method_6_code 48 = .ok (.iconst 4, 1) := by decide +kernel
theorem d_method_6_49 : decode method_6_code 49 = .ok (.invokestatic 62, 3) := by decide +kernel
theorem d_method_6_52 : decode method_6_code 52 = .ok (.ifCond .eq 66, 3) := by decide +kernel
theorem d_method_6_55 : decode method_6_code 55 = .ok (.aload_n 0, 1) := by decide +kernel
theorem d_method_6_56 : decode method_6_code 56 = .ok (.iload_n 1, 1) := by decide +kernel
theorem d_method_6_57 : decode method_6_code 57 = .ok (.iload_n 2, 1) := by decide +kernel
theorem d_method_6_58 : decode method_6_code 58 = .ok (.iload_n 3, 1) := by decide +kernel
theorem d_method_6_59 : decode method_6_code 59 = .ok (.iconst 5, 1) := by decide +kernel
theorem d_method_6_60 : decode method_6_code 60 = .ok (.invokestatic 62, 3) := by decide +kernel
theorem d_method_6_63 : decode method_6_code 63 = .ok (.ifCond .eq 55, 3) := by decide +kernel
theorem d_method_6_66 : decode method_6_code 66 = .ok (.aload_n 0, 1) := by decide +kernel
theorem d_method_6_67 : decode method_6_code 67 = .ok (.iload_n 1, 1) := by decide +kernel
theorem d_method_6_68 : decode method_6_code 68 = .ok (.iload_n 2, 1) := by decide +kernel
theorem d_method_6_69 : decode method_6_code 69 = .ok (.iload_n 3, 1) := by decide +kernel
theorem d_method_6_70 : decode method_6_code 70 = .ok (.bipush 6, 2) := by decide +kernel
theorem d_method_6_72 : decode method_6_code 72 = .ok (.invokestatic 62, 3) := by decide +kernel
theorem d_method_6_75 : decode method_6_code 75 = .ok (.ifCond .eq 43, 3) := by decide +kernel
theorem d_method_6_78 : decode method_6_code 78 = .ok (.aload_n 0, 1) := by decide +kernel
theorem d_method_6_79 : decode method_6_code 79 = .ok (.iload_n 1, 1) := by decide +kernel
theorem d_method_6_80 : decode method_6_code 80 = .ok (.iload_n 2, 1) := by decide +kernel
theorem d_method_6_81 : decode method_6_code 81 = .ok (.iload_n 3, 1) := by decide +kernel
theorem d_method_6_82 : decode method_6_code 82 = .ok (.bipush 7, 2) := by decide +kernel
theorem d_method_6_84 : decode method_6_code 84 = .ok (.invokestatic 62, 3) := by decide +kernel
theorem d_method_6_87 : decode method_6_code 87 = .ok (.ifCond .eq 31, 3) := by decide +kernel
theorem d_method_6_90 : decode method_6_code 90 = .ok (.aload_n 0, 1) := by decide +kernel
theorem d_method_6_91 : decode method_6_code 91 = .ok (.iload_n 1, 1) := by decide +kernel
theorem d_method_6_92 : decode method_6_code 92 = .ok (.iload_n 2, 1) := by decide +kernel
theorem d_method_6_93 : decode method_6_code 93 = .ok (.iload_n 3, 1) := by decide +kernel
theorem d_method_6_94 : decode method_6_code 94 = .ok (.bipush 8, 2) := by decide +kernel
theorem d_method_6_96 : decode method_6_code 96 = .ok (.invokestatic 62, 3) := by decide +kernel
theorem d_method_6_99 : decode method_6_code 99 = .ok (.ifCond .eq 19, 3) := by decide +kernel
theorem d_method_6_102 : decode method_6_code 102 = .ok (.aload_n 0, 1) := by decide +kernel
theorem d_method_6_103 : decode method_6_code 103 = .ok (.iload_n 1, 1) := by decide +kernel
theorem d_method_6_104 : decode method_6_code 104 = .ok (.iload_n 2, 1) := by decide +kernel
theorem d_method_6_105 : decode method_6_code 105 = .ok (.iload_n 3, 1) := by decide +kernel
theorem d_method_6_106 : decode method_6_code 106 = .ok (.bipush 9, 2) := by decide +kernel
theorem d_method_6_108 : decode method_6_code 108 = .ok (.invokestatic 62, 3) := by decide +kernel
theorem d_method_6_111 : decode method_6_code 111 = .ok (.ifCond .eq 7, 3) := by decide +kernel
theorem d_method_6_114 : decode method_6_code 114 = .ok (.iconst 1, 1) := by decide +kernel
theorem d_method_6_115 : decode method_6_code 115 = .ok (.goto 4, 3) := by decide +kernel
theorem d_method_6_119 : decode method_6_code 119 = .ok (.ireturn, 1) := by decide +kernel
theorem ef_rmNu (m : MethodId) (x0 : Addr) (x1 : Int32) (x2 : Int32) (x3 : Int32) : entryFrame m #[(.ref x0), (.int x1), (.int x2), (.int x3)] 4 = mkF m 0 #[.val (.ref x0), .val (.int x1), .val (.int x2), .val (.int x3)] [] := by first | (simp [entryFrame, mkF, argsToLocals, Value.category]; done) | rfl
set_option maxRecDepth 65536 in
set_option maxHeartbeats 40000000 in
theorem rmNu (l : Launch) (Z : State) (a0 : Array Value) (hw : ∀ d ∈ tables_1, d.before a0 Z = true) (fm : Value) (s1 us : Addr) (sb : List Int8) (n d st : Nat) (cs : Int32)  (h0 : Heap) (O0 : Ext Z.heap h0) (S_cs : Sta Z Z.heap "java/lang/String" "COMPACT_STRINGS" "Z" (.int cs)) (hcs : ¬ cs = 0) (S_fm : Sta Z Z.heap "jdk/internal/util/Preconditions" "SIOOBE_FORMATTER" "Ljava/util/function/BiFunction;" fm) (rf : fm.isRef = true) (Es : Exa Z h0 s1 "java/lang/String") (Sv : Fld Z h0 s1 "java/lang/String" "value" "[B" (.ref us)) (Sc : Fld Z h0 s1 "java/lang/String" "coder" "B" (.int (0 : Int32))) (Sy : Ary Z h0 us .byte (own_bv sb)) (hlb : sb.length < 1000) (hn : n < 2 ^ 31) (hd10 : d ≤ 10) (hst : st < 1000) (hdig : ∀ k, k < d → sb[st + k]? = some (48 + n / 10 ^ (d - 1 - k) % 10).toInt8) :
    Ctr l Z (⟨"com/example/phal/phal/model/SourcePositionToStringPinLaw", "number", "(Ljava/lang/String;III)Z"⟩ : MethodName) method_6_code 4 (some .boolean) [] ({ frames := 5, cells := 0, slots := 0, locals := 70 } : Room) #[(.ref s1), (.int st.toInt32), (.int n.toInt32), (.int d.toInt32)] h0 (fun v h L => v = some (.int 1) ∧ Fr Z.heap.size L ∧ h = h0) := by
  refine ctr (plainFor_of_name pn_9) ?_
  intro p e s m below meth c s₁ hx hby hml hown hnm hret hlocks hZ X0 e0
  have N0 := Fr.nil Z.heap.size
  have hsz : ∀ {Ls : Array Slot}, Ls.size = 4 → Ls.size = c.maxLocals := fun q => q.trans hml.symm
  refine goE (ef_rmNu m (s1) (st.toInt32) (n.toInt32) (d.toInt32)) ?_
  show Goes p e below _ (s₁.setTop (mkF m 0 #[.val (.ref s1), .val (.int st.toInt32), .val (.int n.toInt32), .val (.int d.toInt32)] []))
  refine gAloadN X0 hx (hb hby d_method_6_0) rfl rfl ?_
  refine gIloadN X0 hx (hb hby d_method_6_1) rfl ?_
  refine gIloadN X0 hx (hb hby d_method_6_2) rfl ?_
  refine gIloadN X0 hx (hb hby d_method_6_3) rfl ?_
  refine gIconst X0 hx (hb hby d_method_6_4) (v := (0 : Int32)) rfl ?_
  show Goes p e below _ (s₁.setTop (mkF m 5 #[.val (.ref s1), .val (.int st.toInt32), .val (.int n.toInt32), .val (.int d.toInt32)] [(.int (0 : Nat).toInt32), (.int d.toInt32), (.int n.toInt32), (.int st.toInt32), (.ref s1)]))
  refine goCallS X0 hx hZ hown (hw _ (List.mem_of_getElem? (i := 225) rfl)) (hw _ (List.mem_of_getElem? (i := 226) rfl)) (hw _ (List.mem_of_getElem? (i := 197) rfl)) (hw _ (List.mem_of_getElem? (i := 227) rfl)) (by decide) (rmDa l Z a0 hw fm s1 us sb n d st 0 cs h0 O0 S_cs hcs S_fm rf Es Sv Sc Sy hlb hn hd10 hst (by decide) (hdig 0)) 0 (by decide) (by decide) e0 (hsz rfl) [(.ref s1), (.int st.toInt32), (.int n.toInt32), (.int d.toInt32), (.int (0 : Nat).toInt32)] [] pd_29 rfl rfl rfl (Nat.le_of_eq rfl) (hb hby d_method_6_5) (by decide) (by decide) (fun Tt1 vt1 Lt1 Xt1 qt1 => ?_)
  obtain ⟨rfl, N2, et1⟩ := qt1
  have N3 := Fr.app N0 N2
  show Goes p e below _ (Tt1.setTop (mkF m 8 #[.val (.ref s1), .val (.int st.toInt32), .val (.int n.toInt32), .val (.int d.toInt32)] [(.int (1 : Int32))]))
  refine gIfN Xt1 hx (hb hby d_method_6_8) (XT.i0_eq_f (by decide)) ?_
  show Goes p e below _ (Tt1.setTop (mkF m 11 #[.val (.ref s1), .val (.int st.toInt32), .val (.int n.toInt32), .val (.int d.toInt32)] []))
  refine gAloadN Xt1 hx (hb hby d_method_6_11) rfl rfl ?_
  refine gIloadN Xt1 hx (hb hby d_method_6_12) rfl ?_
  refine gIloadN Xt1 hx (hb hby d_method_6_13) rfl ?_
  refine gIloadN Xt1 hx (hb hby d_method_6_14) rfl ?_
  refine gIconst Xt1 hx (hb hby d_method_6_15) (v := (1 : Int32)) rfl ?_
  show Goes p e below _ (Tt1.setTop (mkF m 16 #[.val (.ref s1), .val (.int st.toInt32), .val (.int n.toInt32), .val (.int d.toInt32)] [(.int (1 : Nat).toInt32), (.int d.toInt32), (.int n.toInt32), (.int st.toInt32), (.ref s1)]))
  refine goCallS Xt1 hx hZ hown (hw _ (List.mem_of_getElem? (i := 225) rfl)) (hw _ (List.mem_of_getElem? (i := 226) rfl)) (hw _ (List.mem_of_getElem? (i := 197) rfl)) (hw _ (List.mem_of_getElem? (i := 227) rfl)) (by decide) (rmDa l Z a0 hw fm s1 us sb n d st 1 cs h0 O0 S_cs hcs S_fm rf Es Sv Sc Sy hlb hn hd10 hst (by decide) (hdig 1)) 0 (by decide) (by decide) et1 (hsz rfl) [(.ref s1), (.int st.toInt32), (.int n.toInt32), (.int d.toInt32), (.int (1 : Nat).toInt32)] [] pd_29 rfl rfl rfl (Nat.le_of_eq rfl) (hb hby d_method_6_16) (by decide) (by decide) (fun Tt4 vt4 Lt4 Xt4 qt4 => ?_)
  obtain ⟨rfl, N5, et4⟩ := qt4
  have N6 := Fr.app N3 N5
  show Goes p e below _ (Tt4.setTop (mkF m 19 #[.val (.ref s1), .val (.int st.toInt32), .val (.int n.toInt32), .val (.int d.toInt32)] [(.int (1 : Int32))]))
  refine gIfN Xt4 hx (hb hby d_method_6_19) (XT.i0_eq_f (by decide)) ?_
  show Goes p e below _ (Tt4.setTop (mkF m 22 #[.val (.ref s1), .val (.int st.toInt32), .val (.int n.toInt32), .val (.int d.toInt32)] []))
  refine gAloadN Xt4 hx (hb hby d_method_6_22) rfl rfl ?_
  refine gIloadN Xt4 hx (hb hby d_method_6_23) rfl ?_
  refine gIloadN Xt4 hx (hb hby d_method_6_24) rfl ?_
  refine gIloadN Xt4 hx (hb hby d_method_6_25) rfl ?_
  refine gIconst Xt4 hx (hb hby d_method_6_26) (v := (2 : Int32)) rfl ?_
  show Goes p e below _ (Tt4.setTop (mkF m 27 #[.val (.ref s1), .val (.int st.toInt32), .val (.int n.toInt32), .val (.int d.toInt32)] [(.int (2 : Nat).toInt32), (.int d.toInt32), (.int n.toInt32), (.int st.toInt32), (.ref s1)]))
  refine goCallS Xt4 hx hZ hown (hw _ (List.mem_of_getElem? (i := 225) rfl)) (hw _ (List.mem_of_getElem? (i := 226) rfl)) (hw _ (List.mem_of_getElem? (i := 197) rfl)) (hw _ (List.mem_of_getElem? (i := 227) rfl)) (by decide) (rmDa l Z a0 hw fm s1 us sb n d st 2 cs h0 O0 S_cs hcs S_fm rf Es Sv Sc Sy hlb hn hd10 hst (by decide) (hdig 2)) 0 (by decide) (by decide) et4 (hsz rfl) [(.ref s1), (.int st.toInt32), (.int n.toInt32), (.int d.toInt32), (.int (2 : Nat).toInt32)] [] pd_29 rfl rfl rfl (Nat.le_of_eq rfl) (hb hby d_method_6_27) (by decide) (by decide) (fun Tt7 vt7 Lt7 Xt7 qt7 => ?_)
  obtain ⟨rfl, N8, et7⟩ := qt7
  have N9 := Fr.app N6 N8
  show Goes p e below _ (Tt7.setTop (mkF m 30 #[.val (.ref s1), .val (.int st.toInt32), .val (.int n.toInt32), .val (.int d.toInt32)] [(.int (1 : Int32))]))
  refine gIfN Xt7 hx (hb hby d_method_6_30) (XT.i0_eq_f (by decide)) ?_
  show Goes p e below _ (Tt7.setTop (mkF m 33 #[.val (.ref s1), .val (.int st.toInt32), .val (.int n.toInt32), .val (.int d.toInt32)] []))
  refine gAloadN Xt7 hx (hb hby d_method_6_33) rfl rfl ?_
  refine gIloadN Xt7 hx (hb hby d_method_6_34) rfl ?_
  refine gIloadN Xt7 hx (hb hby d_method_6_35) rfl ?_
  refine gIloadN Xt7 hx (hb hby d_method_6_36) rfl ?_
  refine gIconst Xt7 hx (hb hby d_method_6_37) (v := (3 : Int32)) rfl ?_
  show Goes p e below _ (Tt7.setTop (mkF m 38 #[.val (.ref s1), .val (.int st.toInt32), .val (.int n.toInt32), .val (.int d.toInt32)] [(.int (3 : Nat).toInt32), (.int d.toInt32), (.int n.toInt32), (.int st.toInt32), (.ref s1)]))
  refine goCallS Xt7 hx hZ hown (hw _ (List.mem_of_getElem? (i := 225) rfl)) (hw _ (List.mem_of_getElem? (i := 226) rfl)) (hw _ (List.mem_of_getElem? (i := 197) rfl)) (hw _ (List.mem_of_getElem? (i := 227) rfl)) (by decide) (rmDa l Z a0 hw fm s1 us sb n d st 3 cs h0 O0 S_cs hcs S_fm rf Es Sv Sc Sy hlb hn hd10 hst (by decide) (hdig 3)) 0 (by decide) (by decide) et7 (hsz rfl) [(.ref s1), (.int st.toInt32), (.int n.toInt32), (.int d.toInt32), (.int (3 : Nat).toInt32)] [] pd_29 rfl rfl rfl (Nat.le_of_eq rfl) (hb hby d_method_6_38) (by decide) (by decide) (fun Tt10 vt10 Lt10 Xt10 qt10 => ?_)
  obtain ⟨rfl, N11, et10⟩ := qt10
  have N12 := Fr.app N9 N11
  show Goes p e below _ (Tt10.setTop (mkF m 41 #[.val (.ref s1), .val (.int st.toInt32), .val (.int n.toInt32), .val (.int d.toInt32)] [(.int (1 : Int32))]))
  refine gIfN Xt10 hx (hb hby d_method_6_41) (XT.i0_eq_f (by decide)) ?_
  show Goes p e below _ (Tt10.setTop (mkF m 44 #[.val (.ref s1), .val (.int st.toInt32), .val (.int n.toInt32), .val (.int d.toInt32)] []))
  refine gAloadN Xt10 hx (hb hby d_method_6_44) rfl rfl ?_
  refine gIloadN Xt10 hx (hb hby d_method_6_45) rfl ?_
  refine gIloadN Xt10 hx (hb hby d_method_6_46) rfl ?_
  refine gIloadN Xt10 hx (hb hby d_method_6_47) rfl ?_
  refine gIconst Xt10 hx (hb hby d_method_6_48) (v := (4 : Int32)) rfl ?_
  show Goes p e below _ (Tt10.setTop (mkF m 49 #[.val (.ref s1), .val (.int st.toInt32), .val (.int n.toInt32), .val (.int d.toInt32)] [(.int (4 : Nat).toInt32), (.int d.toInt32), (.int n.toInt32), (.int st.toInt32), (.ref s1)]))
  refine goCallS Xt10 hx hZ hown (hw _ (List.mem_of_getElem? (i := 225) rfl)) (hw _ (List.mem_of_getElem? (i := 226) rfl)) (hw _ (List.mem_of_getElem? (i := 197) rfl)) (hw _ (List.mem_of_getElem? (i := 227) rfl)) (by decide) (rmDa l Z a0 hw fm s1 us sb n d st 4 cs h0 O0 S_cs hcs S_fm rf Es Sv Sc Sy hlb hn hd10 hst (by decide) (hdig 4)) 0 (by decide) (by decide) et10 (hsz rfl) [(.ref s1), (.int st.toInt32), (.int n.toInt32), (.int d.toInt32), (.int (4 : Nat).toInt32)] [] pd_29 rfl rfl rfl (Nat.le_of_eq rfl) (hb hby d_method_6_49) (by decide) (by decide) (fun Tt13 vt13 Lt13 Xt13 qt13 => ?_)
  obtain ⟨rfl, N14, et13⟩ := qt13
  have N15 := Fr.app N12 N14
  show Goes p e below _ (Tt13.setTop (mkF m 52 #[.val (.ref s1), .val (.int st.toInt32), .val (.int n.toInt32), .val (.int d.toInt32)] [(.int (1 : Int32))]))
  refine gIfN Xt13 hx (hb hby d_method_6_52) (XT.i0_eq_f (by decide)) ?_
  show Goes p e below _ (Tt13.setTop (mkF m 55 #[.val (.ref s1), .val (.int st.toInt32), .val (.int n.toInt32), .val (.int d.toInt32)] []))
  refine gAloadN Xt13 hx (hb hby d_method_6_55) rfl rfl ?_
  refine gIloadN Xt13 hx (hb hby d_method_6_56) rfl ?_
  refine gIloadN Xt13 hx (hb hby d_method_6_57) rfl ?_
  refine gIloadN Xt13 hx (hb hby d_method_6_58) rfl ?_
  refine gIconst Xt13 hx (hb hby d_method_6_59) (v := (5 : Int32)) rfl ?_
  show Goes p e below _ (Tt13.setTop (mkF m 60 #[.val (.ref s1), .val (.int st.toInt32), .val (.int n.toInt32), .val (.int d.toInt32)] [(.int (5 : Nat).toInt32), (.int d.toInt32), (.int n.toInt32), (.int st.toInt32), (.ref s1)]))
  refine goCallS Xt13 hx hZ hown (hw _ (List.mem_of_getElem? (i := 225) rfl)) (hw _ (List.mem_of_getElem? (i := 226) rfl)) (hw _ (List.mem_of_getElem? (i := 197) rfl)) (hw _ (List.mem_of_getElem? (i := 227) rfl)) (by decide) (rmDa l Z a0 hw fm s1 us sb n d st 5 cs h0 O0 S_cs hcs S_fm rf Es Sv Sc Sy hlb hn hd10 hst (by decide) (hdig 5)) 0 (by decide) (by decide) et13 (hsz rfl) [(.ref s1), (.int st.toInt32), (.int n.toInt32), (.int d.toInt32), (.int (5 : Nat).toInt32)] [] pd_29 rfl rfl rfl (Nat.le_of_eq rfl) (hb hby d_method_6_60) (by decide) (by decide) (fun Tt16 vt16 Lt16 Xt16 qt16 => ?_)
  obtain ⟨rfl, N17, et16⟩ := qt16
  have N18 := Fr.app N15 N17
  show Goes p e below _ (Tt16.setTop (mkF m 63 #[.val (.ref s1), .val (.int st.toInt32), .val (.int n.toInt32), .val (.int d.toInt32)] [(.int (1 : Int32))]))
  refine gIfN Xt16 hx (hb hby d_method_6_63) (XT.i0_eq_f (by decide)) ?_
  show Goes p e below _ (Tt16.setTop (mkF m 66 #[.val (.ref s1), .val (.int st.toInt32), .val (.int n.toInt32), .val (.int d.toInt32)] []))
  refine gAloadN Xt16 hx (hb hby d_method_6_66) rfl rfl ?_
  refine gIloadN Xt16 hx (hb hby d_method_6_67) rfl ?_
  refine gIloadN Xt16 hx (hb hby d_method_6_68) rfl ?_
  refine gIloadN Xt16 hx (hb hby d_method_6_69) rfl ?_
  refine gBipush Xt16 hx (hb hby d_method_6_70) (v := (6 : Int32)) rfl ?_
  show Goes p e below _ (Tt16.setTop (mkF m 72 #[.val (.ref s1), .val (.int st.toInt32), .val (.int n.toInt32), .val (.int d.toInt32)] [(.int (6 : Nat).toInt32), (.int d.toInt32), (.int n.toInt32), (.int st.toInt32), (.ref s1)]))
  refine goCallS Xt16 hx hZ hown (hw _ (List.mem_of_getElem? (i := 225) rfl)) (hw _ (List.mem_of_getElem? (i := 226) rfl)) (hw _ (List.mem_of_getElem? (i := 197) rfl)) (hw _ (List.mem_of_getElem? (i := 227) rfl)) (by decide) (rmDa l Z a0 hw fm s1 us sb n d st 6 cs h0 O0 S_cs hcs S_fm rf Es Sv Sc Sy hlb hn hd10 hst (by decide) (hdig 6)) 0 (by decide) (by decide) et16 (hsz rfl) [(.ref s1), (.int st.toInt32), (.int n.toInt32), (.int d.toInt32), (.int (6 : Nat).toInt32)] [] pd_29 rfl rfl rfl (Nat.le_of_eq rfl) (hb hby d_method_6_72) (by decide) (by decide) (fun Tt19 vt19 Lt19 Xt19 qt19 => ?_)
  obtain ⟨rfl, N20, et19⟩ := qt19
  have N21 := Fr.app N18 N20
  show Goes p e below _ (Tt19.setTop (mkF m 75 #[.val (.ref s1), .val (.int st.toInt32), .val (.int n.toInt32), .val (.int d.toInt32)] [(.int (1 : Int32))]))
  refine gIfN Xt19 hx (hb hby d_method_6_75) (XT.i0_eq_f (by decide)) ?_
  show Goes p e below _ (Tt19.setTop (mkF m 78 #[.val (.ref s1), .val (.int st.toInt32), .val (.int n.toInt32), .val (.int d.toInt32)] []))
  refine gAloadN Xt19 hx (hb hby d_method_6_78) rfl rfl ?_
  refine gIloadN Xt19 hx (hb hby d_method_6_79) rfl ?_
  refine gIloadN Xt19 hx (hb hby d_method_6_80) rfl ?_
  refine gIloadN Xt19 hx (hb hby d_method_6_81) rfl ?_
  refine gBipush Xt19 hx (hb hby d_method_6_82) (v := (7 : Int32)) rfl ?_
  show Goes p e below _ (Tt19.setTop (mkF m 84 #[.val (.ref s1), .val (.int st.toInt32), .val (.int n.toInt32), .val (.int d.toInt32)] [(.int (7 : Nat).toInt32), (.int d.toInt32), (.int n.toInt32), (.int st.toInt32), (.ref s1)]))
  refine goCallS Xt19 hx hZ hown (hw _ (List.mem_of_getElem? (i := 225) rfl)) (hw _ (List.mem_of_getElem? (i := 226) rfl)) (hw _ (List.mem_of_getElem? (i := 197) rfl)) (hw _ (List.mem_of_getElem? (i := 227) rfl)) (by decide) (rmDa l Z a0 hw fm s1 us sb n d st 7 cs h0 O0 S_cs hcs S_fm rf Es Sv Sc Sy hlb hn hd10 hst (by decide) (hdig 7)) 0 (by decide) (by decide) et19 (hsz rfl) [(.ref s1), (.int st.toInt32), (.int n.toInt32), (.int d.toInt32), (.int (7 : Nat).toInt32)] [] pd_29 rfl rfl rfl (Nat.le_of_eq rfl) (hb hby d_method_6_84) (by decide) (by decide) (fun Tt22 vt22 Lt22 Xt22 qt22 => ?_)
  obtain ⟨rfl, N23, et22⟩ := qt22
  have N24 := Fr.app N21 N23
  show Goes p e below _ (Tt22.setTop (mkF m 87 #[.val (.ref s1), .val (.int st.toInt32), .val (.int n.toInt32), .val (.int d.toInt32)] [(.int (1 : Int32))]))
  refine gIfN Xt22 hx (hb hby d_method_6_87) (XT.i0_eq_f (by decide)) ?_
  show Goes p e below _ (Tt22.setTop (mkF m 90 #[.val (.ref s1), .val (.int st.toInt32), .val (.int n.toInt32), .val (.int d.toInt32)] []))
  refine gAloadN Xt22 hx (hb hby d_method_6_90) rfl rfl ?_
  refine gIloadN Xt22 hx (hb hby d_method_6_91) rfl ?_
  refine gIloadN Xt22 hx (hb hby d_method_6_92) rfl ?_
  refine gIloadN Xt22 hx (hb hby d_method_6_93) rfl ?_
  refine gBipush Xt22 hx (hb hby d_method_6_94) (v := (8 : Int32)) rfl ?_
  show Goes p e below _ (Tt22.setTop (mkF m 96 #[.val (.ref s1), .val (.int st.toInt32), .val (.int n.toInt32), .val (.int d.toInt32)] [(.int (8 : Nat).toInt32), (.int d.toInt32), (.int n.toInt32), (.int st.toInt32), (.ref s1)]))
  refine goCallS Xt22 hx hZ hown (hw _ (List.mem_of_getElem? (i := 225) rfl)) (hw _ (List.mem_of_getElem? (i := 226) rfl)) (hw _ (List.mem_of_getElem? (i := 197) rfl)) (hw _ (List.mem_of_getElem? (i := 227) rfl)) (by decide) (rmDa l Z a0 hw fm s1 us sb n d st 8 cs h0 O0 S_cs hcs S_fm rf Es Sv Sc Sy hlb hn hd10 hst (by decide) (hdig 8)) 0 (by decide) (by decide) et22 (hsz rfl) [(.ref s1), (.int st.toInt32), (.int n.toInt32), (.int d.toInt32), (.int (8 : Nat).toInt32)] [] pd_29 rfl rfl rfl (Nat.le_of_eq rfl) (hb hby d_method_6_96) (by decide) (by decide) (fun Tt25 vt25 Lt25 Xt25 qt25 => ?_)
  obtain ⟨rfl, N26, et25⟩ := qt25
  have N27 := Fr.app N24 N26
  show Goes p e below _ (Tt25.setTop (mkF m 99 #[.val (.ref s1), .val (.int st.toInt32), .val (.int n.toInt32), .val (.int d.toInt32)] [(.int (1 : Int32))]))
  refine gIfN Xt25 hx (hb hby d_method_6_99) (XT.i0_eq_f (by decide)) ?_
  show Goes p e below _ (Tt25.setTop (mkF m 102 #[.val (.ref s1), .val (.int st.toInt32), .val (.int n.toInt32), .val (.int d.toInt32)] []))
  refine gAloadN Xt25 hx (hb hby d_method_6_102) rfl rfl ?_
  refine gIloadN Xt25 hx (hb hby d_method_6_103) rfl ?_
  refine gIloadN Xt25 hx (hb hby d_method_6_104) rfl ?_
  refine gIloadN Xt25 hx (hb hby d_method_6_105) rfl ?_
  refine gBipush Xt25 hx (hb hby d_method_6_106) (v := (9 : Int32)) rfl ?_
  show Goes p e below _ (Tt25.setTop (mkF m 108 #[.val (.ref s1), .val (.int st.toInt32), .val (.int n.toInt32), .val (.int d.toInt32)] [(.int (9 : Nat).toInt32), (.int d.toInt32), (.int n.toInt32), (.int st.toInt32), (.ref s1)]))
  refine goCallS Xt25 hx hZ hown (hw _ (List.mem_of_getElem? (i := 225) rfl)) (hw _ (List.mem_of_getElem? (i := 226) rfl)) (hw _ (List.mem_of_getElem? (i := 197) rfl)) (hw _ (List.mem_of_getElem? (i := 227) rfl)) (by decide) (rmDa l Z a0 hw fm s1 us sb n d st 9 cs h0 O0 S_cs hcs S_fm rf Es Sv Sc Sy hlb hn hd10 hst (by decide) (hdig 9)) 0 (by decide) (by decide) et25 (hsz rfl) [(.ref s1), (.int st.toInt32), (.int n.toInt32), (.int d.toInt32), (.int (9 : Nat).toInt32)] [] pd_29 rfl rfl rfl (Nat.le_of_eq rfl) (hb hby d_method_6_108) (by decide) (by decide) (fun Tt28 vt28 Lt28 Xt28 qt28 => ?_)
  obtain ⟨rfl, N29, et28⟩ := qt28
  have N30 := Fr.app N27 N29
  show Goes p e below _ (Tt28.setTop (mkF m 111 #[.val (.ref s1), .val (.int st.toInt32), .val (.int n.toInt32), .val (.int d.toInt32)] [(.int (1 : Int32))]))
  refine gIfN Xt28 hx (hb hby d_method_6_111) (XT.i0_eq_f (by decide)) ?_
  show Goes p e below _ (Tt28.setTop (mkF m 114 #[.val (.ref s1), .val (.int st.toInt32), .val (.int n.toInt32), .val (.int d.toInt32)] []))
  refine gIconst Xt28 hx (hb hby d_method_6_114) (v := (1 : Int32)) rfl ?_
  refine gGoto Xt28 hx (hb hby d_method_6_115) (pc' := 119) (by decide) (by decide) ?_
  show Goes p e below _ (Tt28.setTop (mkF m 119 #[.val (.ref s1), .val (.int st.toInt32), .val (.int n.toInt32), .val (.int d.toInt32)] [(.int (1 : Int32))]))
  exact goRetN Xt28 hx (t := .boolean) hret hlocks (by simp) (hb hby d_method_6_119) (z' := (1 : Int32)) rfl (by decide) (by decide) et28 (⟨rfl, N30, rfl⟩)
theorem own_exne {Z : State} {h : Heap} {x y : Addr} {C D : String} (F : Exa Z h x C) (G : Exa Z h y D) (q : C ≠ D) : x ≠ y := fun e => by
  subst e
  obtain ⟨c1, k1, a1, a2, a3, -⟩ := F
  obtain ⟨c2, k2, b1, b2, b3, -⟩ := G
  cases a1.symm.trans b1
  obtain ⟨k, e1, e2⟩ := Vm.findClass_spec a2
  obtain ⟨k', e3, e4⟩ := Vm.findClass_spec b2
  cases e1.symm.trans e3
  exact q (e2.symm.trans e4)
theorem own_alne {Z : State} {h : Heap} {x y : Addr} {t t' : FieldType} {vs ws : List Value} (F : Ary Z h x t vs) (G : Ary Z h y t' ws) (q : vs.length ≠ ws.length) : x ≠ y := fun e => by
  subst e
  obtain ⟨c1, A, r, -⟩ := F
  obtain ⟨c2, B, r', -⟩ := G
  cases A.1.symm.trans B.1
  exact q (by rw [← r, ← r'])
theorem own_afne {Z : State} {h : Heap} {x y u : Addr} {t : FieldType} {bs : List Int8} {C n d : String} (F : Ary Z h x t (own_bv bs)) (G : Fld Z h y C n d (.ref u)) : x ≠ y := fun e => by
  subst e
  obtain ⟨c1, A, r, -⟩ := F
  obtain ⟨c2, _, _, _, _, g1, g2, -, -, -, -, g7⟩ := G
  cases A.1.symm.trans g1
  rw [← Array.getElem?_toList, r] at g7
  simp only [own_bv, List.getElem?_map, Option.map_eq_some_iff] at g7
  obtain ⟨z, -, hz⟩ := g7
  cases hz
theorem d_jdk_30_method_1_0 : decode jdk_30_method_1_code 0 = .ok (.aload_n 0, 1) := by decide +kernel
theorem d_jdk_30_method_1_1 : decode jdk_30_method_1_code 1 = .ok (.invokespecial 1, 3) := by decide +kernel
theorem d_jdk_30_method_1_4 : decode jdk_30_method_1_code 4 = .ok (.return_, 1) := by decide +kernel
theorem pn_10 : plainName "java/lang/Record" = true := by first | (simp [plainName, overriddenIn]; done) | decide +kernel
theorem ef_rmRi (m : MethodId) (x0 : Addr) : entryFrame m #[(.ref x0)] 1 = mkF m 0 #[.val (.ref x0)] [] := by first | (simp [entryFrame, mkF, argsToLocals, Value.category]; done) | rfl
set_option maxRecDepth 65536 in
set_option maxHeartbeats 40000000 in
theorem rmRi (l : Launch) (Z : State) (a0 : Array Value) (hw : ∀ d ∈ tables_1, d.before a0 Z = true)  (a1 : Addr) (h0 : Heap) (O0 : Ext Z.heap h0)  :
    Ctr l Z (⟨"java/lang/Record", "<init>", "()V"⟩ : MethodName) jdk_30_method_1_code 1 none [] ({ frames := 1, cells := 0, slots := 0, locals := 12 } : Room) #[(.ref a1)] h0 (fun v h L => v = none ∧ Fr Z.heap.size L ∧ h = h0) := by
  refine ctr (plainFor_of_name pn_10) ?_
  intro p e s m below meth c s₁ hx hby hml hown hnm hret hlocks hZ X0 e0
  have N0 := Fr.nil Z.heap.size
  have hsz : ∀ {Ls : Array Slot}, Ls.size = 1 → Ls.size = c.maxLocals := fun q => q.trans hml.symm
  refine goE (ef_rmRi m (a1)) ?_
  show Goes p e below _ (s₁.setTop (mkF m 0 #[.val (.ref a1)] []))
  refine gAloadN X0 hx (hb hby d_jdk_30_method_1_0) rfl rfl ?_
  obtain ⟨Tt1, Xt1, et1, stt1⟩ := initO X0 hx hZ hown (hw _ (List.mem_of_getElem? (i := 48) rfl)) (hw _ (List.mem_of_getElem? (i := 14) rfl)) (hw _ (List.mem_of_getElem? (i := 15) rfl)) e0 (g := (mkF m 1 #[.val (.ref a1)] [(.ref a1)])) rfl (by rw [hml]; rfl) rfl (hb hby d_jdk_30_method_1_1) (by decide) (W := 0) (Nat.le_of_eq rfl) (by decide)
  refine go stt1 ?_
  show Goes p e below _ (Tt1.setTop (mkF m 4 #[.val (.ref a1)] []))
  exact goRet0 Xt1 hx hret hlocks (hb hby d_jdk_30_method_1_4) (by decide) (by decide) et1 (⟨rfl, N0, rfl⟩)
theorem d_jdk_31_method_11_0 : decode jdk_31_method_11_code 0 = .ok (.aload_n 0, 1) := by decide +kernel
theorem d_jdk_31_method_11_1 : decode jdk_31_method_11_code 1 = .ok (.ifnonnull 12, 3) := by decide +kernel
theorem d_jdk_31_method_11_13 : decode jdk_31_method_11_code 13 = .ok (.aload_n 0, 1) := by decide +kernel
theorem d_jdk_31_method_11_14 : decode jdk_31_method_11_code 14 = .ok (.areturn, 1) := by decide +kernel
theorem pn_11 : plainName "java/util/Objects" = true := by first | (simp [plainName, overriddenIn]; done) | decide +kernel
theorem ef_rmRn (m : MethodId) (x0 : Addr) (x1 : Addr) : entryFrame m #[(.ref x0), (.ref x1)] 2 = mkF m 0 #[.val (.ref x0), .val (.ref x1)] [] := by first | (simp [entryFrame, mkF, argsToLocals, Value.category]; done) | rfl
set_option maxRecDepth 65536 in
set_option maxHeartbeats 40000000 in
theorem rmRn (l : Launch) (Z : State) (a0 : Array Value) (hw : ∀ d ∈ tables_1, d.before a0 Z = true)  (s1 : Addr) (s2 : Addr) (h0 : Heap) (O0 : Ext Z.heap h0)  :
    Ctr l Z (⟨"java/util/Objects", "requireNonNull", "(Ljava/lang/Object;Ljava/lang/String;)Ljava/lang/Object;"⟩ : MethodName) jdk_31_method_11_code 2 (some (.object "java/lang/Object")) [] ({ frames := 0, cells := 0, slots := 0, locals := 0 } : Room) #[(.ref s1), (.ref s2)] h0 (fun v h L => v = some (.ref s1) ∧ Fr Z.heap.size L ∧ h = h0) := by
  refine ctr (plainFor_of_name pn_11) ?_
  intro p e s m below meth c s₁ hx hby hml hown hnm hret hlocks hZ X0 e0
  have N0 := Fr.nil Z.heap.size
  have hsz : ∀ {Ls : Array Slot}, Ls.size = 2 → Ls.size = c.maxLocals := fun q => q.trans hml.symm
  refine goE (ef_rmRn m (s1) (s2)) ?_
  show Goes p e below _ (s₁.setTop (mkF m 0 #[.val (.ref s1), .val (.ref s2)] []))
  refine gAloadN X0 hx (hb hby d_jdk_31_method_11_0) rfl rfl ?_
  refine gNonnullY X0 hx (hb hby d_jdk_31_method_11_1) (pc' := 13) (by decide) (by decide) ?_
  show Goes p e below _ (s₁.setTop (mkF m 13 #[.val (.ref s1), .val (.ref s2)] []))
  refine gAloadN X0 hx (hb hby d_jdk_31_method_11_13) rfl rfl ?_
  exact goRetA X0 hx hret hlocks rfl rfl (hb hby d_jdk_31_method_11_14) (by decide) (by decide) e0 (⟨rfl, N0, rfl⟩)
theorem d_prog_13_method_1_0 : decode prog_13_method_1_code 0 = .ok (.aload_n 0, 1) := by decide +kernel
theorem pd_30 : parseMethodDescriptor "()V" = some ⟨[], none⟩ := by decide +kernel
theorem d_prog_13_method_1_1 : decode prog_13_method_1_code 1 = .ok (.invokespecial 1, 3) := by decide +kernel
theorem d_prog_13_method_1_4 : decode prog_13_method_1_code 4 = .ok (.aload_n 1, 1) := by decide +kernel
theorem d_prog_13_method_1_5 : decode prog_13_method_1_code 5 = .ok (.ldc 7, 2) := by decide +kernel
theorem pd_31 : parseMethodDescriptor "(Ljava/lang/Object;Ljava/lang/String;)Ljava/lang/Object;" = some ⟨[(.object "java/lang/Object"), (.object "java/lang/String")], some (.object "java/lang/Object")⟩ := by decide +kernel
theorem d_prog_13_method_1_7 : decode prog_13_method_1_code 7 = .ok (.invokestatic 9, 3) := by decide +kernel
theorem d_prog_13_method_1_10 : decode prog_13_method_1_code 10 = .ok (.pop, 1) := by decide +kernel
theorem d_prog_13_method_1_11 : decode prog_13_method_1_code 11 = .ok (.iload_n 2, 1) := by decide +kernel
theorem d_prog_13_method_1_12 : decode prog_13_method_1_code 12 = .ok (.iconst 1, 1) := by decide +kernel
theorem d_prog_13_method_1_13 : decode prog_13_method_1_code 13 = .ok (.if_icmp .lt 8, 3) := by decide +kernel
theorem d_prog_13_method_1_16 : decode prog_13_method_1_code 16 = .ok (.iload_n 3, 1) := by decide +kernel
theorem d_prog_13_method_1_17 : decode prog_13_method_1_code 17 = .ok (.iconst 1, 1) := by decide +kernel
theorem d_prog_13_method_1_18 : decode prog_13_method_1_code 18 = .ok (.if_icmp .ge 39, 3) := by decide +kernel
theorem d_prog_13_method_1_57 : decode prog_13_method_1_code 57 = .ok (.aload_n 0, 1) := by decide +kernel
theorem d_prog_13_method_1_58 : decode prog_13_method_1_code 58 = .ok (.aload_n 1, 1) := by decide +kernel
theorem d_prog_13_method_1_59 : decode prog_13_method_1_code 59 = .ok (.putfield 38, 3) := by decide +kernel
theorem d_prog_13_method_1_62 : decode prog_13_method_1_code 62 = .ok (.aload_n 0, 1) := by decide +kernel
theorem d_prog_13_method_1_63 : decode prog_13_method_1_code 63 = .ok (.iload_n 2, 1) := by decide +kernel
theorem d_prog_13_method_1_64 : decode prog_13_method_1_code 64 = .ok (.putfield 43, 3) := by decide +kernel
theorem d_prog_13_method_1_67 : decode prog_13_method_1_code 67 = .ok (.aload_n 0, 1) := by decide +kernel
theorem d_prog_13_method_1_68 : decode prog_13_method_1_code 68 = .ok (.iload_n 3, 1) := by decide +kernel
theorem d_prog_13_method_1_69 : decode prog_13_method_1_code 69 = .ok (.putfield 47, 3) := by decide +kernel
theorem d_prog_13_method_1_72 : decode prog_13_method_1_code 72 = .ok (.return_, 1) := by decide +kernel
theorem pn_12 : plainName "com/example/phal/phal/model/SourcePosition" = true := by first | (simp [plainName, overriddenIn]; done) | decide +kernel
theorem ef_rmPi (m : MethodId) (x0 : Addr) (x1 : Addr) (x2 : Int32) (x3 : Int32) : entryFrame m #[(.ref x0), (.ref x1), (.int x2), (.int x3)] 4 = mkF m 0 #[.val (.ref x0), .val (.ref x1), .val (.int x2), .val (.int x3)] [] := by first | (simp [entryFrame, mkF, argsToLocals, Value.category]; done) | rfl
set_option maxRecDepth 65536 in
set_option maxHeartbeats 40000000 in
theorem rmPi (l : Launch) (Z : State) (a0 : Array Value) (hw : ∀ d ∈ tables_1, d.before a0 Z = true) (Ts : List String) (ln co : Nat) (a1 : Addr) (s1 : Addr) (h0 : Heap) (O0 : Ext Z.heap h0) (hh7 : Jvm.Lit.constHeld Z "com/example/phal/phal/model/SourcePosition" 7) (hcw : Jvm.Lit.compactW.before a0 Z = true) (hnot : "source" ∉ Ts) (E1 : Exa Z h0 a1 "com/example/phal/phal/model/SourcePosition") (F1 : Fld Z h0 a1 "com/example/phal/phal/model/SourcePosition" "source" "Ljava/lang/String;" .null) (F2 : Fld Z h0 a1 "com/example/phal/phal/model/SourcePosition" "line" "I" (.int (0 : Int32))) (F3 : Fld Z h0 a1 "com/example/phal/phal/model/SourcePosition" "column" "I" (.int (0 : Int32))) (fr1 : Z.heap.size ≤ a1) (hl1 : 1 ≤ ln) (hl2 : ln < 2 ^ 31) (hc1 : 1 ≤ co) (hc2 : co < 2 ^ 31) :
    CtrW l Z (⟨"com/example/phal/phal/model/SourcePosition", "<init>", "(Ljava/lang/String;II)V"⟩ : MethodName) prog_13_method_1_code 4 none [] ({ frames := 2, cells := 2, slots := 28, locals := 24 } : Room) #[(.ref a1), (.ref s1), (.int ln.toInt32), (.int co.toInt32)] h0 (fun vm => IB Z vm Ts) (fun v h L vm => v = none ∧ Fr Z.heap.size L ∧ Keep h0 h [a1] ∧ Fld Z h a1 "com/example/phal/phal/model/SourcePosition" "source" "Ljava/lang/String;" (.ref s1) ∧ Fld Z h a1 "com/example/phal/phal/model/SourcePosition" "line" "I" (.int ln.toInt32) ∧ Fld Z h a1 "com/example/phal/phal/model/SourcePosition" "column" "I" (.int co.toInt32) ∧ IB Z vm ("source" :: Ts)) := by
  refine ctrW (plainFor_of_name pn_12) ?_
  intro p e s m below meth c s₁ vm0 hx hby hml hown hnm hret hlocks hZ X0 e0 hS hh0 hPv
  have N0 := Fr.nil Z.heap.size
  have hsz : ∀ {Ls : Array Slot}, Ls.size = 4 → Ls.size = c.maxLocals := fun q => q.trans hml.symm
  have K0 := Keep.refl h0 [a1]
  refine goE (ef_rmPi m (a1) (s1) (ln.toInt32) (co.toInt32)) ?_
  show Goes p e below _ (s₁.setTop (mkF m 0 #[.val (.ref a1), .val (.ref s1), .val (.int ln.toInt32), .val (.int co.toInt32)] []))
  refine gAloadN X0 hx (hb hby d_prog_13_method_1_0) rfl rfl ?_
  refine goCallI X0 hx hZ rfl hown (hw _ (List.mem_of_getElem? (i := 43) rfl)) (hw _ (List.mem_of_getElem? (i := 44) rfl)) (hw _ (List.mem_of_getElem? (i := 46) rfl)) (hw _ (List.mem_of_getElem? (i := 47) rfl)) (by decide) (rmRi l Z a0 hw a1 h0 O0) 0 (by decide) (by decide) e0 (hsz rfl) a1 [] [] pd_30 rfl rfl rfl (Nat.le_of_eq rfl) (hb hby d_prog_13_method_1_1) (by decide) (by decide) (fun Tt1 vt1 Lt1 Xt1 qt1 => ?_)
  obtain ⟨rfl, N2, et1⟩ := qt1
  have N3 := Fr.app N0 N2
  show Goes p e below _ (Tt1.setTop (mkF m 4 #[.val (.ref a1), .val (.ref s1), .val (.int ln.toInt32), .val (.int co.toInt32)] []))
  refine gAloadN Xt1 hx (hb hby d_prog_13_method_1_4) rfl rfl ?_
  have Xc4 := own_clean Xt1 (fun b cl q => by rw [et1, ← hh0]; exact q)
  have N5 := Fr.nil Z.heap.size
  obtain ⟨kt6, sat6, sbt6⟩ := hS
  obtain ⟨at6, Tt6, ht6, kkt6, bt6, kct6, Xt6, et6, Et6, snt6, knt6, hZ, hown, Eat6, Fct6, Fvt6, Yvt6, lat6, lbt6, IBt6, Lit6, stt6⟩ := ldcSVL Xc4 hx hZ hown (hw _ (List.mem_of_getElem? (i := 49) rfl)) (own_wS hw) et1 sat6 sbt6 (Fr.nil _) (fun b cl q => by rw [hh0]; exact O0.2 b cl q) hPv hnot hh7 hcw (vs := [.int (115), .int (111), .int (117), .int (114), .int (99), .int (101)]) (z := (6 : Int32)) ⟨by decide, rfl⟩ (by decide) (by decide) (g := (mkF m 5 #[.val (.ref a1), .val (.ref s1), .val (.int ln.toInt32), .val (.int co.toInt32)] [(.ref s1)])) rfl (hb hby d_prog_13_method_1_5) (n := 24) (by decide) (by decide) (by decide) (by decide)
  refine go stt6 ?_
  have hS : Sn s Tt6.vm ht6 := ⟨_, snt6, knt6⟩
  replace E1 := E1.ext Et6
  replace F1 := F1.ext Et6
  replace F2 := F2.ext Et6
  replace F3 := F3.ext Et6
  have O7 : Ext Z.heap ht6 := extT O0 Et6
  have K8 := K0.ext Et6
  have Yct6 := Arv.ary Yvt6 (by decide)
  show Goes p e below _ (Tt6.setTop (mkF m 7 #[.val (.ref a1), .val (.ref s1), .val (.int ln.toInt32), .val (.int co.toInt32)] [(.ref at6), (.ref s1)]))
  refine goCallS Xt6 hx hZ hown (hw _ (List.mem_of_getElem? (i := 52) rfl)) (hw _ (List.mem_of_getElem? (i := 53) rfl)) (hw _ (List.mem_of_getElem? (i := 54) rfl)) (hw _ (List.mem_of_getElem? (i := 55) rfl)) (by decide) (rmRn l Z a0 hw s1 at6 ht6 O7) 0 (by decide) (by decide) et6 (hsz rfl) [(.ref s1), (.ref at6)] [] pd_31 rfl rfl rfl (Nat.le_of_eq rfl) (hb hby d_prog_13_method_1_7) (by decide) (by decide) (fun Tt9 vt9 Lt9 Xt9 qt9 => ?_)
  obtain ⟨rfl, N10, et9⟩ := qt9
  have N11 := Fr.app N5 N10
  show Goes p e below _ (Tt9.setTop (mkF m 10 #[.val (.ref a1), .val (.ref s1), .val (.int ln.toInt32), .val (.int co.toInt32)] [(.ref s1)]))
  refine gPop Xt9 hx (hb hby d_prog_13_method_1_10) rfl ?_
  refine gIloadN Xt9 hx (hb hby d_prog_13_method_1_11) rfl ?_
  refine gIconst Xt9 hx (hb hby d_prog_13_method_1_12) (v := (1 : Int32)) rfl ?_
  refine gIcmpN Xt9 hx (hb hby d_prog_13_method_1_13) (XT.ii_lt_f (fun q => absurd ((own_ltn (b := 1) (by omega) (by decide)).mp q) (by omega))) ?_
  show Goes p e below _ (Tt9.setTop (mkF m 16 #[.val (.ref a1), .val (.ref s1), .val (.int ln.toInt32), .val (.int co.toInt32)] []))
  refine gIloadN Xt9 hx (hb hby d_prog_13_method_1_16) rfl ?_
  refine gIconst Xt9 hx (hb hby d_prog_13_method_1_17) (v := (1 : Int32)) rfl ?_
  refine gIcmpY Xt9 hx (hb hby d_prog_13_method_1_18) (pc' := 57) (XT.ii_ge_t (fun q => absurd ((own_ltn (b := 1) (by omega) (by decide)).mp q) (by omega))) (by decide) (by decide) ?_
  show Goes p e below _ (Tt9.setTop (mkF m 57 #[.val (.ref a1), .val (.ref s1), .val (.int ln.toInt32), .val (.int co.toInt32)] []))
  refine gAloadN Xt9 hx (hb hby d_prog_13_method_1_57) rfl rfl ?_
  refine gAloadN Xt9 hx (hb hby d_prog_13_method_1_58) rfl rfl ?_
  obtain ⟨Tt12, ht12, Xt12, et12, Wt12, stt12⟩ := putF Xt9 hx hZ hown (host := "") (Or.inl (hw _ (List.mem_of_getElem? (i := 56) rfl))) Via.refl et9 F1 E1 (Or.inr ⟨(hw _ (List.mem_of_getElem? (i := 57) rfl)), rfl, hnm⟩) (hw _ (List.mem_of_getElem? (i := 38) rfl)) (ty := (.object "java/lang/String")) (by decide) rfl rfl (g := (mkF m 59 #[.val (.ref a1), .val (.ref s1), .val (.int ln.toInt32), .val (.int co.toInt32)] [(.ref s1), (.ref a1)])) rfl rfl (hb hby d_prog_13_method_1_59)
  refine go stt12 ?_
  have N13 := Fr.snoc Xt12 N11 fr1
  replace F1 := F1.same Wt12
  replace E1 := E1.wr Wt12
  replace F2 := F2.other Wt12 (Or.inr (slot_ne (Or.inr (hw _ (List.mem_of_getElem? (i := 59) rfl))) (Or.inr (hw _ (List.mem_of_getElem? (i := 57) rfl))) (by decide) (t := .int) (by decide) (t' := (.object "java/lang/String")) (by decide)))
  replace F3 := F3.other Wt12 (Or.inr (slot_ne (Or.inr (hw _ (List.mem_of_getElem? (i := 61) rfl))) (Or.inr (hw _ (List.mem_of_getElem? (i := 57) rfl))) (by decide) (t := .int) (by decide) (t' := (.object "java/lang/String")) (by decide)))
  have O14 : Ext Z.heap ht12 := extW O7 Wt12 fr1
  replace hS := hS.wr Wt12
  have K15 := K8.wr Wt12 (Or.inl (by simp))
  show Goes p e below _ (Tt12.setTop (mkF m 62 #[.val (.ref a1), .val (.ref s1), .val (.int ln.toInt32), .val (.int co.toInt32)] []))
  refine gAloadN Xt12 hx (hb hby d_prog_13_method_1_62) rfl rfl ?_
  refine gIloadN Xt12 hx (hb hby d_prog_13_method_1_63) rfl ?_
  obtain ⟨Tt16, ht16, Xt16, et16, Wt16, stt16⟩ := putF Xt12 hx hZ hown (host := "") (Or.inl (hw _ (List.mem_of_getElem? (i := 58) rfl))) Via.refl et12 F2 E1 (Or.inr ⟨(hw _ (List.mem_of_getElem? (i := 59) rfl)), rfl, hnm⟩) (hw _ (List.mem_of_getElem? (i := 38) rfl)) (ty := .int) (by decide) rfl rfl (g := (mkF m 64 #[.val (.ref a1), .val (.ref s1), .val (.int ln.toInt32), .val (.int co.toInt32)] [(.int ln.toInt32), (.ref a1)])) rfl rfl (hb hby d_prog_13_method_1_64)
  refine go stt16 ?_
  have N17 := Fr.snoc Xt16 N13 fr1
  replace F2 := F2.same Wt16
  replace E1 := E1.wr Wt16
  replace F1 := F1.other Wt16 (Or.inr (slot_ne (Or.inr (hw _ (List.mem_of_getElem? (i := 57) rfl))) (Or.inr (hw _ (List.mem_of_getElem? (i := 59) rfl))) (by decide) (t := (.object "java/lang/String")) (by decide) (t' := .int) (by decide)))
  replace F3 := F3.other Wt16 (Or.inr (slot_ne (Or.inr (hw _ (List.mem_of_getElem? (i := 61) rfl))) (Or.inr (hw _ (List.mem_of_getElem? (i := 59) rfl))) (by decide) (t := .int) (by decide) (t' := .int) (by decide)))
  have O18 : Ext Z.heap ht16 := extW O14 Wt16 fr1
  replace hS := hS.wr Wt16
  have K19 := K15.wr Wt16 (Or.inl (by simp))
  show Goes p e below _ (Tt16.setTop (mkF m 67 #[.val (.ref a1), .val (.ref s1), .val (.int ln.toInt32), .val (.int co.toInt32)] []))
  refine gAloadN Xt16 hx (hb hby d_prog_13_method_1_67) rfl rfl ?_
  refine gIloadN Xt16 hx (hb hby d_prog_13_method_1_68) rfl ?_
  obtain ⟨Tt20, ht20, Xt20, et20, Wt20, stt20⟩ := putF Xt16 hx hZ hown (host := "") (Or.inl (hw _ (List.mem_of_getElem? (i := 60) rfl))) Via.refl et16 F3 E1 (Or.inr ⟨(hw _ (List.mem_of_getElem? (i := 61) rfl)), rfl, hnm⟩) (hw _ (List.mem_of_getElem? (i := 38) rfl)) (ty := .int) (by decide) rfl rfl (g := (mkF m 69 #[.val (.ref a1), .val (.ref s1), .val (.int ln.toInt32), .val (.int co.toInt32)] [(.int co.toInt32), (.ref a1)])) rfl rfl (hb hby d_prog_13_method_1_69)
  refine go stt20 ?_
  have N21 := Fr.snoc Xt20 N17 fr1
  replace F3 := F3.same Wt20
  replace E1 := E1.wr Wt20
  replace F1 := F1.other Wt20 (Or.inr (slot_ne (Or.inr (hw _ (List.mem_of_getElem? (i := 57) rfl))) (Or.inr (hw _ (List.mem_of_getElem? (i := 61) rfl))) (by decide) (t := (.object "java/lang/String")) (by decide) (t' := .int) (by decide)))
  replace F2 := F2.other Wt20 (Or.inr (slot_ne (Or.inr (hw _ (List.mem_of_getElem? (i := 59) rfl))) (Or.inr (hw _ (List.mem_of_getElem? (i := 61) rfl))) (by decide) (t := .int) (by decide) (t' := .int) (by decide)))
  have O22 : Ext Z.heap ht20 := extW O18 Wt20 fr1
  replace hS := hS.wr Wt20
  have K23 := K19.wr Wt20 (Or.inl (by simp))
  show Goes p e below _ (Tt20.setTop (mkF m 72 #[.val (.ref a1), .val (.ref s1), .val (.int ln.toInt32), .val (.int co.toInt32)] []))
  exact goRet0W Xt20 hx hS hret hlocks (hb hby d_prog_13_method_1_72) (by decide) (by decide) et20 (⟨rfl, N21, K23, F1, F2, F3, IB.warm IBt6 Xt20.warmed⟩)
theorem d_prog_13_method_2_0 : decode prog_13_method_2_code 0 = .ok (.new 17, 3) := by decide +kernel
theorem d_prog_13_method_2_3 : decode prog_13_method_2_code 3 = .ok (.dup, 1) := by decide +kernel
theorem d_prog_13_method_2_4 : decode prog_13_method_2_code 4 = .ok (.invokespecial 19, 3) := by decide +kernel
theorem d_prog_13_method_2_7 : decode prog_13_method_2_code 7 = .ok (.aload_n 0, 1) := by decide +kernel
theorem d_prog_13_method_2_8 : decode prog_13_method_2_code 8 = .ok (.getfield 38, 3) := by decide +kernel
theorem pd_32 : parseMethodDescriptor "(Ljava/lang/String;)Ljava/lang/StringBuilder;" = some ⟨[(.object "java/lang/String")], some (.object "java/lang/StringBuilder")⟩ := by decide +kernel
theorem d_prog_13_method_2_11 : decode prog_13_method_2_code 11 = .ok (.invokevirtual 22, 3) := by decide +kernel
theorem d_prog_13_method_2_14 : decode prog_13_method_2_code 14 = .ok (.ldc 29, 2) := by decide +kernel
theorem d_prog_13_method_2_16 : decode prog_13_method_2_code 16 = .ok (.invokevirtual 22, 3) := by decide +kernel
theorem d_prog_13_method_2_19 : decode prog_13_method_2_code 19 = .ok (.aload_n 0, 1) := by decide +kernel
theorem d_prog_13_method_2_20 : decode prog_13_method_2_code 20 = .ok (.getfield 43, 3) := by decide +kernel
theorem pd_33 : parseMethodDescriptor "(I)Ljava/lang/StringBuilder;" = some ⟨[.int], some (.object "java/lang/StringBuilder")⟩ := by decide +kernel
theorem d_prog_13_method_2_23 : decode prog_13_method_2_code 23 = .ok (.invokevirtual 26, 3) := by decide +kernel
theorem d_prog_13_method_2_26 : decode prog_13_method_2_code 26 = .ok (.ldc 29, 2) := by decide +kernel
theorem d_prog_13_method_2_28 : decode prog_13_method_2_code 28 = .ok (.invokevirtual 22, 3) := by decide +kernel
theorem d_prog_13_method_2_31 : decode prog_13_method_2_code 31 = .ok (.aload_n 0, 1) := by decide +kernel
theorem d_prog_13_method_2_32 : decode prog_13_method_2_code 32 = .ok (.getfield 47, 3) := by decide +kernel
theorem d_prog_13_method_2_35 : decode prog_13_method_2_code 35 = .ok (.invokevirtual 26, 3) := by decide +kernel
theorem pd_34 : parseMethodDescriptor "()Ljava/lang/String;" = some ⟨[], some (.object "java/lang/String")⟩ := by decide +kernel
theorem d_prog_13_method_2_38 : decode prog_13_method_2_code 38 = .ok (.invokevirtual 31, 3) := by decide +kernel
theorem d_prog_13_method_2_41 : decode prog_13_method_2_code 41 = .ok (.areturn, 1) := by decide +kernel
theorem ef_rmPt (m : MethodId) (x0 : Addr) : entryFrame m #[(.ref x0)] 1 = mkF m 0 #[.val (.ref x0)] [] := by first | (simp [entryFrame, mkF, argsToLocals, Value.category]; done) | rfl
set_option maxRecDepth 65536 in
set_option maxHeartbeats 40000000 in
theorem rmPt (l : Launch) (Z : State) (a0 : Array Value) (hw : ∀ d ∈ tables_1, d.before a0 Z = true) (Ts : List String) (ln co : Nat) (s1 us o1 o2 : Addr) (src : List Int8) (cs : Int32) (a1 : Addr) (h0 : Heap) (O0 : Ext Z.heap h0) (S_cs : Sta Z Z.heap "java/lang/String" "COMPACT_STRINGS" "Z" (.int cs)) (hcs : ¬ cs = 0) (S_o : Sta Z Z.heap "java/lang/Integer" "DigitOnes" "[B" (.ref o1)) (S_t : Sta Z Z.heap "java/lang/Integer" "DigitTens" "[B" (.ref o2)) (Yo : Ary Z h0 o1 .byte (own_bv own_on)) (Yt : Ary Z h0 o2 .byte (own_bv own_te)) (lo1 : o1 < Z.heap.size) (lo2 : o2 < Z.heap.size) (hh29 : Jvm.Lit.constHeld Z "com/example/phal/phal/model/SourcePosition" 29) (hcw : Jvm.Lit.compactW.before a0 Z = true) (hnot : ":" ∉ Ts) (E1 : Exa Z h0 a1 "com/example/phal/phal/model/SourcePosition") (F1 : Fld Z h0 a1 "com/example/phal/phal/model/SourcePosition" "source" "Ljava/lang/String;" (.ref s1)) (F2 : Fld Z h0 a1 "com/example/phal/phal/model/SourcePosition" "line" "I" (.int ln.toInt32)) (F3 : Fld Z h0 a1 "com/example/phal/phal/model/SourcePosition" "column" "I" (.int co.toInt32)) (Es : Exa Z h0 s1 "java/lang/String") (Sv : Fld Z h0 s1 "java/lang/String" "value" "[B" (.ref us)) (Sc : Fld Z h0 s1 "java/lang/String" "coder" "B" (.int (0 : Int32))) (Sy : Ary Z h0 us .byte (own_bv src)) (hl1 : 1 ≤ ln) (hl2 : ln < 2 ^ 31) (hc1 : 1 ≤ co) (hc2 : co < 2 ^ 31) (hs3 : src.length ≤ 3) :
    CtrW l Z (⟨"com/example/phal/phal/model/SourcePosition", "toString", "()Ljava/lang/String;"⟩ : MethodName) prog_13_method_2_code 1 (some (.object "java/lang/String")) [] ({ frames := 6, cells := 12, slots := 300, locals := 105 } : Room) #[(.ref a1)] h0 (fun vm => IB Z vm Ts) (fun v h L vm => ∃ s2, v = some (.ref s2) ∧ Fr Z.heap.size L ∧ Keep h0 h [] ∧ Exa Z h s2 "java/lang/String" ∧ ∃ (u9 : Addr) (d1 d2 : Nat), d1 ≤ 10 ∧ own_D ln d1 ∧ d2 ≤ 10 ∧ own_D co d2 ∧ Fld Z h s2 "java/lang/String" "value" "[B" (.ref u9) ∧ Fld Z h s2 "java/lang/String" "coder" "B" (.int (0 : Int32)) ∧ Ary Z h u9 .byte (own_bv ((((src ++ [58]) ++ own_dg d1 ln) ++ [58]) ++ own_dg d2 co))) := by
  refine ctrW (plainFor_of_name pn_12) ?_
  intro p e s m below meth c s₁ vm0 hx hby hml hown hnm hret hlocks hZ X0 e0 hS hh0 hPv
  have N0 := Fr.nil Z.heap.size
  have hsz : ∀ {Ls : Array Slot}, Ls.size = 1 → Ls.size = c.maxLocals := fun q => q.trans hml.symm
  have K0 := Keep.refl h0 []
  refine goE (ef_rmPt m (a1)) ?_
  show Goes p e below _ (s₁.setTop (mkF m 0 #[.val (.ref a1)] []))
  obtain ⟨Tt1, ht1, Xt1, et1, Et1, At1, Dt1, -, stt1⟩ := newO X0 hx hZ hown (hw _ (List.mem_of_getElem? (i := 67) rfl)) (hw _ (List.mem_of_getElem? (i := 68) rfl)) (hw _ (List.mem_of_getElem? (i := 69) rfl)) e0 (g := (mkF m 0 #[.val (.ref a1)] [])) rfl (hb hby d_prog_13_method_2_0) (by decide) (by decide)
  obtain ⟨ob2, gob2⟩ : ∃ z, z = h0.size := ⟨_, rfl⟩
  rw [← gob2] at At1 Dt1 stt1
  refine go stt1 ?_
  have ne_a1_ob2 : a1 ≠ ob2 := Nat.ne_of_lt (gob2 ▸ E1.lt)
  have ne_s1_ob2 : s1 ≠ ob2 := Nat.ne_of_lt (gob2 ▸ Es.lt)
  have ne_us_ob2 : us ≠ ob2 := Nat.ne_of_lt (gob2 ▸ Sy.lt)
  have ne_o1_ob2 : o1 ≠ ob2 := Nat.ne_of_lt (gob2 ▸ Yo.lt)
  have ne_o2_ob2 : o2 ≠ ob2 := Nat.ne_of_lt (gob2 ▸ Yt.lt)
  have fr_ob2 : Z.heap.size ≤ ob2 := gob2 ▸ O0.1
  have pa_ob2 : h0.size ≤ ob2 := gob2 ▸ K0.1
  replace E1 := E1.ext Et1
  replace F1 := F1.ext Et1
  replace F2 := F2.ext Et1
  replace F3 := F3.ext Et1
  replace Es := Es.ext Et1
  replace Sv := Sv.ext Et1
  replace Sc := Sc.ext Et1
  replace Sy := Sy.ext Et1
  replace Yo := Yo.ext Et1
  replace Yt := Yt.ext Et1
  have O3 : Ext Z.heap ht1 := extT O0 Et1
  replace hS := hS.ext Et1
  have K4 := K0.ext Et1
  have F_value_ob2 : Fld Z ht1 ob2 "java/lang/AbstractStringBuilder" "value" "[B" .null := Dt1 (Or.inl (hw _ (List.mem_of_getElem? (i := 82) rfl))) (ty := (.array .byte)) (by decide)
  have F_coder_ob2 : Fld Z ht1 ob2 "java/lang/AbstractStringBuilder" "coder" "B" (.int (0 : Int32)) := Dt1 (Or.inl (hw _ (List.mem_of_getElem? (i := 84) rfl))) (ty := .byte) (by decide)
  have F_count_ob2 : Fld Z ht1 ob2 "java/lang/AbstractStringBuilder" "count" "I" (.int (0 : Int32)) := Dt1 (Or.inl (hw _ (List.mem_of_getElem? (i := 106) rfl))) (ty := .int) (by decide)
  show Goes p e below _ (Tt1.setTop (mkF m 3 #[.val (.ref a1)] [(.ref ob2)]))
  refine gDup Xt1 hx (hb hby d_prog_13_method_2_3) rfl ?_
  have lt_a1_t5 := E1.lt
  have lt_s1_t5 := Es.lt
  have lt_us_t5 := Sy.lt
  have lt_o1_t5 := Yo.lt
  have lt_o2_t5 := Yt.lt
  have lt_ob2_t5 := At1.lt
  refine goCallI Xt1 hx hZ rfl hown (hw _ (List.mem_of_getElem? (i := 70) rfl)) (hw _ (List.mem_of_getElem? (i := 71) rfl)) (hw _ (List.mem_of_getElem? (i := 69) rfl)) (hw _ (List.mem_of_getElem? (i := 72) rfl)) (by decide) (rmBi l Z a0 hw cs ob2 ht1 O3 S_cs hcs At1 F_value_ob2 F_coder_ob2 F_count_ob2 fr_ob2) 1 (by decide) (by decide) et1 (hsz rfl) ob2 [] [(.ref ob2)] pd_30 rfl rfl rfl (Nat.le_of_eq rfl) (hb hby d_prog_13_method_2_4) (by decide) (by decide) (fun Tt5 vt5 Lt5 Xt5 qt5 => ?_)
  obtain ⟨ht5, et5⟩ : ∃ z, Tt5.heap = z := ⟨_, rfl⟩
  rw [et5] at qt5
  obtain ⟨rfl, N6, Kct5, u0, pu0, Vb0, Cb0, Nb0, Yb0, Xb0⟩ := qt5
  have N7 := Fr.app N0 N6
  replace E1 := E1.keep Kct5
  replace F1 := F1.keep Kct5 (ninS ne_a1_ob2 nin0)
  replace F2 := F2.keep Kct5 (ninS ne_a1_ob2 nin0)
  replace F3 := F3.keep Kct5 (ninS ne_a1_ob2 nin0)
  replace Es := Es.keep Kct5
  replace Sv := Sv.keep Kct5 (ninS ne_s1_ob2 nin0)
  replace Sc := Sc.keep Kct5 (ninS ne_s1_ob2 nin0)
  replace Sy := Sy.keep Kct5 (ninS ne_us_ob2 nin0)
  replace Yo := Yo.keep Kct5 (ninS ne_o1_ob2 nin0)
  replace Yt := Yt.keep Kct5 (ninS ne_o2_ob2 nin0)
  replace At1 := At1.keep Kct5
  have O8 : Ext Z.heap ht5 := extK O3 Kct5 (allS fr_ob2 all0)
  replace hS := hS.keep Kct5
  have K9 := K4.trans Kct5 (allS (Or.inr pa_ob2) all0)
  have ne_a1_u0 : a1 ≠ u0 := Nat.ne_of_lt (Nat.lt_of_lt_of_le lt_a1_t5 pu0)
  have ne_s1_u0 : s1 ≠ u0 := Nat.ne_of_lt (Nat.lt_of_lt_of_le lt_s1_t5 pu0)
  have ne_us_u0 : us ≠ u0 := Nat.ne_of_lt (Nat.lt_of_lt_of_le lt_us_t5 pu0)
  have ne_o1_u0 : o1 ≠ u0 := Nat.ne_of_lt (Nat.lt_of_lt_of_le lt_o1_t5 pu0)
  have ne_o2_u0 : o2 ≠ u0 := Nat.ne_of_lt (Nat.lt_of_lt_of_le lt_o2_t5 pu0)
  have ne_ob2_u0 : ob2 ≠ u0 := Nat.ne_of_lt (Nat.lt_of_lt_of_le lt_ob2_t5 pu0)
  have fr_u0 : Z.heap.size ≤ u0 := Nat.le_trans O3.1 pu0
  have pa_u0 : h0.size ≤ u0 := Nat.le_trans K4.1 pu0
  show Goes p e below _ (Tt5.setTop (mkF m 7 #[.val (.ref a1)] [(.ref ob2)]))
  have Nq0 : Fld Z ht5 ob2 "java/lang/AbstractStringBuilder" "count" "I" (.int ([] : List Int8).length.toInt32) := Nb0
  have Yq0 : Ary Z ht5 u0 .byte (own_bv (([] : List Int8) ++ List.replicate 16 0)) := Yb0
  have hk0 : (([] : List Int8) ++ List.replicate 16 (0 : Int8)).length = 16 := by simp
  have hkk0 : (16 : Nat) = 16 ∨ (16 : Nat) = 34 := Or.inl rfl
  refine gAloadN Xt5 hx (hb hby d_prog_13_method_2_7) rfl rfl ?_
  obtain ⟨Tt10, Xt10, et10, stt10⟩ := getF Xt5 hx hZ hown (host := "") (Or.inl (hw _ (List.mem_of_getElem? (i := 56) rfl))) Via.refl et5 F1 (g := (mkF m 8 #[.val (.ref a1)] [(.ref a1), (.ref ob2)])) rfl rfl (hb hby d_prog_13_method_2_8)
  refine go stt10 ?_
  show Goes p e below _ (Tt10.setTop (mkF m 11 #[.val (.ref a1)] [(.ref s1), (.ref ob2)]))
  have lt_a1_q11 := E1.lt
  have lt_s1_q11 := Es.lt
  have lt_us_q11 := Sy.lt
  have lt_o1_q11 := Yo.lt
  have lt_o2_q11 := Yt.lt
  have lt_ob2_q11 := At1.lt
  have lt_u0_q11 := Yq0.lt
  refine goCallV Xt10 hx hZ hown (hw _ (List.mem_of_getElem? (i := 85) rfl)) (hw _ (List.mem_of_getElem? (i := 86) rfl)) (hw _ (List.mem_of_getElem? (i := 88) rfl)) (hw _ (List.mem_of_getElem? (i := 87) rfl)) (hw _ (List.mem_of_getElem? (i := 69) rfl)) (hw _ (List.mem_of_getElem? (i := 89) rfl)) (by decide) (rmAs l Z a0 hw ob2 u0 [] (List.replicate 16 0) 16 s1 us src cs ht5 O8 S_cs hcs Es Sv Sc Sy At1 Vb0 Cb0 Nq0 Yq0 Xb0 hk0 hkk0 ne_ob2_u0 fr_ob2 fr_u0 ne_s1_ob2 ne_s1_u0 ne_us_ob2 ne_us_u0 (by simp only [List.length_append, List.length_cons, List.length_nil, own_dg_len]; omega)) 0 (by decide) (by decide) et10 At1 (hsz rfl) [(.ref s1)] [] pd_32 rfl rfl rfl (Nat.le_of_eq rfl) (hb hby d_prog_13_method_2_11) (by decide) (by decide) (fun Tt12 vt12 Lt12 Xt12 qt12 => ?_)
  obtain ⟨ht12, et12⟩ : ∃ z, Tt12.heap = z := ⟨_, rfl⟩
  rw [et12] at qt12
  obtain ⟨rfl, N13, Kct12, u1, pad1, kap1, hu1, Vb1, Cb1, Nb1, Yb1, Xb1, hk1, hkk1⟩ := qt12
  have N14 := Fr.app N7 N13
  replace E1 := E1.keep Kct12
  replace F1 := F1.keep Kct12 (ninS ne_a1_ob2 (ninS ne_a1_u0 nin0))
  replace F2 := F2.keep Kct12 (ninS ne_a1_ob2 (ninS ne_a1_u0 nin0))
  replace F3 := F3.keep Kct12 (ninS ne_a1_ob2 (ninS ne_a1_u0 nin0))
  replace Es := Es.keep Kct12
  replace Sv := Sv.keep Kct12 (ninS ne_s1_ob2 (ninS ne_s1_u0 nin0))
  replace Sc := Sc.keep Kct12 (ninS ne_s1_ob2 (ninS ne_s1_u0 nin0))
  replace Sy := Sy.keep Kct12 (ninS ne_us_ob2 (ninS ne_us_u0 nin0))
  replace Yo := Yo.keep Kct12 (ninS ne_o1_ob2 (ninS ne_o1_u0 nin0))
  replace Yt := Yt.keep Kct12 (ninS ne_o2_ob2 (ninS ne_o2_u0 nin0))
  replace At1 := At1.keep Kct12
  replace Xb0 := Xb0.keep Kct12
  have O15 : Ext Z.heap ht12 := extK O8 Kct12 (allS fr_ob2 (allS fr_u0 all0))
  replace hS := hS.keep Kct12
  have K16 := K9.trans Kct12 (allS (Or.inr pa_ob2) (allS (Or.inr pa_u0) all0))
  show Goes p e below _ (Tt12.setTop (mkF m 14 #[.val (.ref a1)] [(.ref ob2)]))
  have ne_a1_u1 : a1 ≠ u1 := own_une hu1 ne_a1_u0 lt_a1_q11
  have ne_s1_u1 : s1 ≠ u1 := own_une hu1 ne_s1_u0 lt_s1_q11
  have ne_us_u1 : us ≠ u1 := own_une hu1 ne_us_u0 lt_us_q11
  have ne_o1_u1 : o1 ≠ u1 := own_une hu1 ne_o1_u0 lt_o1_q11
  have ne_o2_u1 : o2 ≠ u1 := own_une hu1 ne_o2_u0 lt_o2_q11
  have ne_ob2_u1 : ob2 ≠ u1 := own_une hu1 ne_ob2_u0 lt_ob2_q11
  have fr_u1 : Z.heap.size ≤ u1 := own_uge hu1 fr_u0 O8.1
  have pa_u1 : h0.size ≤ u1 := own_uge hu1 pa_u0 K9.1
  have Xc17 := own_clean Xt12 (fun b cl q => by rw [et12]; exact K16.2.1 b cl (by rw [← hh0]; exact q) nin0)
  have N18 := Fr.nil Z.heap.size
  obtain ⟨kt19, sat19, sbt19⟩ := hS
  obtain ⟨at19, Tt19, ht19, kkt19, bt19, kct19, Xt19, et19, Et19, snt19, knt19, hZ, hown, Eat19, Fct19, Fvt19, Yvt19, lat19, lbt19, IBt19, Lit19, stt19⟩ := ldcSVL Xc17 hx hZ hown (hw _ (List.mem_of_getElem? (i := 132) rfl)) (own_wS hw) et12 sat19 sbt19 (Fr.nil _) (fun b cl q => by rw [hh0]; exact O0.2 b cl q) hPv hnot hh29 hcw (vs := [.int (58)]) (z := (1 : Int32)) ⟨by decide, rfl⟩ (by decide) (by decide) (g := (mkF m 14 #[.val (.ref a1)] [(.ref ob2)])) rfl (hb hby d_prog_13_method_2_14) (n := 4) (by decide) (by decide) (by decide) (by decide)
  refine go stt19 ?_
  have hS : Sn s Tt19.vm ht19 := ⟨_, snt19, knt19⟩
  replace E1 := E1.ext Et19
  replace F1 := F1.ext Et19
  replace F2 := F2.ext Et19
  replace F3 := F3.ext Et19
  replace Es := Es.ext Et19
  replace Sv := Sv.ext Et19
  replace Sc := Sc.ext Et19
  replace Sy := Sy.ext Et19
  replace Yo := Yo.ext Et19
  replace Yt := Yt.ext Et19
  replace At1 := At1.ext Et19
  replace Vb1 := Vb1.ext Et19
  replace Cb1 := Cb1.ext Et19
  replace Nb1 := Nb1.ext Et19
  replace Yb1 := Yb1.ext Et19
  replace Xb1 := Xb1.ext Et19
  have O20 : Ext Z.heap ht19 := extT O15 Et19
  have K21 := K16.ext Et19
  have Yct19 := Arv.ary Yvt19 (by decide)
  show Goes p e below _ (Tt19.setTop (mkF m 16 #[.val (.ref a1)] [(.ref at19), (.ref ob2)]))
  have Yk : Ary Z ht19 bt19 .byte (own_bv [58]) := Yct19
  have nk1 : at19 ≠ ob2 := own_exne Eat19 At1 (by decide)
  have nk2 : at19 ≠ u1 := own_exne Eat19 Xb1 (by decide)
  have nk3 : bt19 ≠ ob2 := own_afne Yk Vb1
  have nk4 : bt19 ≠ u1 := own_alne Yk Yb1 (by rw [own_bv_len, own_bv_len, hk1]; rcases hkk1 with q | q <;> rw [q] <;> decide)
  have lt_a1_q22 := E1.lt
  have lt_s1_q22 := Es.lt
  have lt_us_q22 := Sy.lt
  have lt_o1_q22 := Yo.lt
  have lt_o2_q22 := Yt.lt
  have lt_ob2_q22 := At1.lt
  have lt_u1_q22 := Yb1.lt
  have lt_at19_q22 := Eat19.lt
  have lt_bt19_q22 := Yk.lt
  refine goCallV Xt19 hx hZ hown (hw _ (List.mem_of_getElem? (i := 85) rfl)) (hw _ (List.mem_of_getElem? (i := 86) rfl)) (hw _ (List.mem_of_getElem? (i := 88) rfl)) (hw _ (List.mem_of_getElem? (i := 87) rfl)) (hw _ (List.mem_of_getElem? (i := 69) rfl)) (hw _ (List.mem_of_getElem? (i := 89) rfl)) (by decide) (rmAs l Z a0 hw ob2 u1 ([] ++ src) pad1 kap1 at19 bt19 [58] cs ht19 O20 S_cs hcs Eat19 Fvt19 Fct19 Yk At1 Vb1 Cb1 Nb1 Yb1 Xb1 hk1 hkk1 ne_ob2_u1 fr_ob2 fr_u1 nk1 nk2 nk3 nk4 (by simp only [List.length_append, List.length_cons, List.length_nil, own_dg_len]; omega)) 0 (by decide) (by decide) et19 At1 (hsz rfl) [(.ref at19)] [] pd_32 rfl rfl rfl (Nat.le_of_eq rfl) (hb hby d_prog_13_method_2_16) (by decide) (by decide) (fun Tt23 vt23 Lt23 Xt23 qt23 => ?_)
  obtain ⟨ht23, et23⟩ : ∃ z, Tt23.heap = z := ⟨_, rfl⟩
  rw [et23] at qt23
  obtain ⟨rfl, N24, Kct23, u2, pad2, kap2, hu2, Vb2, Cb2, Nb2, Yb2, Xb2, hk2, hkk2⟩ := qt23
  have N25 := Fr.app N18 N24
  replace E1 := E1.keep Kct23
  replace F1 := F1.keep Kct23 (ninS ne_a1_ob2 (ninS ne_a1_u1 nin0))
  replace F2 := F2.keep Kct23 (ninS ne_a1_ob2 (ninS ne_a1_u1 nin0))
  replace F3 := F3.keep Kct23 (ninS ne_a1_ob2 (ninS ne_a1_u1 nin0))
  replace Es := Es.keep Kct23
  replace Sv := Sv.keep Kct23 (ninS ne_s1_ob2 (ninS ne_s1_u1 nin0))
  replace Sc := Sc.keep Kct23 (ninS ne_s1_ob2 (ninS ne_s1_u1 nin0))
  replace Sy := Sy.keep Kct23 (ninS ne_us_ob2 (ninS ne_us_u1 nin0))
  replace Yo := Yo.keep Kct23 (ninS ne_o1_ob2 (ninS ne_o1_u1 nin0))
  replace Yt := Yt.keep Kct23 (ninS ne_o2_ob2 (ninS ne_o2_u1 nin0))
  replace At1 := At1.keep Kct23
  replace Xb1 := Xb1.keep Kct23
  replace Eat19 := Eat19.keep Kct23
  replace Fct19 := Fct19.keep Kct23 (ninS nk1 (ninS nk2 nin0))
  replace Fvt19 := Fvt19.keep Kct23 (ninS nk1 (ninS nk2 nin0))
  replace Yk := Yk.keep Kct23 (ninS nk3 (ninS nk4 nin0))
  have O26 : Ext Z.heap ht23 := extK O20 Kct23 (allS fr_ob2 (allS fr_u1 all0))
  replace hS := hS.keep Kct23
  have K27 := K21.trans Kct23 (allS (Or.inr pa_ob2) (allS (Or.inr pa_u1) all0))
  show Goes p e below _ (Tt23.setTop (mkF m 19 #[.val (.ref a1)] [(.ref ob2)]))
  have ne_a1_u2 : a1 ≠ u2 := own_une hu2 ne_a1_u1 lt_a1_q22
  have ne_s1_u2 : s1 ≠ u2 := own_une hu2 ne_s1_u1 lt_s1_q22
  have ne_us_u2 : us ≠ u2 := own_une hu2 ne_us_u1 lt_us_q22
  have ne_o1_u2 : o1 ≠ u2 := own_une hu2 ne_o1_u1 lt_o1_q22
  have ne_o2_u2 : o2 ≠ u2 := own_une hu2 ne_o2_u1 lt_o2_q22
  have ne_ob2_u2 : ob2 ≠ u2 := own_une hu2 ne_ob2_u1 lt_ob2_q22
  have ne_at19_u2 : at19 ≠ u2 := own_une hu2 nk2 lt_at19_q22
  have ne_bt19_u2 : bt19 ≠ u2 := own_une hu2 nk4 lt_bt19_q22
  have fr_u2 : Z.heap.size ≤ u2 := own_uge hu2 fr_u1 O20.1
  have pa_u2 : h0.size ≤ u2 := own_uge hu2 pa_u1 K21.1
  refine gAloadN Xt23 hx (hb hby d_prog_13_method_2_19) rfl rfl ?_
  obtain ⟨Tt28, Xt28, et28, stt28⟩ := getF Xt23 hx hZ hown (host := "") (Or.inl (hw _ (List.mem_of_getElem? (i := 58) rfl))) Via.refl et23 F2 (g := (mkF m 20 #[.val (.ref a1)] [(.ref a1), (.ref ob2)])) rfl rfl (hb hby d_prog_13_method_2_20)
  refine go stt28 ?_
  show Goes p e below _ (Tt28.setTop (mkF m 23 #[.val (.ref a1)] [(.int ln.toInt32), (.ref ob2)]))
  have lt_a1_q29 := E1.lt
  have lt_s1_q29 := Es.lt
  have lt_us_q29 := Sy.lt
  have lt_o1_q29 := Yo.lt
  have lt_o2_q29 := Yt.lt
  have lt_ob2_q29 := At1.lt
  have lt_at19_q29 := Eat19.lt
  have lt_bt19_q29 := Yk.lt
  have lt_u2_q29 := Yb2.lt
  refine goCallV Xt28 hx hZ hown (hw _ (List.mem_of_getElem? (i := 133) rfl)) (hw _ (List.mem_of_getElem? (i := 134) rfl)) (hw _ (List.mem_of_getElem? (i := 136) rfl)) (hw _ (List.mem_of_getElem? (i := 135) rfl)) (hw _ (List.mem_of_getElem? (i := 69) rfl)) (hw _ (List.mem_of_getElem? (i := 137) rfl)) (by decide) (rmAt l Z a0 hw ob2 u2 (([] ++ src) ++ [58]) pad2 kap2 o1 o2 ln cs ht23 O26 S_cs hcs S_o S_t Yo Yt lo1 lo2 At1 Vb2 Cb2 Nb2 Yb2 Xb2 hk2 hkk2 ne_ob2_u2 fr_ob2 fr_u2 hl1 hl2 (by simp only [List.length_append, List.length_cons, List.length_nil, own_dg_len]; omega)) 0 (by decide) (by decide) et28 At1 (hsz rfl) [(.int ln.toInt32)] [] pd_33 rfl rfl rfl (Nat.le_of_eq rfl) (hb hby d_prog_13_method_2_23) (by decide) (by decide) (fun Tt30 vt30 Lt30 Xt30 qt30 => ?_)
  obtain ⟨ht30, et30⟩ : ∃ z, Tt30.heap = z := ⟨_, rfl⟩
  rw [et30] at qt30
  obtain ⟨d1, rfl, N31, Kct30, hd110, hd1D, u3, pad3, kap3, hu3, Vb3, Cb3, Nb3, Yb3, Xb3, hk3, hkk3⟩ := qt30
  have N32 := Fr.app N25 N31
  replace E1 := E1.keep Kct30
  replace F1 := F1.keep Kct30 (ninS ne_a1_ob2 (ninS ne_a1_u2 nin0))
  replace F2 := F2.keep Kct30 (ninS ne_a1_ob2 (ninS ne_a1_u2 nin0))
  replace F3 := F3.keep Kct30 (ninS ne_a1_ob2 (ninS ne_a1_u2 nin0))
  replace Es := Es.keep Kct30
  replace Sv := Sv.keep Kct30 (ninS ne_s1_ob2 (ninS ne_s1_u2 nin0))
  replace Sc := Sc.keep Kct30 (ninS ne_s1_ob2 (ninS ne_s1_u2 nin0))
  replace Sy := Sy.keep Kct30 (ninS ne_us_ob2 (ninS ne_us_u2 nin0))
  replace Yo := Yo.keep Kct30 (ninS ne_o1_ob2 (ninS ne_o1_u2 nin0))
  replace Yt := Yt.keep Kct30 (ninS ne_o2_ob2 (ninS ne_o2_u2 nin0))
  replace At1 := At1.keep Kct30
  replace Eat19 := Eat19.keep Kct30
  replace Fct19 := Fct19.keep Kct30 (ninS nk1 (ninS ne_at19_u2 nin0))
  replace Fvt19 := Fvt19.keep Kct30 (ninS nk1 (ninS ne_at19_u2 nin0))
  replace Yk := Yk.keep Kct30 (ninS nk3 (ninS ne_bt19_u2 nin0))
  replace Xb2 := Xb2.keep Kct30
  have O33 : Ext Z.heap ht30 := extK O26 Kct30 (allS fr_ob2 (allS fr_u2 all0))
  replace hS := hS.keep Kct30
  have K34 := K27.trans Kct30 (allS (Or.inr pa_ob2) (allS (Or.inr pa_u2) all0))
  show Goes p e below _ (Tt30.setTop (mkF m 26 #[.val (.ref a1)] [(.ref ob2)]))
  have ne_a1_u3 : a1 ≠ u3 := own_une hu3 ne_a1_u2 lt_a1_q29
  have ne_s1_u3 : s1 ≠ u3 := own_une hu3 ne_s1_u2 lt_s1_q29
  have ne_us_u3 : us ≠ u3 := own_une hu3 ne_us_u2 lt_us_q29
  have ne_o1_u3 : o1 ≠ u3 := own_une hu3 ne_o1_u2 lt_o1_q29
  have ne_o2_u3 : o2 ≠ u3 := own_une hu3 ne_o2_u2 lt_o2_q29
  have ne_ob2_u3 : ob2 ≠ u3 := own_une hu3 ne_ob2_u2 lt_ob2_q29
  have ne_at19_u3 : at19 ≠ u3 := own_une hu3 ne_at19_u2 lt_at19_q29
  have ne_bt19_u3 : bt19 ≠ u3 := own_une hu3 ne_bt19_u2 lt_bt19_q29
  have fr_u3 : Z.heap.size ≤ u3 := own_uge hu3 fr_u2 O26.1
  have pa_u3 : h0.size ≤ u3 := own_uge hu3 pa_u2 K27.1
  refine go (ldcAgain Xt30 hx hZ hown (hw _ (List.mem_of_getElem? (i := 132) rfl)) Lit19 (g := (mkF m 26 #[.val (.ref a1)] [(.ref ob2)])) rfl (hb hby d_prog_13_method_2_26)) ?_
  show Goes p e below _ (Tt30.setTop (mkF m 28 #[.val (.ref a1)] [(.ref at19), (.ref ob2)]))
  have lt_a1_q35 := E1.lt
  have lt_s1_q35 := Es.lt
  have lt_us_q35 := Sy.lt
  have lt_o1_q35 := Yo.lt
  have lt_o2_q35 := Yt.lt
  have lt_ob2_q35 := At1.lt
  have lt_at19_q35 := Eat19.lt
  have lt_bt19_q35 := Yk.lt
  have lt_u3_q35 := Yb3.lt
  refine goCallV Xt30 hx hZ hown (hw _ (List.mem_of_getElem? (i := 85) rfl)) (hw _ (List.mem_of_getElem? (i := 86) rfl)) (hw _ (List.mem_of_getElem? (i := 88) rfl)) (hw _ (List.mem_of_getElem? (i := 87) rfl)) (hw _ (List.mem_of_getElem? (i := 69) rfl)) (hw _ (List.mem_of_getElem? (i := 89) rfl)) (by decide) (rmAs l Z a0 hw ob2 u3 ((([] ++ src) ++ [58]) ++ own_dg d1 ln) pad3 kap3 at19 bt19 [58] cs ht30 O33 S_cs hcs Eat19 Fvt19 Fct19 Yk At1 Vb3 Cb3 Nb3 Yb3 Xb3 hk3 hkk3 ne_ob2_u3 fr_ob2 fr_u3 nk1 ne_at19_u3 nk3 ne_bt19_u3 (by simp only [List.length_append, List.length_cons, List.length_nil, own_dg_len]; omega)) 0 (by decide) (by decide) et30 At1 (hsz rfl) [(.ref at19)] [] pd_32 rfl rfl rfl (Nat.le_of_eq rfl) (hb hby d_prog_13_method_2_28) (by decide) (by decide) (fun Tt36 vt36 Lt36 Xt36 qt36 => ?_)
  obtain ⟨ht36, et36⟩ : ∃ z, Tt36.heap = z := ⟨_, rfl⟩
  rw [et36] at qt36
  obtain ⟨rfl, N37, Kct36, u4, pad4, kap4, hu4, Vb4, Cb4, Nb4, Yb4, Xb4, hk4, hkk4⟩ := qt36
  have N38 := Fr.app N32 N37
  replace E1 := E1.keep Kct36
  replace F1 := F1.keep Kct36 (ninS ne_a1_ob2 (ninS ne_a1_u3 nin0))
  replace F2 := F2.keep Kct36 (ninS ne_a1_ob2 (ninS ne_a1_u3 nin0))
  replace F3 := F3.keep Kct36 (ninS ne_a1_ob2 (ninS ne_a1_u3 nin0))
  replace Es := Es.keep Kct36
  replace Sv := Sv.keep Kct36 (ninS ne_s1_ob2 (ninS ne_s1_u3 nin0))
  replace Sc := Sc.keep Kct36 (ninS ne_s1_ob2 (ninS ne_s1_u3 nin0))
  replace Sy := Sy.keep Kct36 (ninS ne_us_ob2 (ninS ne_us_u3 nin0))
  replace Yo := Yo.keep Kct36 (ninS ne_o1_ob2 (ninS ne_o1_u3 nin0))
  replace Yt := Yt.keep Kct36 (ninS ne_o2_ob2 (ninS ne_o2_u3 nin0))
  replace At1 := At1.keep Kct36
  replace Eat19 := Eat19.keep Kct36
  replace Fct19 := Fct19.keep Kct36 (ninS nk1 (ninS ne_at19_u3 nin0))
  replace Fvt19 := Fvt19.keep Kct36 (ninS nk1 (ninS ne_at19_u3 nin0))
  replace Yk := Yk.keep Kct36 (ninS nk3 (ninS ne_bt19_u3 nin0))
  replace Xb3 := Xb3.keep Kct36
  have O39 : Ext Z.heap ht36 := extK O33 Kct36 (allS fr_ob2 (allS fr_u3 all0))
  replace hS := hS.keep Kct36
  have K40 := K34.trans Kct36 (allS (Or.inr pa_ob2) (allS (Or.inr pa_u3) all0))
  show Goes p e below _ (Tt36.setTop (mkF m 31 #[.val (.ref a1)] [(.ref ob2)]))
  have ne_a1_u4 : a1 ≠ u4 := own_une hu4 ne_a1_u3 lt_a1_q35
  have ne_s1_u4 : s1 ≠ u4 := own_une hu4 ne_s1_u3 lt_s1_q35
  have ne_us_u4 : us ≠ u4 := own_une hu4 ne_us_u3 lt_us_q35
  have ne_o1_u4 : o1 ≠ u4 := own_une hu4 ne_o1_u3 lt_o1_q35
  have ne_o2_u4 : o2 ≠ u4 := own_une hu4 ne_o2_u3 lt_o2_q35
  have ne_ob2_u4 : ob2 ≠ u4 := own_une hu4 ne_ob2_u3 lt_ob2_q35
  have ne_at19_u4 : at19 ≠ u4 := own_une hu4 ne_at19_u3 lt_at19_q35
  have ne_bt19_u4 : bt19 ≠ u4 := own_une hu4 ne_bt19_u3 lt_bt19_q35
  have fr_u4 : Z.heap.size ≤ u4 := own_uge hu4 fr_u3 O33.1
  have pa_u4 : h0.size ≤ u4 := own_uge hu4 pa_u3 K34.1
  refine gAloadN Xt36 hx (hb hby d_prog_13_method_2_31) rfl rfl ?_
  obtain ⟨Tt41, Xt41, et41, stt41⟩ := getF Xt36 hx hZ hown (host := "") (Or.inl (hw _ (List.mem_of_getElem? (i := 60) rfl))) Via.refl et36 F3 (g := (mkF m 32 #[.val (.ref a1)] [(.ref a1), (.ref ob2)])) rfl rfl (hb hby d_prog_13_method_2_32)
  refine go stt41 ?_
  show Goes p e below _ (Tt41.setTop (mkF m 35 #[.val (.ref a1)] [(.int co.toInt32), (.ref ob2)]))
  have lt_a1_q42 := E1.lt
  have lt_s1_q42 := Es.lt
  have lt_us_q42 := Sy.lt
  have lt_o1_q42 := Yo.lt
  have lt_o2_q42 := Yt.lt
  have lt_ob2_q42 := At1.lt
  have lt_at19_q42 := Eat19.lt
  have lt_bt19_q42 := Yk.lt
  have lt_u4_q42 := Yb4.lt
  refine goCallV Xt41 hx hZ hown (hw _ (List.mem_of_getElem? (i := 133) rfl)) (hw _ (List.mem_of_getElem? (i := 134) rfl)) (hw _ (List.mem_of_getElem? (i := 136) rfl)) (hw _ (List.mem_of_getElem? (i := 135) rfl)) (hw _ (List.mem_of_getElem? (i := 69) rfl)) (hw _ (List.mem_of_getElem? (i := 137) rfl)) (by decide) (rmAt l Z a0 hw ob2 u4 (((([] ++ src) ++ [58]) ++ own_dg d1 ln) ++ [58]) pad4 kap4 o1 o2 co cs ht36 O39 S_cs hcs S_o S_t Yo Yt lo1 lo2 At1 Vb4 Cb4 Nb4 Yb4 Xb4 hk4 hkk4 ne_ob2_u4 fr_ob2 fr_u4 hc1 hc2 (by simp only [List.length_append, List.length_cons, List.length_nil, own_dg_len]; omega)) 0 (by decide) (by decide) et41 At1 (hsz rfl) [(.int co.toInt32)] [] pd_33 rfl rfl rfl (Nat.le_of_eq rfl) (hb hby d_prog_13_method_2_35) (by decide) (by decide) (fun Tt43 vt43 Lt43 Xt43 qt43 => ?_)
  obtain ⟨ht43, et43⟩ : ∃ z, Tt43.heap = z := ⟨_, rfl⟩
  rw [et43] at qt43
  obtain ⟨d2, rfl, N44, Kct43, hd210, hd2D, u5, pad5, kap5, hu5, Vb5, Cb5, Nb5, Yb5, Xb5, hk5, hkk5⟩ := qt43
  have N45 := Fr.app N38 N44
  replace E1 := E1.keep Kct43
  replace F1 := F1.keep Kct43 (ninS ne_a1_ob2 (ninS ne_a1_u4 nin0))
  replace F2 := F2.keep Kct43 (ninS ne_a1_ob2 (ninS ne_a1_u4 nin0))
  replace F3 := F3.keep Kct43 (ninS ne_a1_ob2 (ninS ne_a1_u4 nin0))
  replace Es := Es.keep Kct43
  replace Sv := Sv.keep Kct43 (ninS ne_s1_ob2 (ninS ne_s1_u4 nin0))
  replace Sc := Sc.keep Kct43 (ninS ne_s1_ob2 (ninS ne_s1_u4 nin0))
  replace Sy := Sy.keep Kct43 (ninS ne_us_ob2 (ninS ne_us_u4 nin0))
  replace Yo := Yo.keep Kct43 (ninS ne_o1_ob2 (ninS ne_o1_u4 nin0))
  replace Yt := Yt.keep Kct43 (ninS ne_o2_ob2 (ninS ne_o2_u4 nin0))
  replace At1 := At1.keep Kct43
  replace Eat19 := Eat19.keep Kct43
  replace Fct19 := Fct19.keep Kct43 (ninS nk1 (ninS ne_at19_u4 nin0))
  replace Fvt19 := Fvt19.keep Kct43 (ninS nk1 (ninS ne_at19_u4 nin0))
  replace Yk := Yk.keep Kct43 (ninS nk3 (ninS ne_bt19_u4 nin0))
  replace Xb4 := Xb4.keep Kct43
  have O46 : Ext Z.heap ht43 := extK O39 Kct43 (allS fr_ob2 (allS fr_u4 all0))
  replace hS := hS.keep Kct43
  have K47 := K40.trans Kct43 (allS (Or.inr pa_ob2) (allS (Or.inr pa_u4) all0))
  show Goes p e below _ (Tt43.setTop (mkF m 38 #[.val (.ref a1)] [(.ref ob2)]))
  have ne_a1_u5 : a1 ≠ u5 := own_une hu5 ne_a1_u4 lt_a1_q42
  have ne_s1_u5 : s1 ≠ u5 := own_une hu5 ne_s1_u4 lt_s1_q42
  have ne_us_u5 : us ≠ u5 := own_une hu5 ne_us_u4 lt_us_q42
  have ne_o1_u5 : o1 ≠ u5 := own_une hu5 ne_o1_u4 lt_o1_q42
  have ne_o2_u5 : o2 ≠ u5 := own_une hu5 ne_o2_u4 lt_o2_q42
  have ne_ob2_u5 : ob2 ≠ u5 := own_une hu5 ne_ob2_u4 lt_ob2_q42
  have ne_at19_u5 : at19 ≠ u5 := own_une hu5 ne_at19_u4 lt_at19_q42
  have ne_bt19_u5 : bt19 ≠ u5 := own_une hu5 ne_bt19_u4 lt_bt19_q42
  have fr_u5 : Z.heap.size ≤ u5 := own_uge hu5 fr_u4 O39.1
  have pa_u5 : h0.size ≤ u5 := own_uge hu5 pa_u4 K40.1
  refine goCallV Xt43 hx hZ hown (hw _ (List.mem_of_getElem? (i := 155) rfl)) (hw _ (List.mem_of_getElem? (i := 156) rfl)) (hw _ (List.mem_of_getElem? (i := 158) rfl)) (hw _ (List.mem_of_getElem? (i := 157) rfl)) (hw _ (List.mem_of_getElem? (i := 69) rfl)) (hw _ (List.mem_of_getElem? (i := 159) rfl)) (by decide) (rmTs l Z a0 hw ob2 u5 ((((([] ++ src) ++ [58]) ++ own_dg d1 ln) ++ [58]) ++ own_dg d2 co) pad5 kap5 cs ht43 O46 S_cs hcs At1 Vb5 Cb5 Nb5 Yb5 Xb5 hk5 hkk5 ne_ob2_u5 fr_ob2 fr_u5 (by simp only [List.length_append, List.length_cons, List.length_nil, own_dg_len]; omega)) 0 (by decide) (by decide) et43 At1 (hsz rfl) [] [] pd_34 rfl rfl rfl (Nat.le_of_eq rfl) (hb hby d_prog_13_method_2_38) (by decide) (by decide) (fun Tt48 vt48 Lt48 Xt48 qt48 => ?_)
  obtain ⟨ht48, et48⟩ : ∃ z, Tt48.heap = z := ⟨_, rfl⟩
  rw [et48] at qt48
  obtain ⟨s2, rfl, N49, Kct48, ps2, Es2, u9, pu9, Sv2, Sc2, Sy2⟩ := qt48
  have N50 := Fr.app N45 N49
  replace E1 := E1.keep Kct48
  replace F1 := F1.keep Kct48 nin0
  replace F2 := F2.keep Kct48 nin0
  replace F3 := F3.keep Kct48 nin0
  replace Es := Es.keep Kct48
  replace Sv := Sv.keep Kct48 nin0
  replace Sc := Sc.keep Kct48 nin0
  replace Sy := Sy.keep Kct48 nin0
  replace Yo := Yo.keep Kct48 nin0
  replace Yt := Yt.keep Kct48 nin0
  replace At1 := At1.keep Kct48
  replace Eat19 := Eat19.keep Kct48
  replace Fct19 := Fct19.keep Kct48 nin0
  replace Fvt19 := Fvt19.keep Kct48 nin0
  replace Yk := Yk.keep Kct48 nin0
  replace Vb5 := Vb5.keep Kct48 nin0
  replace Cb5 := Cb5.keep Kct48 nin0
  replace Nb5 := Nb5.keep Kct48 nin0
  replace Yb5 := Yb5.keep Kct48 nin0
  replace Xb5 := Xb5.keep Kct48
  have O51 : Ext Z.heap ht48 := extK O46 Kct48 all0
  replace hS := hS.keep Kct48
  have K52 := K47.trans Kct48 all0
  show Goes p e below _ (Tt48.setTop (mkF m 41 #[.val (.ref a1)] [(.ref s2)]))
  exact goRetAW Xt48 hx hS hret hlocks rfl rfl (hb hby d_prog_13_method_2_41) (by decide) (by decide) et48 (⟨s2, rfl, N50, K52, Es2, u9, d1, d2, hd110, hd1D, hd210, hd2D, Sv2, Sc2, Sy2⟩)
theorem own_ane {Z : State} {h : Heap} {b a : Addr} {ty : FieldType} {C n d : String} {v : Value} (F : Ary Z h b ty []) (G : Fld Z h a C n d v) : b ≠ a := fun e => by
  subst e
  obtain ⟨c1, A, r, -⟩ := F
  obtain ⟨c2, _, _, _, _, g1, g2, -, -, -, -, g7⟩ := G
  cases A.1.symm.trans g1
  rw [← Array.getElem?_toList, r] at g7
  simp at g7
theorem own_txt (src : List Int8) (n d1 d2 ln co : Nat) (hn : src.length = n) : ∃ sb : List Int8, sb = ((((src ++ [58]) ++ own_dg d1 ln) ++ [58]) ++ own_dg d2 co) ∧ sb.length = n + 2 + d1 + d2 ∧ (∀ (i : Nat) (x : Int8), src[i]? = some x → sb[i]? = some x) ∧ sb[n]? = some 58 ∧
    (∀ k, k < d1 → sb[n + 1 + k]? = some (48 + ln / 10 ^ (d1 - 1 - k) % 10).toInt8) ∧ sb[n + 1 + d1]? = some 58 ∧ (∀ k, k < d2 → sb[n + 2 + d1 + k]? = some (48 + co / 10 ^ (d2 - 1 - k) % 10).toInt8) := by
  subst hn
  have l1 := own_dg_len d1 ln
  have l2 := own_dg_len d2 co
  have g1 := fun k (h : k < d1) => own_dg_at (m := ln) h
  have g2 := fun k (h : k < d2) => own_dg_at (m := co) h
  generalize own_dg d1 ln = A at l1 g1 ⊢
  generalize own_dg d2 co = B at l2 g2 ⊢
  refine ⟨_, rfl, by simp only [List.length_append, List.length_cons, List.length_nil]; omega, fun i x h => ?_, ?_, fun k hk => ?_, ?_, fun k hk => ?_⟩
  · have hi : i < src.length := (List.getElem?_eq_some_iff.mp h).1
    simp only [List.append_assoc]
    rw [List.getElem?_append_left hi]; exact h
  · simp only [List.append_assoc]
    rw [List.getElem?_append_right (Nat.le_refl _), Nat.sub_self]; rfl
  · simp only [List.append_assoc]
    rw [List.getElem?_append_right (by omega), show src.length + 1 + k - src.length = k + 1 by omega]
    show (58 :: (A ++ ([58] ++ B)))[k + 1]? = _
    rw [List.getElem?_cons_succ, List.getElem?_append_left (by omega)]; exact g1 k hk
  · simp only [List.append_assoc]
    rw [List.getElem?_append_right (by omega), show src.length + 1 + d1 - src.length = d1 + 1 by omega]
    show (58 :: (A ++ ([58] ++ B)))[d1 + 1]? = _
    rw [List.getElem?_cons_succ, List.getElem?_append_right (by omega), show d1 - A.length = 0 by omega]; rfl
  · simp only [List.append_assoc]
    rw [List.getElem?_append_right (by omega), show src.length + 2 + d1 + k - src.length = (d1 + k + 1) + 1 by omega]
    show (58 :: (A ++ ([58] ++ B)))[(d1 + k + 1) + 1]? = _
    rw [List.getElem?_cons_succ, List.getElem?_append_right (by omega), show d1 + k + 1 - A.length = k + 1 by omega]
    show (58 :: B)[k + 1]? = _
    rw [List.getElem?_cons_succ]; exact g2 k hk
theorem own_tab {Z : State} {args a0 : Array Value} {t F : Term} {a : Addr} {f : Nat → Int8} (et : ∀ idx, t.eval args Z none idx Z = some (.ref a)) (hx : (Cond.exactly t "[B").value args Z none Z [] = some true) (wb : (Cond.arrayClass .byte).before a0 Z = true)
    (hl : (Term.length t).eval args Z none [] Z = some (.int 100)) (ha : (Cond.all t (.eq (.elem t (.index 0)) F)).value args Z none Z [] = some true) (hF : ∀ i < 100, F.eval args Z none [i] Z = some (.int (f i).toInt32)) : Ary Z Z.heap a .byte (own_bv ((List.range 100).map f)) := by
  obtain ⟨b, cl, e1, e2, e3⟩ := Term.length_spec hl
  cases (et []).symm.trans e1
  have hq : cl.slots.size < 2 ^ 31 := Jvm.Free.SBG.length_lt (et []) e2 hl
  have hsz : cl.slots.size = 100 := by
    have z := congrArg Int32.toInt (Value.int.inj e3)
    rw [len_toInt hq, show (100 : Int32).toInt = 100 by decide] at z
    omega
  obtain ⟨hh, hi⟩ := Jvm.Lib.arrayAt_spec e2
  have hu := Jvm.Lib.arrayAt_known e2
  obtain ⟨a', c', cell, k, x1, x2, x3, x4, x5, x6, -⟩ := Cond.exactly_spec (Cond.before_iff.mpr hx)
  cases (et []).symm.trans x1
  cases hh.symm.trans x3
  obtain ⟨cb, kb, comp, y1, y2, y3⟩ := Cond.arrayClass_spec wb
  have y1' : Z.vm.findClass "[B" = some cb := y1
  cases x2.symm.trans y1'
  subst x6
  refine ⟨cl, ⟨hh, ⟨hi.1, kb, y2, comp, y3⟩, hu⟩, ?_, by rw [own_bv_len]; simp⟩
  apply List.ext_getElem?
  intro i
  by_cases h : i < 100
  · have v := Cond.all_elim (et []) e2 ha i (by omega)
    have w := eqv_i (hF i h) v
    rw [elem_f (j := i.toInt32) (et [i]) (by simp [Term.eval]) e2 (own_natn (by omega)), own_natc (by omega)] at w
    rw [Array.getElem?_toList, w]
    simp [own_bv, h]
  · rw [List.getElem?_eq_none (by rw [Array.length_toList]; omega), List.getElem?_eq_none (by rw [own_bv_len]; simp; omega)]
theorem own_hon : ∀ i < 100, (48 : Int32) + i.toInt32 % (10 : Int32) = ((48 + i % 10).toInt8).toInt32 := by decide +kernel
theorem own_hte : ∀ i < 100, (48 : Int32) + i.toInt32 / (10 : Int32) = ((48 + i / 10).toInt8).toInt32 := by decide +kernel
theorem d_jdk_42_method_149_8 : decode jdk_42_method_149_code 8 = .ok (.aload_n 0, 1) := by decide +kernel
theorem d_jdk_42_method_149_9 : decode jdk_42_method_149_code 9 = .ok (.ldc 7, 2) := by decide +kernel
theorem d_jdk_42_method_149_11 : decode jdk_42_method_149_code 11 = .ok (.getfield 9, 3) := by decide +kernel
theorem d_jdk_42_method_149_14 : decode jdk_42_method_149_code 14 = .ok (.putfield 9, 3) := by decide +kernel
theorem d_jdk_42_method_149_17 : decode jdk_42_method_149_code 17 = .ok (.aload_n 0, 1) := by decide +kernel
theorem d_jdk_42_method_149_18 : decode jdk_42_method_149_code 18 = .ok (.ldc 7, 2) := by decide +kernel
theorem d_jdk_42_method_149_20 : decode jdk_42_method_149_code 20 = .ok (.getfield 15, 3) := by decide +kernel
theorem d_jdk_42_method_149_23 : decode jdk_42_method_149_code 23 = .ok (.putfield 15, 3) := by decide +kernel
theorem d_jdk_42_method_149_26 : decode jdk_42_method_149_code 26 = .ok (.return_, 1) := by decide +kernel
theorem ef_rmSd0 (m : MethodId) (x0 : Addr) (x1 : Addr) (x2 : Int32) (x3 : Int32) : entryFrame m #[(.ref x0), (.ref x1), (.int x2), (.int x3), .null] 6 = mkF m 0 #[.val (.ref x0), .val (.ref x1), .val (.int x2), .val (.int x3), .val .null, .unset] [] := by first | (simp [entryFrame, mkF, argsToLocals, Value.category]; done) | rfl
set_option maxRecDepth 65536 in
set_option maxHeartbeats 40000000 in
theorem rmSd0 (l : Launch) (Z : State) (a0 : Array Value) (hw : ∀ d ∈ tables_1, d.before a0 Z = true)  (a1 : Addr) (a2 : Addr) (h0 : Heap) (O0 : Ext Z.heap h0) (he : Jvm.Lit.constHeld Z "java/lang/String" 7) (hcw : Jvm.Lit.compactW.before a0 Z = true) (E1 : Exa Z h0 a1 "java/lang/String") (F1 : Fld Z h0 a1 "java/lang/String" "value" "[B" .null) (F2 : Fld Z h0 a1 "java/lang/String" "coder" "B" (.int (0 : Int32))) (Y2 : Ary Z h0 a2 .char []) (ne : a1 ≠ a2) (fr1 : Z.heap.size ≤ a1) :
    CtrW l Z (⟨"java/lang/String", "<init>", "([CIILjava/lang/Void;)V"⟩ : MethodName) jdk_42_method_149_code 6 none [] ({ frames := 1, cells := 2, slots := 4, locals := 12 } : Room) #[(.ref a1), (.ref a2), (.int (0 : Int32)), (.int (0 : Int32)), .null] h0 (fun vm => IB Z vm []) (fun v h L vm => v = none ∧ Fr Z.heap.size L ∧ Keep h0 h [a1] ∧ ∃ u, Fld Z h a1 "java/lang/String" "value" "[B" (.ref u) ∧ Fld Z h a1 "java/lang/String" "coder" "B" (.int (0 : Int32)) ∧ Ary Z h u .byte [] ∧ IB Z vm [""]) := by
  refine ctrW (plainFor_of_name pn_4) ?_
  intro p e s m below meth c s₁ vm0 hx hby hml hown hnm hret hlocks hZ X0 e0 hS hh0 hPv
  have N0 := Fr.nil Z.heap.size
  have hsz : ∀ {Ls : Array Slot}, Ls.size = 6 → Ls.size = c.maxLocals := fun q => q.trans hml.symm
  have K0 := Keep.refl h0 [a1]
  refine goE (ef_rmSd0 m (a1) (a2) ((0 : Int32)) ((0 : Int32))) ?_
  show Goes p e below _ (s₁.setTop (mkF m 0 #[.val (.ref a1), .val (.ref a2), .val (.int (0 : Int32)), .val (.int (0 : Int32)), .val .null, .unset] []))
  refine gAloadN X0 hx (hb hby d_jdk_42_method_149_0) rfl rfl ?_
  obtain ⟨Tt1, Xt1, et1, stt1⟩ := initO X0 hx hZ hown (hw _ (List.mem_of_getElem? (i := 13) rfl)) (hw _ (List.mem_of_getElem? (i := 14) rfl)) (hw _ (List.mem_of_getElem? (i := 15) rfl)) e0 (g := (mkF m 1 #[.val (.ref a1), .val (.ref a2), .val (.int (0 : Int32)), .val (.int (0 : Int32)), .val .null, .unset] [(.ref a1)])) rfl (by rw [hml]; rfl) rfl (hb hby d_jdk_42_method_149_1) (by decide) (W := 0) (Nat.le_of_eq rfl) (by decide)
  refine go stt1 ?_
  show Goes p e below _ (Tt1.setTop (mkF m 4 #[.val (.ref a1), .val (.ref a2), .val (.int (0 : Int32)), .val (.int (0 : Int32)), .val .null, .unset] []))
  refine gIloadN Xt1 hx (hb hby d_jdk_42_method_149_4) rfl ?_
  refine gIfN Xt1 hx (hb hby d_jdk_42_method_149_5) (XT.i0_ne_f (by decide)) ?_
  show Goes p e below _ (Tt1.setTop (mkF m 8 #[.val (.ref a1), .val (.ref a2), .val (.int (0 : Int32)), .val (.int (0 : Int32)), .val .null, .unset] []))
  refine gAloadN Xt1 hx (hb hby d_jdk_42_method_149_8) rfl rfl ?_
  obtain ⟨kt2, sat2, sbt2⟩ := hS
  obtain ⟨at2, Tt2, ht2, kkt2, bt2, kct2, Xt2, et2, Et2, snt2, knt2, hZ, hown, Eat2, Fct2, Fvt2, Yvt2, lat2, lbt2, IBt2, Lit2, stt2⟩ := ldcSVL Xt1 hx hZ hown (hw _ (List.mem_of_getElem? (i := 231) rfl)) (own_wS hw) et1 sat2 sbt2 (Fr.nil _) (fun b cl q => by rw [hh0]; exact O0.2 b cl q) hPv (by simp) he hcw (vs := []) (z := (0 : Int32)) ⟨by decide, rfl⟩ (by decide) (by decide) (g := (mkF m 9 #[.val (.ref a1), .val (.ref a2), .val (.int (0 : Int32)), .val (.int (0 : Int32)), .val .null, .unset] [(.ref a1)])) rfl (hb hby d_jdk_42_method_149_9) (n := 0) (by decide) (by decide) (by decide) (by decide)
  refine go stt2 ?_
  have hS : Sn s Tt2.vm ht2 := ⟨_, snt2, knt2⟩
  replace E1 := E1.ext Et2
  replace F1 := F1.ext Et2
  replace F2 := F2.ext Et2
  have O3 : Ext Z.heap ht2 := extT O0 Et2
  have K4 := K0.ext Et2
  have Yct2 := Arv.ary Yvt2 (by decide)
  show Goes p e below _ (Tt2.setTop (mkF m 11 #[.val (.ref a1), .val (.ref a2), .val (.int (0 : Int32)), .val (.int (0 : Int32)), .val .null, .unset] [(.ref at2), (.ref a1)]))
  have ne_ea : at2 ≠ a1 := Fld.ne Fvt2 F1 (fun q => nomatch q)
  have ne_eb : bt2 ≠ a1 := own_ane Yct2 F1
  obtain ⟨Tt5, Xt5, et5, stt5⟩ := getF Xt2 hx hZ hown (host := "") (Or.inl (hw _ (List.mem_of_getElem? (i := 30) rfl))) Via.refl et2 Fvt2 (g := (mkF m 11 #[.val (.ref a1), .val (.ref a2), .val (.int (0 : Int32)), .val (.int (0 : Int32)), .val .null, .unset] [(.ref at2), (.ref a1)])) rfl rfl (hb hby d_jdk_42_method_149_11)
  refine go stt5 ?_
  show Goes p e below _ (Tt5.setTop (mkF m 14 #[.val (.ref a1), .val (.ref a2), .val (.int (0 : Int32)), .val (.int (0 : Int32)), .val .null, .unset] [(.ref bt2), (.ref a1)]))
  obtain ⟨Tt6, ht6, Xt6, et6, Wt6, stt6⟩ := putF Xt5 hx hZ hown (host := "") (Or.inl (hw _ (List.mem_of_getElem? (i := 30) rfl))) Via.refl et5 F1 E1 (Or.inr ⟨(hw _ (List.mem_of_getElem? (i := 31) rfl)), rfl, hnm⟩) (hw _ (List.mem_of_getElem? (i := 3) rfl)) (ty := (.array .byte)) (by decide) rfl rfl (g := (mkF m 14 #[.val (.ref a1), .val (.ref a2), .val (.int (0 : Int32)), .val (.int (0 : Int32)), .val .null, .unset] [(.ref bt2), (.ref a1)])) rfl rfl (hb hby d_jdk_42_method_149_14)
  refine go stt6 ?_
  have N7 := Fr.snoc Xt6 N0 fr1
  replace F1 := F1.same Wt6
  replace E1 := E1.wr Wt6
  replace F2 := F2.other Wt6 (Or.inr (slot_ne (Or.inr (hw _ (List.mem_of_getElem? (i := 29) rfl))) (Or.inr (hw _ (List.mem_of_getElem? (i := 31) rfl))) (by decide) (t := .byte) (by decide) (t' := (.array .byte)) (by decide)))
  replace Fct2 := Fct2.other Wt6 (Or.inl ne_ea)
  replace Fvt2 := Fvt2.other Wt6 (Or.inl ne_ea)
  replace Yct2 := Yct2.other Wt6 ne_eb
  have O8 : Ext Z.heap ht6 := extW O3 Wt6 fr1
  replace hS := hS.wr Wt6
  have K9 := K4.wr Wt6 (Or.inl (by simp))
  show Goes p e below _ (Tt6.setTop (mkF m 17 #[.val (.ref a1), .val (.ref a2), .val (.int (0 : Int32)), .val (.int (0 : Int32)), .val .null, .unset] []))
  refine gAloadN Xt6 hx (hb hby d_jdk_42_method_149_17) rfl rfl ?_
  refine go (ldcAgain Xt6 hx hZ hown (hw _ (List.mem_of_getElem? (i := 231) rfl)) Lit2 (g := (mkF m 18 #[.val (.ref a1), .val (.ref a2), .val (.int (0 : Int32)), .val (.int (0 : Int32)), .val .null, .unset] [(.ref a1)])) rfl (hb hby d_jdk_42_method_149_18)) ?_
  show Goes p e below _ (Tt6.setTop (mkF m 20 #[.val (.ref a1), .val (.ref a2), .val (.int (0 : Int32)), .val (.int (0 : Int32)), .val .null, .unset] [(.ref at2), (.ref a1)]))
  obtain ⟨Tt10, Xt10, et10, stt10⟩ := getF Xt6 hx hZ hown (host := "") (Or.inl (hw _ (List.mem_of_getElem? (i := 28) rfl))) Via.refl et6 Fct2 (g := (mkF m 20 #[.val (.ref a1), .val (.ref a2), .val (.int (0 : Int32)), .val (.int (0 : Int32)), .val .null, .unset] [(.ref at2), (.ref a1)])) rfl rfl (hb hby d_jdk_42_method_149_20)
  refine go stt10 ?_
  show Goes p e below _ (Tt10.setTop (mkF m 23 #[.val (.ref a1), .val (.ref a2), .val (.int (0 : Int32)), .val (.int (0 : Int32)), .val .null, .unset] [(.int (0 : Int32)), (.ref a1)]))
  obtain ⟨Tt11, ht11, Xt11, et11, Wt11, stt11⟩ := putF Xt10 hx hZ hown (host := "") (Or.inl (hw _ (List.mem_of_getElem? (i := 28) rfl))) Via.refl et10 F2 E1 (Or.inr ⟨(hw _ (List.mem_of_getElem? (i := 29) rfl)), rfl, hnm⟩) (hw _ (List.mem_of_getElem? (i := 3) rfl)) (ty := .byte) (by decide) rfl rfl (g := (mkF m 23 #[.val (.ref a1), .val (.ref a2), .val (.int (0 : Int32)), .val (.int (0 : Int32)), .val .null, .unset] [(.int (0 : Int32)), (.ref a1)])) rfl rfl (hb hby d_jdk_42_method_149_23)
  refine go stt11 ?_
  have N12 := Fr.snoc Xt11 N7 fr1
  replace F2 := F2.same Wt11
  replace E1 := E1.wr Wt11
  replace F1 := F1.other Wt11 (Or.inr (slot_ne (Or.inr (hw _ (List.mem_of_getElem? (i := 31) rfl))) (Or.inr (hw _ (List.mem_of_getElem? (i := 29) rfl))) (by decide) (t := (.array .byte)) (by decide) (t' := .byte) (by decide)))
  replace Fct2 := Fct2.other Wt11 (Or.inl ne_ea)
  replace Fvt2 := Fvt2.other Wt11 (Or.inl ne_ea)
  replace Yct2 := Yct2.other Wt11 ne_eb
  have O13 : Ext Z.heap ht11 := extW O8 Wt11 fr1
  replace hS := hS.wr Wt11
  have K14 := K9.wr Wt11 (Or.inl (by simp))
  show Goes p e below _ (Tt11.setTop (mkF m 26 #[.val (.ref a1), .val (.ref a2), .val (.int (0 : Int32)), .val (.int (0 : Int32)), .val .null, .unset] []))
  exact goRet0W Xt11 hx hS hret hlocks (hb hby d_jdk_42_method_149_26) (by decide) (by decide) et11 (⟨rfl, N12, K14, bt2, F1, F2, Yct2, IB.warm IBt2 Xt11.warmed⟩)
theorem ef_rmS0 (m : MethodId) (x0 : Addr) (x1 : Addr) : entryFrame m #[(.ref x0), (.ref x1)] 2 = mkF m 0 #[.val (.ref x0), .val (.ref x1)] [] := by first | (simp [entryFrame, mkF, argsToLocals, Value.category]; done) | rfl
set_option maxRecDepth 65536 in
set_option maxHeartbeats 40000000 in
theorem rmS0 (l : Launch) (Z : State) (a0 : Array Value) (hw : ∀ d ∈ tables_1, d.before a0 Z = true)  (a1 : Addr) (a2 : Addr) (h0 : Heap) (O0 : Ext Z.heap h0) (he : Jvm.Lit.constHeld Z "java/lang/String" 7) (hcw : Jvm.Lit.compactW.before a0 Z = true) (E1 : Exa Z h0 a1 "java/lang/String") (F1 : Fld Z h0 a1 "java/lang/String" "value" "[B" .null) (F2 : Fld Z h0 a1 "java/lang/String" "coder" "B" (.int (0 : Int32))) (Y2 : Ary Z h0 a2 .char []) (ne : a1 ≠ a2) (fr1 : Z.heap.size ≤ a1) :
    CtrW l Z (⟨"java/lang/String", "<init>", "([C)V"⟩ : MethodName) jdk_42_method_3_code 2 none [] ({ frames := 2, cells := 2, slots := 4, locals := 29 } : Room) #[(.ref a1), (.ref a2)] h0 (fun vm => IB Z vm []) (fun v h L vm => v = none ∧ Fr Z.heap.size L ∧ Keep h0 h [a1] ∧ ∃ u, Fld Z h a1 "java/lang/String" "value" "[B" (.ref u) ∧ Fld Z h a1 "java/lang/String" "coder" "B" (.int (0 : Int32)) ∧ Ary Z h u .byte [] ∧ IB Z vm [""]) := by
  refine ctrW (plainFor_of_name pn_4) ?_
  intro p e s m below meth c s₁ vm0 hx hby hml hown hnm hret hlocks hZ X0 e0 hS hh0 hPv
  have N0 := Fr.nil Z.heap.size
  have hsz : ∀ {Ls : Array Slot}, Ls.size = 2 → Ls.size = c.maxLocals := fun q => q.trans hml.symm
  have K0 := Keep.refl h0 [a1]
  refine goE (ef_rmS0 m (a1) (a2)) ?_
  show Goes p e below _ (s₁.setTop (mkF m 0 #[.val (.ref a1), .val (.ref a2)] []))
  refine gAloadN X0 hx (hb hby d_jdk_42_method_3_0) rfl rfl ?_
  refine gAloadN X0 hx (hb hby d_jdk_42_method_3_1) rfl rfl ?_
  refine gIconst X0 hx (hb hby d_jdk_42_method_3_2) (v := (0 : Int32)) rfl ?_
  refine gAloadN X0 hx (hb hby d_jdk_42_method_3_3) rfl rfl ?_
  refine goAlen X0 hx hZ e0 Y2 (n := (0 : Int32)) (hb hby d_jdk_42_method_3_4) rfl ?_
  refine gAnull X0 hx (hb hby d_jdk_42_method_3_5) ?_
  refine goCallIW X0 hx hZ hS rfl hown (hw _ (List.mem_of_getElem? (i := 9) rfl)) (hw _ (List.mem_of_getElem? (i := 10) rfl)) (hw _ (List.mem_of_getElem? (i := 4) rfl)) (hw _ (List.mem_of_getElem? (i := 12) rfl)) (by decide) (rmSd0 l Z a0 hw a1 a2 h0 O0 he hcw E1 F1 F2 Y2 ne fr1) (fun _ w_ => IB.warm hPv w_) 0 (by decide) (by decide) e0 (hsz rfl) a1 [(.ref a2), (.int (0 : Int32)), (.int (0 : Int32)), .null] [] pd_22 rfl rfl rfl (Nat.le_of_eq rfl) (hb hby d_jdk_42_method_3_6) (by decide) (by decide) (fun Tt1 vt1 Lt1 Xt1 hZ hown hS wm_t1 qt1 => ?_)
  obtain ⟨ht1, et1⟩ : ∃ z, Tt1.heap = z := ⟨_, rfl⟩
  rw [et1] at qt1 hS
  obtain ⟨rfl, N2, Kct1, u, Gv, Gc, Gy, Ib⟩ := qt1
  have N3 := Fr.app N0 N2
  replace E1 := E1.keep Kct1
  replace Y2 := Y2.keep Kct1 (ninS (Ne.symm ne) nin0)
  have O4 : Ext Z.heap ht1 := extK O0 Kct1 (allS fr1 all0)
  have K5 := K0.trans Kct1 (allS (Or.inl (by simp)) all0)
  show Goes p e below _ (Tt1.setTop (mkF m 9 #[.val (.ref a1), .val (.ref a2)] []))
  exact goRet0W Xt1 hx hS hret hlocks (hb hby d_jdk_42_method_3_9) (by decide) (by decide) et1 (⟨rfl, N3, K5, u, Gv, Gc, Gy, IB.warm Ib Xt1.warmed⟩)
theorem pd_35 : parseMethodDescriptor "([C)V" = some ⟨[(.array .char)], none⟩ := by decide +kernel
theorem pd_36 : parseMethodDescriptor "(Ljava/lang/String;II)V" = some ⟨[(.object "java/lang/String"), .int, .int], none⟩ := by decide +kernel
theorem pd_37 : parseMethodDescriptor "(Ljava/lang/String;III)Z" = some ⟨[(.object "java/lang/String"), .int, .int, .int], some .boolean⟩ := by decide +kernel
theorem pd_38 : parseMethodDescriptor "(C)Ljava/lang/String;" = some ⟨[.char], some (.object "java/lang/String")⟩ := by decide +kernel
theorem ef_rm0 (m : MethodId) (x0 : Int64) (x1 : Int32) (x2 : Int32) : entryFrame m #[(.long x0), (.int x1), (.int x2)] maxLocals = mkF m 0 #[.val (.long x0), .second, .val (.int x1), .val (.int x2), .unset, .unset, .unset, .unset, .unset, .unset, .unset, .unset, .unset, .unset, .unset, .unset] [] := by first | (simp [entryFrame, mkF, argsToLocals, Value.category, maxLocals]; done) | rfl
set_option maxRecDepth 65536 in
set_option maxHeartbeats 40000000 in
theorem rm0 (l : Launch) (Z : State) (a0 : Array Value) (hw : ∀ d ∈ tables_1, d.before a0 Z = true) (fm : Value) (o1 o2 : Addr) (cs : Int32) (p0 : Int64) (p1 : Int32) (p2 : Int32) (h0 : Heap) (O0 : Ext Z.heap h0) (S_cs : Sta Z Z.heap "java/lang/String" "COMPACT_STRINGS" "Z" (.int cs)) (hcs : ¬ cs = 0) (S_fm : Sta Z Z.heap "jdk/internal/util/Preconditions" "SIOOBE_FORMATTER" "Ljava/util/function/BiFunction;" fm) (rf : fm.isRef = true) (S_o : Sta Z Z.heap "java/lang/Integer" "DigitOnes" "[B" (.ref o1)) (S_t : Sta Z Z.heap "java/lang/Integer" "DigitTens" "[B" (.ref o2)) (Yo : Ary Z h0 o1 .byte (own_bv own_on)) (Yt : Ary Z h0 o2 .byte (own_bv own_te)) (lo1 : o1 < Z.heap.size) (lo2 : o2 < Z.heap.size) (hh7 : Jvm.Lit.constHeld Z "com/example/phal/phal/model/SourcePosition" 7) (hh29 : Jvm.Lit.constHeld Z "com/example/phal/phal/model/SourcePosition" 29) (he : Jvm.Lit.constHeld Z "java/lang/String" 7) (hcw : Jvm.Lit.compactW.before a0 Z = true) :
    CtrW l Z x code maxLocals ret tables_1 room_1 #[(.long p0), (.int p1), (.int p2)] h0 (fun vm => IB Z vm []) (fun v h L vm => v = some (.int 1) ∧ Fr Z.heap.size L) := by
  refine ctrW (plainFor_of_name pn_9) ?_
  intro p e s m below meth c s₁ vm0 hx hby hml hown hnm hret hlocks hZ X0 e0 hS hh0 hPv
  have N0 := Fr.nil Z.heap.size
  have hsz : ∀ {Ls : Array Slot}, Ls.size = 16 → Ls.size = c.maxLocals := fun q => q.trans hml.symm
  refine goE (ef_rm0 m (p0) (p1) (p2)) ?_
  show Goes p e below _ (s₁.setTop (mkF m 0 #[.val (.long p0), .second, .val (.int p1), .val (.int p2), .unset, .unset, .unset, .unset, .unset, .unset, .unset, .unset, .unset, .unset, .unset, .unset] []))
  refine gLloadN X0 hx (hb hby at_0) rfl ?_
  refine gLdc2J X0 hx hZ hown (hw _ (List.mem_of_getElem? (i := 0) rfl)) (hb hby at_1) ?_
  refine gLand X0 hx (hb hby at_4) ?_
  refine gL2i X0 hx (hb hby at_5) ?_
  refine gIstore X0 hx (hb hby at_6) (l' := #[.val (.long p0), .second, .val (.int p1), .val (.int p2), .val (.int ((p0 &&& (3 : Int64)).toInt32)), .unset, .unset, .unset, .unset, .unset, .unset, .unset, .unset, .unset, .unset, .unset]) rfl ?_
  refine gLloadN X0 hx (hb hby at_8) rfl ?_
  refine gIconst X0 hx (hb hby at_9) (v := (2 : Int32)) rfl ?_
  show Goes p e below _ (s₁.setTop (mkF m 10 #[.val (.long p0), .second, .val (.int p1), .val (.int p2), .val (.int ((p0 &&& (3 : Int64)).toInt32)), .unset, .unset, .unset, .unset, .unset, .unset, .unset, .unset, .unset, .unset, .unset] [(.int (2 : Int32)), (.long p0)]))
  refine gLushr X0 hx (hb hby at_10) ?_
  refine gLdc2J X0 hx hZ hown (hw _ (List.mem_of_getElem? (i := 1) rfl)) (hb hby at_11) ?_
  refine gLand X0 hx (hb hby at_14) ?_
  refine gL2i X0 hx (hb hby at_15) ?_
  refine gI2c X0 hx (hb hby at_16) ?_
  show Goes p e below _ (s₁.setTop (mkF m 17 #[.val (.long p0), .second, .val (.int p1), .val (.int p2), .val (.int ((p0 &&& (3 : Int64)).toInt32)), .unset, .unset, .unset, .unset, .unset, .unset, .unset, .unset, .unset, .unset, .unset] [(.int ((((XT.ushrL p0 (2 : Int32)) &&& (255 : Int64)).toInt32).toUInt32.toUInt16.toUInt32.toInt32))]))
  obtain ⟨nc0, qa0, qb0⟩ := own_c255 (XT.ushrL p0 (2 : Int32))
  generalize ((((XT.ushrL p0 (2 : Int32)) &&& (255 : Int64)).toInt32).toUInt32.toUInt16.toUInt32.toInt32) = c0 at nc0 qa0 qb0 ⊢
  show Goes p e below _ (s₁.setTop (mkF m 17 #[.val (.long p0), .second, .val (.int p1), .val (.int p2), .val (.int ((p0 &&& (3 : Int64)).toInt32)), .unset, .unset, .unset, .unset, .unset, .unset, .unset, .unset, .unset, .unset, .unset] [(.int c0)]))
  refine gIstore X0 hx (hb hby at_17) (l' := #[.val (.long p0), .second, .val (.int p1), .val (.int p2), .val (.int ((p0 &&& (3 : Int64)).toInt32)), .val (.int c0), .unset, .unset, .unset, .unset, .unset, .unset, .unset, .unset, .unset, .unset]) rfl ?_
  refine gLloadN X0 hx (hb hby at_19) rfl ?_
  refine gBipush X0 hx (hb hby at_20) (v := (10 : Int32)) rfl ?_
  refine gLushr X0 hx (hb hby at_22) ?_
  refine gLdc2J X0 hx hZ hown (hw _ (List.mem_of_getElem? (i := 1) rfl)) (hb hby at_23) ?_
  refine gLand X0 hx (hb hby at_26) ?_
  refine gL2i X0 hx (hb hby at_27) ?_
  show Goes p e below _ (s₁.setTop (mkF m 28 #[.val (.long p0), .second, .val (.int p1), .val (.int p2), .val (.int ((p0 &&& (3 : Int64)).toInt32)), .val (.int c0), .unset, .unset, .unset, .unset, .unset, .unset, .unset, .unset, .unset, .unset] [(.int (((XT.ushrL p0 (10 : Int32)) &&& (255 : Int64)).toInt32))]))
  refine gI2c X0 hx (hb hby at_28) ?_
  show Goes p e below _ (s₁.setTop (mkF m 29 #[.val (.long p0), .second, .val (.int p1), .val (.int p2), .val (.int ((p0 &&& (3 : Int64)).toInt32)), .val (.int c0), .unset, .unset, .unset, .unset, .unset, .unset, .unset, .unset, .unset, .unset] [(.int ((((XT.ushrL p0 (10 : Int32)) &&& (255 : Int64)).toInt32).toUInt32.toUInt16.toUInt32.toInt32))]))
  obtain ⟨nc1, qa1, qb1⟩ := own_c255 (XT.ushrL p0 (10 : Int32))
  generalize ((((XT.ushrL p0 (10 : Int32)) &&& (255 : Int64)).toInt32).toUInt32.toUInt16.toUInt32.toInt32) = c1 at nc1 qa1 qb1 ⊢
  show Goes p e below _ (s₁.setTop (mkF m 29 #[.val (.long p0), .second, .val (.int p1), .val (.int p2), .val (.int ((p0 &&& (3 : Int64)).toInt32)), .val (.int c0), .unset, .unset, .unset, .unset, .unset, .unset, .unset, .unset, .unset, .unset] [(.int c1)]))
  refine gIstore X0 hx (hb hby at_29) (l' := #[.val (.long p0), .second, .val (.int p1), .val (.int p2), .val (.int ((p0 &&& (3 : Int64)).toInt32)), .val (.int c0), .val (.int c1), .unset, .unset, .unset, .unset, .unset, .unset, .unset, .unset, .unset]) rfl ?_
  refine gLloadN X0 hx (hb hby at_31) rfl ?_
  refine gBipush X0 hx (hb hby at_32) (v := (18 : Int32)) rfl ?_
  refine gLushr X0 hx (hb hby at_34) ?_
  refine gLdc2J X0 hx hZ hown (hw _ (List.mem_of_getElem? (i := 1) rfl)) (hb hby at_35) ?_
  refine gLand X0 hx (hb hby at_38) ?_
  refine gL2i X0 hx (hb hby at_39) ?_
  show Goes p e below _ (s₁.setTop (mkF m 40 #[.val (.long p0), .second, .val (.int p1), .val (.int p2), .val (.int ((p0 &&& (3 : Int64)).toInt32)), .val (.int c0), .val (.int c1), .unset, .unset, .unset, .unset, .unset, .unset, .unset, .unset, .unset] [(.int (((XT.ushrL p0 (18 : Int32)) &&& (255 : Int64)).toInt32))]))
  refine gI2c X0 hx (hb hby at_40) ?_
  show Goes p e below _ (s₁.setTop (mkF m 41 #[.val (.long p0), .second, .val (.int p1), .val (.int p2), .val (.int ((p0 &&& (3 : Int64)).toInt32)), .val (.int c0), .val (.int c1), .unset, .unset, .unset, .unset, .unset, .unset, .unset, .unset, .unset] [(.int ((((XT.ushrL p0 (18 : Int32)) &&& (255 : Int64)).toInt32).toUInt32.toUInt16.toUInt32.toInt32))]))
  obtain ⟨nc2, qa2, qb2⟩ := own_c255 (XT.ushrL p0 (18 : Int32))
  generalize ((((XT.ushrL p0 (18 : Int32)) &&& (255 : Int64)).toInt32).toUInt32.toUInt16.toUInt32.toInt32) = c2 at nc2 qa2 qb2 ⊢
  show Goes p e below _ (s₁.setTop (mkF m 41 #[.val (.long p0), .second, .val (.int p1), .val (.int p2), .val (.int ((p0 &&& (3 : Int64)).toInt32)), .val (.int c0), .val (.int c1), .unset, .unset, .unset, .unset, .unset, .unset, .unset, .unset, .unset] [(.int c2)]))
  refine gIstore X0 hx (hb hby at_41) (l' := #[.val (.long p0), .second, .val (.int p1), .val (.int p2), .val (.int ((p0 &&& (3 : Int64)).toInt32)), .val (.int c0), .val (.int c1), .val (.int c2), .unset, .unset, .unset, .unset, .unset, .unset, .unset, .unset]) rfl ?_
  show Goes p e below _ (s₁.setTop (mkF m 43 #[.val (.long p0), .second, .val (.int p1), .val (.int p2), .val (.int ((p0 &&& (3 : Int64)).toInt32)), .val (.int c0), .val (.int c1), .val (.int c2), .unset, .unset, .unset, .unset, .unset, .unset, .unset, .unset] []))
  rcases own_len4 p0 with hl | hl | hl | hl
  · rw [hl]
    show Goes p e below _ (s₁.setTop (mkF m 43 #[.val (.long p0), .second, .val (.int p1), .val (.int p2), .val (.int (0 : Int32)), .val (.int c0), .val (.int c1), .val (.int c2), .unset, .unset, .unset, .unset, .unset, .unset, .unset, .unset] []))
    refine gIload X0 hx (hb hby at_43) rfl ?_
    refine gIfN X0 hx (hb hby at_45) (XT.i0_ne_f rfl) ?_
    show Goes p e below _ (s₁.setTop (mkF m 48 #[.val (.long p0), .second, .val (.int p1), .val (.int p2), .val (.int (0 : Int32)), .val (.int c0), .val (.int c1), .val (.int c2), .unset, .unset, .unset, .unset, .unset, .unset, .unset, .unset] []))
    obtain ⟨Tt1, ht1, Xt1, et1, Et1, At1, Dt1, -, stt1⟩ := newO X0 hx hZ hown (hw _ (List.mem_of_getElem? (i := 2) rfl)) (hw _ (List.mem_of_getElem? (i := 3) rfl)) (hw _ (List.mem_of_getElem? (i := 4) rfl)) e0 (g := (mkF m 48 #[.val (.long p0), .second, .val (.int p1), .val (.int p2), .val (.int (0 : Int32)), .val (.int c0), .val (.int c1), .val (.int c2), .unset, .unset, .unset, .unset, .unset, .unset, .unset, .unset] [])) rfl (hb hby at_48) (by decide) (by decide)
    obtain ⟨ob2, gob2⟩ : ∃ z, z = h0.size := ⟨_, rfl⟩
    rw [← gob2] at At1 Dt1 stt1
    refine go stt1 ?_
    have ne_o1_ob2 : o1 ≠ ob2 := Nat.ne_of_lt (gob2 ▸ Yo.lt)
    have ne_o2_ob2 : o2 ≠ ob2 := Nat.ne_of_lt (gob2 ▸ Yt.lt)
    have fr_ob2 : Z.heap.size ≤ ob2 := gob2 ▸ O0.1
    replace Yo := Yo.ext Et1
    replace Yt := Yt.ext Et1
    have O3 : Ext Z.heap ht1 := extT O0 Et1
    replace hS := hS.ext Et1
    have F_coder_ob2 : Fld Z ht1 ob2 "java/lang/String" "coder" "B" (.int (0 : Int32)) := Dt1 (Or.inr (hw _ (List.mem_of_getElem? (i := 29) rfl))) (ty := .byte) (by decide)
    have F_value_ob2 : Fld Z ht1 ob2 "java/lang/String" "value" "[B" .null := Dt1 (Or.inr (hw _ (List.mem_of_getElem? (i := 31) rfl))) (ty := (.array .byte)) (by decide)
    show Goes p e below _ (Tt1.setTop (mkF m 51 #[.val (.long p0), .second, .val (.int p1), .val (.int p2), .val (.int (0 : Int32)), .val (.int c0), .val (.int c1), .val (.int c2), .unset, .unset, .unset, .unset, .unset, .unset, .unset, .unset] [(.ref ob2)]))
    refine gDup Xt1 hx (hb hby at_51) rfl ?_
    refine gIconst Xt1 hx (hb hby at_52) (v := (0 : Int32)) rfl ?_
    obtain ⟨Tt4, ht4, kt4, Xt4, et4, Et4, At4, stt4⟩ := newP Xt1 hx hZ (hw _ (List.mem_of_getElem? (i := 5) rfl)) et1 (g := (mkF m 53 #[.val (.long p0), .second, .val (.int p1), .val (.int p2), .val (.int (0 : Int32)), .val (.int c0), .val (.int c1), .val (.int c2), .unset, .unset, .unset, .unset, .unset, .unset, .unset, .unset] [(.int (0 : Int32)), (.ref ob2), (.ref ob2)])) rfl (hb hby at_53) rfl (by decide) (cap := 0) (by decide) (by decide) (by decide) (by decide)
    obtain ⟨ob5, gob5⟩ : ∃ z, z = ht1.size := ⟨_, rfl⟩
    rw [← gob5] at At4 stt4
    refine go stt4 ?_
    have ne_o1_ob5 : o1 ≠ ob5 := Nat.ne_of_lt (gob5 ▸ Yo.lt)
    have ne_o2_ob5 : o2 ≠ ob5 := Nat.ne_of_lt (gob5 ▸ Yt.lt)
    have ne_ob2_ob5 : ob2 ≠ ob5 := Nat.ne_of_lt (gob5 ▸ At1.lt)
    have fr_ob5 : Z.heap.size ≤ ob5 := gob5 ▸ O3.1
    replace Yo := Yo.ext Et4
    replace Yt := Yt.ext Et4
    replace At1 := At1.ext Et4
    replace F_coder_ob2 := F_coder_ob2.ext Et4
    replace F_value_ob2 := F_value_ob2.ext Et4
    have O6 : Ext Z.heap ht4 := extT O3 Et4
    replace hS := hS.ext Et4
    have Y_ob5 : Ary Z ht4 ob5 .char [] := Ary.new At4 rfl (by decide)
    show Goes p e below _ (Tt4.setTop (mkF m 55 #[.val (.long p0), .second, .val (.int p1), .val (.int p2), .val (.int (0 : Int32)), .val (.int c0), .val (.int c1), .val (.int c2), .unset, .unset, .unset, .unset, .unset, .unset, .unset, .unset] [(.ref ob5), (.ref ob2), (.ref ob2)]))
    refine goCallIW Xt4 hx hZ hS rfl hown (hw _ (List.mem_of_getElem? (i := 6) rfl)) (hw _ (List.mem_of_getElem? (i := 7) rfl)) (hw _ (List.mem_of_getElem? (i := 4) rfl)) (hw _ (List.mem_of_getElem? (i := 8) rfl)) (by decide) (rmS0 l Z a0 hw ob2 ob5 ht4 O6 he hcw At1 F_value_ob2 F_coder_ob2 Y_ob5 ne_ob2_ob5 fr_ob2) (fun _ w_ => IB.warm hPv w_) 1 (by decide) (by decide) et4 (hsz rfl) ob2 [(.ref ob5)] [(.ref ob2)] pd_35 rfl rfl rfl (Nat.le_of_eq rfl) (hb hby at_55) (by decide) (by decide) (fun Tt7 vt7 Lt7 Xt7 hZ hown hS wm_t7 qt7 => ?_)
    obtain ⟨ht7, et7⟩ : ∃ z, Tt7.heap = z := ⟨_, rfl⟩
    rw [et7] at qt7 hS
    obtain ⟨rfl, N8, Kct7, us, Sv1, Sc1, Sy0, Ib⟩ := qt7
    have N9 := Fr.app N0 N8
    replace Yo := Yo.keep Kct7 (ninS ne_o1_ob2 nin0)
    replace Yt := Yt.keep Kct7 (ninS ne_o2_ob2 nin0)
    replace At1 := At1.keep Kct7
    replace Y_ob5 := Y_ob5.keep Kct7 (ninS (Ne.symm ne_ob2_ob5) nin0)
    have O10 : Ext Z.heap ht7 := extK O6 Kct7 (allS fr_ob2 all0)
    show Goes p e below _ (Tt7.setTop (mkF m 58 #[.val (.long p0), .second, .val (.int p1), .val (.int p2), .val (.int (0 : Int32)), .val (.int c0), .val (.int c1), .val (.int c2), .unset, .unset, .unset, .unset, .unset, .unset, .unset, .unset] [(.ref ob2)]))
    have Sy1 : Ary Z ht7 us .byte (own_bv []) := Sy0
    refine gAstore Xt7 hx (hb hby at_58) rfl (l' := #[.val (.long p0), .second, .val (.int p1), .val (.int p2), .val (.int (0 : Int32)), .val (.int c0), .val (.int c1), .val (.int c2), .val (.ref ob2), .unset, .unset, .unset, .unset, .unset, .unset, .unset]) rfl ?_
    refine gGoto Xt7 hx (hb hby at_60) (pc' := 137) (by decide) (by decide) ?_
    show Goes p e below _ (Tt7.setTop (mkF m 137 #[.val (.long p0), .second, .val (.int p1), .val (.int p2), .val (.int (0 : Int32)), .val (.int c0), .val (.int c1), .val (.int c2), .val (.ref ob2), .unset, .unset, .unset, .unset, .unset, .unset, .unset] []))
    refine gIconst Xt7 hx (hb hby at_137) (v := (1 : Int32)) rfl ?_
    refine gIloadN Xt7 hx (hb hby at_138) rfl ?_
    refine gLdcI Xt7 hx hZ hown (hw _ (List.mem_of_getElem? (i := 32) rfl)) (hb hby at_139) ?_
    refine gIand Xt7 hx (hb hby at_141) ?_
    obtain ⟨ln, hl1, hl2, hl3⟩ := own_line p1
    refine goCallS Xt7 hx hZ hown (hw _ (List.mem_of_getElem? (i := 33) rfl)) (hw _ (List.mem_of_getElem? (i := 34) rfl)) (hw _ (List.mem_of_getElem? (i := 35) rfl)) (hw _ (List.mem_of_getElem? (i := 36) rfl)) (by decide) (rmMx l Z a0 hw ln.toInt32 (1 : Int32) (p1 &&& (2147483647 : Int32)) ht7 O10 hl3) 0 (by decide) (by decide) et7 (hsz rfl) [(.int (1 : Int32)), (.int (p1 &&& (2147483647 : Int32)))] [] pd_1 rfl rfl rfl (Nat.le_of_eq rfl) (hb hby at_142) (by decide) (by decide) (fun Tt11 vt11 Lt11 Xt11 qt11 => ?_)
    obtain ⟨rfl, N12, et11⟩ := qt11
    have N13 := Fr.app N9 N12
    show Goes p e below _ (Tt11.setTop (mkF m 145 #[.val (.long p0), .second, .val (.int p1), .val (.int p2), .val (.int (0 : Int32)), .val (.int c0), .val (.int c1), .val (.int c2), .val (.ref ob2), .unset, .unset, .unset, .unset, .unset, .unset, .unset] [(.int ln.toInt32)]))
    refine gIstore Xt11 hx (hb hby at_145) (l' := #[.val (.long p0), .second, .val (.int p1), .val (.int p2), .val (.int (0 : Int32)), .val (.int c0), .val (.int c1), .val (.int c2), .val (.ref ob2), .val (.int ln.toInt32), .unset, .unset, .unset, .unset, .unset, .unset]) rfl ?_
    refine gIconst Xt11 hx (hb hby at_147) (v := (1 : Int32)) rfl ?_
    refine gIloadN Xt11 hx (hb hby at_148) rfl ?_
    refine gLdcI Xt11 hx hZ hown (hw _ (List.mem_of_getElem? (i := 32) rfl)) (hb hby at_149) ?_
    refine gIand Xt11 hx (hb hby at_151) ?_
    obtain ⟨co, hc1, hc2, hc3⟩ := own_line p2
    refine goCallS Xt11 hx hZ hown (hw _ (List.mem_of_getElem? (i := 33) rfl)) (hw _ (List.mem_of_getElem? (i := 34) rfl)) (hw _ (List.mem_of_getElem? (i := 35) rfl)) (hw _ (List.mem_of_getElem? (i := 36) rfl)) (by decide) (rmMx l Z a0 hw co.toInt32 (1 : Int32) (p2 &&& (2147483647 : Int32)) ht7 O10 hc3) 0 (by decide) (by decide) et11 (hsz rfl) [(.int (1 : Int32)), (.int (p2 &&& (2147483647 : Int32)))] [] pd_1 rfl rfl rfl (Nat.le_of_eq rfl) (hb hby at_152) (by decide) (by decide) (fun Tt14 vt14 Lt14 Xt14 qt14 => ?_)
    obtain ⟨rfl, N15, et14⟩ := qt14
    have N16 := Fr.app N13 N15
    show Goes p e below _ (Tt14.setTop (mkF m 155 #[.val (.long p0), .second, .val (.int p1), .val (.int p2), .val (.int (0 : Int32)), .val (.int c0), .val (.int c1), .val (.int c2), .val (.ref ob2), .val (.int ln.toInt32), .unset, .unset, .unset, .unset, .unset, .unset] [(.int co.toInt32)]))
    refine gIstore Xt14 hx (hb hby at_155) (l' := #[.val (.long p0), .second, .val (.int p1), .val (.int p2), .val (.int (0 : Int32)), .val (.int c0), .val (.int c1), .val (.int c2), .val (.ref ob2), .val (.int ln.toInt32), .val (.int co.toInt32), .unset, .unset, .unset, .unset, .unset]) rfl ?_
    obtain ⟨Tt17, ht17, Xt17, et17, Et17, At17, Dt17, -, stt17⟩ := newO Xt14 hx hZ hown (hw _ (List.mem_of_getElem? (i := 37) rfl)) (hw _ (List.mem_of_getElem? (i := 38) rfl)) (hw _ (List.mem_of_getElem? (i := 39) rfl)) et14 (g := (mkF m 157 #[.val (.long p0), .second, .val (.int p1), .val (.int p2), .val (.int (0 : Int32)), .val (.int c0), .val (.int c1), .val (.int c2), .val (.ref ob2), .val (.int ln.toInt32), .val (.int co.toInt32), .unset, .unset, .unset, .unset, .unset] [])) rfl (hb hby at_157) (by decide) (by decide)
    obtain ⟨ob18, gob18⟩ : ∃ z, z = ht7.size := ⟨_, rfl⟩
    rw [← gob18] at At17 Dt17 stt17
    refine go stt17 ?_
    have ne_o1_ob18 : o1 ≠ ob18 := Nat.ne_of_lt (gob18 ▸ Yo.lt)
    have ne_o2_ob18 : o2 ≠ ob18 := Nat.ne_of_lt (gob18 ▸ Yt.lt)
    have ne_ob2_ob18 : ob2 ≠ ob18 := Nat.ne_of_lt (gob18 ▸ At1.lt)
    have ne_us_ob18 : us ≠ ob18 := Nat.ne_of_lt (gob18 ▸ Sy1.lt)
    have fr_ob18 : Z.heap.size ≤ ob18 := gob18 ▸ O10.1
    replace Yo := Yo.ext Et17
    replace Yt := Yt.ext Et17
    replace At1 := At1.ext Et17
    replace Sv1 := Sv1.ext Et17
    replace Sc1 := Sc1.ext Et17
    replace Sy1 := Sy1.ext Et17
    have O19 : Ext Z.heap ht17 := extT O10 Et17
    replace hS := hS.ext Et17
    have F_source_ob18 : Fld Z ht17 ob18 "com/example/phal/phal/model/SourcePosition" "source" "Ljava/lang/String;" .null := Dt17 (Or.inr (hw _ (List.mem_of_getElem? (i := 57) rfl))) (ty := (.object "java/lang/String")) (by decide)
    have F_line_ob18 : Fld Z ht17 ob18 "com/example/phal/phal/model/SourcePosition" "line" "I" (.int (0 : Int32)) := Dt17 (Or.inr (hw _ (List.mem_of_getElem? (i := 59) rfl))) (ty := .int) (by decide)
    have F_column_ob18 : Fld Z ht17 ob18 "com/example/phal/phal/model/SourcePosition" "column" "I" (.int (0 : Int32)) := Dt17 (Or.inr (hw _ (List.mem_of_getElem? (i := 61) rfl))) (ty := .int) (by decide)
    show Goes p e below _ (Tt17.setTop (mkF m 160 #[.val (.long p0), .second, .val (.int p1), .val (.int p2), .val (.int (0 : Int32)), .val (.int c0), .val (.int c1), .val (.int c2), .val (.ref ob2), .val (.int ln.toInt32), .val (.int co.toInt32), .unset, .unset, .unset, .unset, .unset] [(.ref ob18)]))
    refine gDup Xt17 hx (hb hby at_160) rfl ?_
    refine gAload Xt17 hx (hb hby at_161) rfl rfl ?_
    refine gIload Xt17 hx (hb hby at_163) rfl ?_
    refine gIload Xt17 hx (hb hby at_165) rfl ?_
    refine goCallIW Xt17 hx hZ hS rfl hown (hw _ (List.mem_of_getElem? (i := 40) rfl)) (hw _ (List.mem_of_getElem? (i := 41) rfl)) (hw _ (List.mem_of_getElem? (i := 39) rfl)) (hw _ (List.mem_of_getElem? (i := 42) rfl)) (by decide) (rmPi l Z a0 hw [""] ln co ob18 ob2 ht17 O19 hh7 hcw (by simp) At17 F_source_ob18 F_line_ob18 F_column_ob18 fr_ob18 hl1 hl2 hc1 hc2) (fun _ w_ => IB.warm Ib w_) 1 (by decide) (by decide) et17 (hsz rfl) ob18 [(.ref ob2), (.int ln.toInt32), (.int co.toInt32)] [(.ref ob18)] pd_36 rfl rfl rfl (Nat.le_of_eq rfl) (hb hby at_167) (by decide) (by decide) (fun Tt20 vt20 Lt20 Xt20 hZ hown hS wm_t20 qt20 => ?_)
    obtain ⟨ht20, et20⟩ : ∃ z, Tt20.heap = z := ⟨_, rfl⟩
    rw [et20] at qt20 hS
    obtain ⟨rfl, N21, Kct20, P1, P2, P3, Ib2⟩ := qt20
    have N22 := Fr.app N16 N21
    replace Yo := Yo.keep Kct20 (ninS ne_o1_ob18 nin0)
    replace Yt := Yt.keep Kct20 (ninS ne_o2_ob18 nin0)
    replace At1 := At1.keep Kct20
    replace Sv1 := Sv1.keep Kct20 (ninS ne_ob2_ob18 nin0)
    replace Sc1 := Sc1.keep Kct20 (ninS ne_ob2_ob18 nin0)
    replace Sy1 := Sy1.keep Kct20 (ninS ne_us_ob18 nin0)
    replace At17 := At17.keep Kct20
    have O23 : Ext Z.heap ht20 := extK O19 Kct20 (allS fr_ob18 all0)
    show Goes p e below _ (Tt20.setTop (mkF m 170 #[.val (.long p0), .second, .val (.int p1), .val (.int p2), .val (.int (0 : Int32)), .val (.int c0), .val (.int c1), .val (.int c2), .val (.ref ob2), .val (.int ln.toInt32), .val (.int co.toInt32), .unset, .unset, .unset, .unset, .unset] [(.ref ob18)]))
    refine gAstore Xt20 hx (hb hby at_170) rfl (l' := #[.val (.long p0), .second, .val (.int p1), .val (.int p2), .val (.int (0 : Int32)), .val (.int c0), .val (.int c1), .val (.int c2), .val (.ref ob2), .val (.int ln.toInt32), .val (.int co.toInt32), .val (.ref ob18), .unset, .unset, .unset, .unset]) rfl ?_
    refine gAload Xt20 hx (hb hby at_172) rfl rfl ?_
    refine goCallVW Xt20 hx hZ hS hown (hw _ (List.mem_of_getElem? (i := 62) rfl)) (hw _ (List.mem_of_getElem? (i := 63) rfl)) (hw _ (List.mem_of_getElem? (i := 65) rfl)) (hw _ (List.mem_of_getElem? (i := 64) rfl)) (hw _ (List.mem_of_getElem? (i := 39) rfl)) (hw _ (List.mem_of_getElem? (i := 66) rfl)) (by decide) (rmPt l Z a0 hw ("source" :: [""]) ln co ob2 us o1 o2 [] cs ob18 ht20 O23 S_cs hcs S_o S_t Yo Yt lo1 lo2 hh29 hcw (by simp) At17 P1 P2 P3 At1 Sv1 Sc1 Sy1 hl1 hl2 hc1 hc2 (by simp)) (fun _ w_ => IB.warm Ib2 w_) 0 (by decide) (by decide) et20 At17 (hsz rfl) [] [] pd_34 rfl rfl rfl (Nat.le_of_eq rfl) (hb hby at_174) (by decide) (by decide) (fun Tt24 vt24 Lt24 Xt24 hZ hown hS wm_t24 qt24 => ?_)
    obtain ⟨ht24, et24⟩ : ∃ z, Tt24.heap = z := ⟨_, rfl⟩
    rw [et24] at qt24 hS
    obtain ⟨s2, rfl, N25, Kct24, Es2, u9, d1, d2, h110, hD1, h210, hD2, Sv2, Sc2, Sy9⟩ := qt24
    have N26 := Fr.app N22 N25
    replace Yo := Yo.keep Kct24 nin0
    replace Yt := Yt.keep Kct24 nin0
    replace At1 := At1.keep Kct24
    replace Sv1 := Sv1.keep Kct24 nin0
    replace Sc1 := Sc1.keep Kct24 nin0
    replace Sy1 := Sy1.keep Kct24 nin0
    replace At17 := At17.keep Kct24
    replace P1 := P1.keep Kct24 nin0
    replace P2 := P2.keep Kct24 nin0
    replace P3 := P3.keep Kct24 nin0
    have O27 : Ext Z.heap ht24 := extK O23 Kct24 all0
    show Goes p e below _ (Tt24.setTop (mkF m 177 #[.val (.long p0), .second, .val (.int p1), .val (.int p2), .val (.int (0 : Int32)), .val (.int c0), .val (.int c1), .val (.int c2), .val (.ref ob2), .val (.int ln.toInt32), .val (.int co.toInt32), .val (.ref ob18), .unset, .unset, .unset, .unset] [(.ref s2)]))
    obtain ⟨sb, hsb, hlen, hpre, hk1, hdA, hk2, hdB⟩ := own_txt [] 0 d1 d2 ln co rfl
    have Sy2 : Ary Z ht24 u9 .byte (own_bv sb) := by rw [hsb]; exact Sy9
    clear Sy9 hsb
    have hlb : sb.length < 1000 := by omega
    refine gAstore Xt24 hx (hb hby at_177) rfl (l' := #[.val (.long p0), .second, .val (.int p1), .val (.int p2), .val (.int (0 : Int32)), .val (.int c0), .val (.int c1), .val (.int c2), .val (.ref ob2), .val (.int ln.toInt32), .val (.int co.toInt32), .val (.ref ob18), .val (.ref s2), .unset, .unset, .unset]) rfl ?_
    refine gAload Xt24 hx (hb hby at_179) rfl rfl ?_
    refine gNonnullY Xt24 hx (hb hby at_181) (pc' := 186) (by decide) (by decide) ?_
    show Goes p e below _ (Tt24.setTop (mkF m 186 #[.val (.long p0), .second, .val (.int p1), .val (.int p2), .val (.int (0 : Int32)), .val (.int c0), .val (.int c1), .val (.int c2), .val (.ref ob2), .val (.int ln.toInt32), .val (.int co.toInt32), .val (.ref ob18), .val (.ref s2), .unset, .unset, .unset] []))
    refine gIload Xt24 hx (hb hby at_186) rfl ?_
    refine goCallS Xt24 hx hZ hown (hw _ (List.mem_of_getElem? (i := 195) rfl)) (hw _ (List.mem_of_getElem? (i := 196) rfl)) (hw _ (List.mem_of_getElem? (i := 197) rfl)) (hw _ (List.mem_of_getElem? (i := 198) rfl)) (by decide) (rmDi l Z a0 hw ln ht24 O27 hl1 hl2) 0 (by decide) (by decide) et24 (hsz rfl) [(.int ln.toInt32)] [] pd_3 rfl rfl rfl (Nat.le_of_eq rfl) (hb hby at_188) (by decide) (by decide) (fun Tt28 vt28 Lt28 Xt28 qt28 => ?_)
    obtain ⟨ed1, rfl, N29, et28, ed110, ed1D⟩ := qt28
    have N30 := Fr.app N26 N29
    show Goes p e below _ (Tt28.setTop (mkF m 191 #[.val (.long p0), .second, .val (.int p1), .val (.int p2), .val (.int (0 : Int32)), .val (.int c0), .val (.int c1), .val (.int c2), .val (.ref ob2), .val (.int ln.toInt32), .val (.int co.toInt32), .val (.ref ob18), .val (.ref s2), .unset, .unset, .unset] [(.int ed1.toInt32)]))
    show Goes p e below _ (Tt28.setTop (mkF m 191 #[.val (.long p0), .second, .val (.int p1), .val (.int p2), .val (.int (0 : Int32)), .val (.int c0), .val (.int c1), .val (.int c2), .val (.ref ob2), .val (.int ln.toInt32), .val (.int co.toInt32), .val (.ref ob18), .val (.ref s2), .unset, .unset, .unset] [(.int ed1.toInt32)]))
    rw [own_Duniq ed1D hD1]
    show Goes p e below _ (Tt28.setTop (mkF m 191 #[.val (.long p0), .second, .val (.int p1), .val (.int p2), .val (.int (0 : Int32)), .val (.int c0), .val (.int c1), .val (.int c2), .val (.ref ob2), .val (.int ln.toInt32), .val (.int co.toInt32), .val (.ref ob18), .val (.ref s2), .unset, .unset, .unset] [(.int d1.toInt32)]))
    refine gIstore Xt28 hx (hb hby at_191) (l' := #[.val (.long p0), .second, .val (.int p1), .val (.int p2), .val (.int (0 : Int32)), .val (.int c0), .val (.int c1), .val (.int c2), .val (.ref ob2), .val (.int ln.toInt32), .val (.int co.toInt32), .val (.ref ob18), .val (.ref s2), .val (.int d1.toInt32), .unset, .unset]) rfl ?_
    refine gIload Xt28 hx (hb hby at_193) rfl ?_
    refine goCallS Xt28 hx hZ hown (hw _ (List.mem_of_getElem? (i := 195) rfl)) (hw _ (List.mem_of_getElem? (i := 196) rfl)) (hw _ (List.mem_of_getElem? (i := 197) rfl)) (hw _ (List.mem_of_getElem? (i := 198) rfl)) (by decide) (rmDi l Z a0 hw co ht24 O27 hc1 hc2) 0 (by decide) (by decide) et28 (hsz rfl) [(.int co.toInt32)] [] pd_3 rfl rfl rfl (Nat.le_of_eq rfl) (hb hby at_195) (by decide) (by decide) (fun Tt31 vt31 Lt31 Xt31 qt31 => ?_)
    obtain ⟨ed2, rfl, N32, et31, ed210, ed2D⟩ := qt31
    have N33 := Fr.app N30 N32
    show Goes p e below _ (Tt31.setTop (mkF m 198 #[.val (.long p0), .second, .val (.int p1), .val (.int p2), .val (.int (0 : Int32)), .val (.int c0), .val (.int c1), .val (.int c2), .val (.ref ob2), .val (.int ln.toInt32), .val (.int co.toInt32), .val (.ref ob18), .val (.ref s2), .val (.int d1.toInt32), .unset, .unset] [(.int ed2.toInt32)]))
    show Goes p e below _ (Tt31.setTop (mkF m 198 #[.val (.long p0), .second, .val (.int p1), .val (.int p2), .val (.int (0 : Int32)), .val (.int c0), .val (.int c1), .val (.int c2), .val (.ref ob2), .val (.int ln.toInt32), .val (.int co.toInt32), .val (.ref ob18), .val (.ref s2), .val (.int d1.toInt32), .unset, .unset] [(.int ed2.toInt32)]))
    rw [own_Duniq ed2D hD2]
    show Goes p e below _ (Tt31.setTop (mkF m 198 #[.val (.long p0), .second, .val (.int p1), .val (.int p2), .val (.int (0 : Int32)), .val (.int c0), .val (.int c1), .val (.int c2), .val (.ref ob2), .val (.int ln.toInt32), .val (.int co.toInt32), .val (.ref ob18), .val (.ref s2), .val (.int d1.toInt32), .unset, .unset] [(.int d2.toInt32)]))
    refine gIstore Xt31 hx (hb hby at_198) (l' := #[.val (.long p0), .second, .val (.int p1), .val (.int p2), .val (.int (0 : Int32)), .val (.int c0), .val (.int c1), .val (.int c2), .val (.ref ob2), .val (.int ln.toInt32), .val (.int co.toInt32), .val (.ref ob18), .val (.ref s2), .val (.int d1.toInt32), .val (.int d2.toInt32), .unset]) rfl ?_
    refine gAload Xt31 hx (hb hby at_200) rfl rfl ?_
    refine goCallV Xt31 hx hZ hown (hw _ (List.mem_of_getElem? (i := 199) rfl)) (hw _ (List.mem_of_getElem? (i := 96) rfl)) (hw _ (List.mem_of_getElem? (i := 98) rfl)) (hw _ (List.mem_of_getElem? (i := 97) rfl)) (hw _ (List.mem_of_getElem? (i := 4) rfl)) (hw _ (List.mem_of_getElem? (i := 99) rfl)) (by decide) (rmLe l Z a0 hw u9 sb cs s2 ht24 O27 S_cs hcs Es2 Sv2 Sc2 Sy2) 0 (by decide) (by decide) et31 Es2 (hsz rfl) [] [] pd_8 rfl rfl rfl (Nat.le_of_eq rfl) (hb hby at_202) (by decide) (by decide) (fun Tt34 vt34 Lt34 Xt34 qt34 => ?_)
    obtain ⟨rfl, N35, et34⟩ := qt34
    have N36 := Fr.app N33 N35
    show Goes p e below _ (Tt34.setTop (mkF m 205 #[.val (.long p0), .second, .val (.int p1), .val (.int p2), .val (.int (0 : Int32)), .val (.int c0), .val (.int c1), .val (.int c2), .val (.ref ob2), .val (.int ln.toInt32), .val (.int co.toInt32), .val (.ref ob18), .val (.ref s2), .val (.int d1.toInt32), .val (.int d2.toInt32), .unset] [(.int sb.length.toInt32)]))
    refine gIload Xt34 hx (hb hby at_205) rfl ?_
    refine gIconst Xt34 hx (hb hby at_207) (v := (2 : Int32)) rfl ?_
    refine gIadd Xt34 hx (hb hby at_208) ?_
    show Goes p e below _ (Tt34.setTop (mkF m 209 #[.val (.long p0), .second, .val (.int p1), .val (.int p2), .val (.int (0 : Int32)), .val (.int c0), .val (.int c1), .val (.int c2), .val (.ref ob2), .val (.int ln.toInt32), .val (.int co.toInt32), .val (.ref ob18), .val (.ref s2), .val (.int d1.toInt32), .val (.int d2.toInt32), .unset] [(.int (2 : Nat).toInt32), (.int sb.length.toInt32)]))
    refine gIload Xt34 hx (hb hby at_209) rfl ?_
    refine gIadd Xt34 hx (hb hby at_211) ?_
    show Goes p e below _ (Tt34.setTop (mkF m 212 #[.val (.long p0), .second, .val (.int p1), .val (.int p2), .val (.int (0 : Int32)), .val (.int c0), .val (.int c1), .val (.int c2), .val (.ref ob2), .val (.int ln.toInt32), .val (.int co.toInt32), .val (.ref ob18), .val (.ref s2), .val (.int d1.toInt32), .val (.int d2.toInt32), .unset] [(.int ((2 : Nat).toInt32 + d1.toInt32)), (.int sb.length.toInt32)]))
    rw [own_addn (by omega)]
    show Goes p e below _ (Tt34.setTop (mkF m 212 #[.val (.long p0), .second, .val (.int p1), .val (.int p2), .val (.int (0 : Int32)), .val (.int c0), .val (.int c1), .val (.int c2), .val (.ref ob2), .val (.int ln.toInt32), .val (.int co.toInt32), .val (.ref ob18), .val (.ref s2), .val (.int d1.toInt32), .val (.int d2.toInt32), .unset] [(.int (2 + d1).toInt32), (.int sb.length.toInt32)]))
    refine gIload Xt34 hx (hb hby at_212) rfl ?_
    refine gIadd Xt34 hx (hb hby at_214) ?_
    show Goes p e below _ (Tt34.setTop (mkF m 215 #[.val (.long p0), .second, .val (.int p1), .val (.int p2), .val (.int (0 : Int32)), .val (.int c0), .val (.int c1), .val (.int c2), .val (.ref ob2), .val (.int ln.toInt32), .val (.int co.toInt32), .val (.ref ob18), .val (.ref s2), .val (.int d1.toInt32), .val (.int d2.toInt32), .unset] [(.int ((2 + d1).toInt32 + d2.toInt32)), (.int sb.length.toInt32)]))
    rw [own_addn (by omega)]
    show Goes p e below _ (Tt34.setTop (mkF m 215 #[.val (.long p0), .second, .val (.int p1), .val (.int p2), .val (.int (0 : Int32)), .val (.int c0), .val (.int c1), .val (.int c2), .val (.ref ob2), .val (.int ln.toInt32), .val (.int co.toInt32), .val (.ref ob18), .val (.ref s2), .val (.int d1.toInt32), .val (.int d2.toInt32), .unset] [(.int (2 + d1 + d2).toInt32), (.int sb.length.toInt32)]))
    refine gIcmpY Xt34 hx (hb hby at_215) (pc' := 220) (XT.ii_eq_t (congrArg Nat.toInt32 hlen)) (by decide) (by decide) ?_
    show Goes p e below _ (Tt34.setTop (mkF m 220 #[.val (.long p0), .second, .val (.int p1), .val (.int p2), .val (.int (0 : Int32)), .val (.int c0), .val (.int c1), .val (.int c2), .val (.ref ob2), .val (.int ln.toInt32), .val (.int co.toInt32), .val (.ref ob18), .val (.ref s2), .val (.int d1.toInt32), .val (.int d2.toInt32), .unset] []))
    refine gIload Xt34 hx (hb hby at_220) rfl ?_
    refine gIconst Xt34 hx (hb hby at_222) (v := (1 : Int32)) rfl ?_
    refine gIcmpY Xt34 hx (hb hby at_223) (pc' := 237) (XT.ii_lt_t (by decide)) (by decide) (by decide) ?_
    show Goes p e below _ (Tt34.setTop (mkF m 237 #[.val (.long p0), .second, .val (.int p1), .val (.int p2), .val (.int (0 : Int32)), .val (.int c0), .val (.int c1), .val (.int c2), .val (.ref ob2), .val (.int ln.toInt32), .val (.int co.toInt32), .val (.ref ob18), .val (.ref s2), .val (.int d1.toInt32), .val (.int d2.toInt32), .unset] []))
    refine gIload Xt34 hx (hb hby at_237) rfl ?_
    refine gIconst Xt34 hx (hb hby at_239) (v := (2 : Int32)) rfl ?_
    refine gIcmpY Xt34 hx (hb hby at_240) (pc' := 254) (XT.ii_lt_t (by decide)) (by decide) (by decide) ?_
    show Goes p e below _ (Tt34.setTop (mkF m 254 #[.val (.long p0), .second, .val (.int p1), .val (.int p2), .val (.int (0 : Int32)), .val (.int c0), .val (.int c1), .val (.int c2), .val (.ref ob2), .val (.int ln.toInt32), .val (.int co.toInt32), .val (.ref ob18), .val (.ref s2), .val (.int d1.toInt32), .val (.int d2.toInt32), .unset] []))
    refine gIload Xt34 hx (hb hby at_254) rfl ?_
    refine gIconst Xt34 hx (hb hby at_256) (v := (3 : Int32)) rfl ?_
    refine gIcmpY Xt34 hx (hb hby at_257) (pc' := 271) (XT.ii_lt_t (by decide)) (by decide) (by decide) ?_
    show Goes p e below _ (Tt34.setTop (mkF m 271 #[.val (.long p0), .second, .val (.int p1), .val (.int p2), .val (.int (0 : Int32)), .val (.int c0), .val (.int c1), .val (.int c2), .val (.ref ob2), .val (.int ln.toInt32), .val (.int co.toInt32), .val (.ref ob18), .val (.ref s2), .val (.int d1.toInt32), .val (.int d2.toInt32), .unset] []))
    refine gIconst Xt34 hx (hb hby at_271) (v := (1 : Int32)) rfl ?_
    refine gGoto Xt34 hx (hb hby at_272) (pc' := 276) (by decide) (by decide) ?_
    show Goes p e below _ (Tt34.setTop (mkF m 276 #[.val (.long p0), .second, .val (.int p1), .val (.int p2), .val (.int (0 : Int32)), .val (.int c0), .val (.int c1), .val (.int c2), .val (.ref ob2), .val (.int ln.toInt32), .val (.int co.toInt32), .val (.ref ob18), .val (.ref s2), .val (.int d1.toInt32), .val (.int d2.toInt32), .unset] [(.int (1 : Int32))]))
    refine gIstore Xt34 hx (hb hby at_276) (l' := #[.val (.long p0), .second, .val (.int p1), .val (.int p2), .val (.int (0 : Int32)), .val (.int c0), .val (.int c1), .val (.int c2), .val (.ref ob2), .val (.int ln.toInt32), .val (.int co.toInt32), .val (.ref ob18), .val (.ref s2), .val (.int d1.toInt32), .val (.int d2.toInt32), .val (.int (1 : Int32))]) rfl ?_
    refine gIload Xt34 hx (hb hby at_278) rfl ?_
    refine gIfN Xt34 hx (hb hby at_280) (XT.i0_eq_f (by decide)) ?_
    show Goes p e below _ (Tt34.setTop (mkF m 283 #[.val (.long p0), .second, .val (.int p1), .val (.int p2), .val (.int (0 : Int32)), .val (.int c0), .val (.int c1), .val (.int c2), .val (.ref ob2), .val (.int ln.toInt32), .val (.int co.toInt32), .val (.ref ob18), .val (.ref s2), .val (.int d1.toInt32), .val (.int d2.toInt32), .val (.int (1 : Int32))] []))
    refine gAload Xt34 hx (hb hby at_283) rfl rfl ?_
    refine gIload Xt34 hx (hb hby at_285) rfl ?_
    show Goes p e below _ (Tt34.setTop (mkF m 287 #[.val (.long p0), .second, .val (.int p1), .val (.int p2), .val (.int (0 : Int32)), .val (.int c0), .val (.int c1), .val (.int c2), .val (.ref ob2), .val (.int ln.toInt32), .val (.int co.toInt32), .val (.ref ob18), .val (.ref s2), .val (.int d1.toInt32), .val (.int d2.toInt32), .val (.int (1 : Int32))] [(.int (0 : Nat).toInt32), (.ref s2)]))
    refine goCallV Xt34 hx hZ hown (hw _ (List.mem_of_getElem? (i := 200) rfl)) (hw _ (List.mem_of_getElem? (i := 201) rfl)) (hw _ (List.mem_of_getElem? (i := 203) rfl)) (hw _ (List.mem_of_getElem? (i := 202) rfl)) (hw _ (List.mem_of_getElem? (i := 4) rfl)) (hw _ (List.mem_of_getElem? (i := 204) rfl)) (by decide) (rmCa l Z a0 hw fm u9 sb 0 (58 : Int8) cs s2 ht24 O27 S_cs hcs S_fm rf Es2 Sv2 Sc2 Sy2 hlb hk1) 0 (by decide) (by decide) et34 Es2 (hsz rfl) [(.int (0 : Nat).toInt32)] [] pd_28 rfl rfl rfl (Nat.le_of_eq rfl) (hb hby at_287) (by decide) (by decide) (fun Tt37 vt37 Lt37 Xt37 qt37 => ?_)
    obtain ⟨rfl, N38, et37⟩ := qt37
    have N39 := Fr.app N36 N38
    show Goes p e below _ (Tt37.setTop (mkF m 290 #[.val (.long p0), .second, .val (.int p1), .val (.int p2), .val (.int (0 : Int32)), .val (.int c0), .val (.int c1), .val (.int c2), .val (.ref ob2), .val (.int ln.toInt32), .val (.int co.toInt32), .val (.ref ob18), .val (.ref s2), .val (.int d1.toInt32), .val (.int d2.toInt32), .val (.int (1 : Int32))] [(.int (own_chr (58 : Int8)))]))
    refine gBipush Xt37 hx (hb hby at_290) (v := (58 : Int32)) rfl ?_
    refine gIcmpN Xt37 hx (hb hby at_292) (XT.ii_ne_f (by decide)) ?_
    show Goes p e below _ (Tt37.setTop (mkF m 295 #[.val (.long p0), .second, .val (.int p1), .val (.int p2), .val (.int (0 : Int32)), .val (.int c0), .val (.int c1), .val (.int c2), .val (.ref ob2), .val (.int ln.toInt32), .val (.int co.toInt32), .val (.ref ob18), .val (.ref s2), .val (.int d1.toInt32), .val (.int d2.toInt32), .val (.int (1 : Int32))] []))
    refine gAload Xt37 hx (hb hby at_295) rfl rfl ?_
    refine gIload Xt37 hx (hb hby at_297) rfl ?_
    refine gIconst Xt37 hx (hb hby at_299) (v := (1 : Int32)) rfl ?_
    refine gIadd Xt37 hx (hb hby at_300) ?_
    show Goes p e below _ (Tt37.setTop (mkF m 301 #[.val (.long p0), .second, .val (.int p1), .val (.int p2), .val (.int (0 : Int32)), .val (.int c0), .val (.int c1), .val (.int c2), .val (.ref ob2), .val (.int ln.toInt32), .val (.int co.toInt32), .val (.ref ob18), .val (.ref s2), .val (.int d1.toInt32), .val (.int d2.toInt32), .val (.int (1 : Int32))] [(.int (1 : Nat).toInt32), (.ref s2)]))
    refine gIload Xt37 hx (hb hby at_301) rfl ?_
    refine gIload Xt37 hx (hb hby at_303) rfl ?_
    refine goCallS Xt37 hx hZ hown (hw _ (List.mem_of_getElem? (i := 222) rfl)) (hw _ (List.mem_of_getElem? (i := 223) rfl)) (hw _ (List.mem_of_getElem? (i := 197) rfl)) (hw _ (List.mem_of_getElem? (i := 224) rfl)) (by decide) (rmNu l Z a0 hw fm s2 u9 sb ln d1 1 cs ht24 O27 S_cs hcs S_fm rf Es2 Sv2 Sc2 Sy2 hlb hl2 h110 (by omega) hdA) 0 (by decide) (by decide) et37 (hsz rfl) [(.ref s2), (.int (1 : Nat).toInt32), (.int ln.toInt32), (.int d1.toInt32)] [] pd_37 rfl rfl rfl (Nat.le_of_eq rfl) (hb hby at_305) (by decide) (by decide) (fun Tt40 vt40 Lt40 Xt40 qt40 => ?_)
    obtain ⟨rfl, N41, et40⟩ := qt40
    have N42 := Fr.app N39 N41
    show Goes p e below _ (Tt40.setTop (mkF m 308 #[.val (.long p0), .second, .val (.int p1), .val (.int p2), .val (.int (0 : Int32)), .val (.int c0), .val (.int c1), .val (.int c2), .val (.ref ob2), .val (.int ln.toInt32), .val (.int co.toInt32), .val (.ref ob18), .val (.ref s2), .val (.int d1.toInt32), .val (.int d2.toInt32), .val (.int (1 : Int32))] [(.int (1 : Int32))]))
    refine gIfN Xt40 hx (hb hby at_308) (XT.i0_eq_f (by decide)) ?_
    show Goes p e below _ (Tt40.setTop (mkF m 311 #[.val (.long p0), .second, .val (.int p1), .val (.int p2), .val (.int (0 : Int32)), .val (.int c0), .val (.int c1), .val (.int c2), .val (.ref ob2), .val (.int ln.toInt32), .val (.int co.toInt32), .val (.ref ob18), .val (.ref s2), .val (.int d1.toInt32), .val (.int d2.toInt32), .val (.int (1 : Int32))] []))
    refine gAload Xt40 hx (hb hby at_311) rfl rfl ?_
    refine gIload Xt40 hx (hb hby at_313) rfl ?_
    refine gIconst Xt40 hx (hb hby at_315) (v := (1 : Int32)) rfl ?_
    refine gIadd Xt40 hx (hb hby at_316) ?_
    show Goes p e below _ (Tt40.setTop (mkF m 317 #[.val (.long p0), .second, .val (.int p1), .val (.int p2), .val (.int (0 : Int32)), .val (.int c0), .val (.int c1), .val (.int c2), .val (.ref ob2), .val (.int ln.toInt32), .val (.int co.toInt32), .val (.ref ob18), .val (.ref s2), .val (.int d1.toInt32), .val (.int d2.toInt32), .val (.int (1 : Int32))] [(.int (1 : Nat).toInt32), (.ref s2)]))
    refine gIload Xt40 hx (hb hby at_317) rfl ?_
    refine gIadd Xt40 hx (hb hby at_319) ?_
    show Goes p e below _ (Tt40.setTop (mkF m 320 #[.val (.long p0), .second, .val (.int p1), .val (.int p2), .val (.int (0 : Int32)), .val (.int c0), .val (.int c1), .val (.int c2), .val (.ref ob2), .val (.int ln.toInt32), .val (.int co.toInt32), .val (.ref ob18), .val (.ref s2), .val (.int d1.toInt32), .val (.int d2.toInt32), .val (.int (1 : Int32))] [(.int ((1 : Nat).toInt32 + d1.toInt32)), (.ref s2)]))
    rw [own_addn (by omega)]
    show Goes p e below _ (Tt40.setTop (mkF m 320 #[.val (.long p0), .second, .val (.int p1), .val (.int p2), .val (.int (0 : Int32)), .val (.int c0), .val (.int c1), .val (.int c2), .val (.ref ob2), .val (.int ln.toInt32), .val (.int co.toInt32), .val (.ref ob18), .val (.ref s2), .val (.int d1.toInt32), .val (.int d2.toInt32), .val (.int (1 : Int32))] [(.int (1 + d1).toInt32), (.ref s2)]))
    refine goCallV Xt40 hx hZ hown (hw _ (List.mem_of_getElem? (i := 200) rfl)) (hw _ (List.mem_of_getElem? (i := 201) rfl)) (hw _ (List.mem_of_getElem? (i := 203) rfl)) (hw _ (List.mem_of_getElem? (i := 202) rfl)) (hw _ (List.mem_of_getElem? (i := 4) rfl)) (hw _ (List.mem_of_getElem? (i := 204) rfl)) (by decide) (rmCa l Z a0 hw fm u9 sb (1 + d1) (58 : Int8) cs s2 ht24 O27 S_cs hcs S_fm rf Es2 Sv2 Sc2 Sy2 hlb hk2) 0 (by decide) (by decide) et40 Es2 (hsz rfl) [(.int (1 + d1).toInt32)] [] pd_28 rfl rfl rfl (Nat.le_of_eq rfl) (hb hby at_320) (by decide) (by decide) (fun Tt43 vt43 Lt43 Xt43 qt43 => ?_)
    obtain ⟨rfl, N44, et43⟩ := qt43
    have N45 := Fr.app N42 N44
    show Goes p e below _ (Tt43.setTop (mkF m 323 #[.val (.long p0), .second, .val (.int p1), .val (.int p2), .val (.int (0 : Int32)), .val (.int c0), .val (.int c1), .val (.int c2), .val (.ref ob2), .val (.int ln.toInt32), .val (.int co.toInt32), .val (.ref ob18), .val (.ref s2), .val (.int d1.toInt32), .val (.int d2.toInt32), .val (.int (1 : Int32))] [(.int (own_chr (58 : Int8)))]))
    refine gBipush Xt43 hx (hb hby at_323) (v := (58 : Int32)) rfl ?_
    refine gIcmpN Xt43 hx (hb hby at_325) (XT.ii_ne_f (by decide)) ?_
    show Goes p e below _ (Tt43.setTop (mkF m 328 #[.val (.long p0), .second, .val (.int p1), .val (.int p2), .val (.int (0 : Int32)), .val (.int c0), .val (.int c1), .val (.int c2), .val (.ref ob2), .val (.int ln.toInt32), .val (.int co.toInt32), .val (.ref ob18), .val (.ref s2), .val (.int d1.toInt32), .val (.int d2.toInt32), .val (.int (1 : Int32))] []))
    refine gAload Xt43 hx (hb hby at_328) rfl rfl ?_
    refine gIload Xt43 hx (hb hby at_330) rfl ?_
    refine gIconst Xt43 hx (hb hby at_332) (v := (2 : Int32)) rfl ?_
    refine gIadd Xt43 hx (hb hby at_333) ?_
    show Goes p e below _ (Tt43.setTop (mkF m 334 #[.val (.long p0), .second, .val (.int p1), .val (.int p2), .val (.int (0 : Int32)), .val (.int c0), .val (.int c1), .val (.int c2), .val (.ref ob2), .val (.int ln.toInt32), .val (.int co.toInt32), .val (.ref ob18), .val (.ref s2), .val (.int d1.toInt32), .val (.int d2.toInt32), .val (.int (1 : Int32))] [(.int (2 : Nat).toInt32), (.ref s2)]))
    refine gIload Xt43 hx (hb hby at_334) rfl ?_
    refine gIadd Xt43 hx (hb hby at_336) ?_
    show Goes p e below _ (Tt43.setTop (mkF m 337 #[.val (.long p0), .second, .val (.int p1), .val (.int p2), .val (.int (0 : Int32)), .val (.int c0), .val (.int c1), .val (.int c2), .val (.ref ob2), .val (.int ln.toInt32), .val (.int co.toInt32), .val (.ref ob18), .val (.ref s2), .val (.int d1.toInt32), .val (.int d2.toInt32), .val (.int (1 : Int32))] [(.int ((2 : Nat).toInt32 + d1.toInt32)), (.ref s2)]))
    rw [own_addn (by omega)]
    show Goes p e below _ (Tt43.setTop (mkF m 337 #[.val (.long p0), .second, .val (.int p1), .val (.int p2), .val (.int (0 : Int32)), .val (.int c0), .val (.int c1), .val (.int c2), .val (.ref ob2), .val (.int ln.toInt32), .val (.int co.toInt32), .val (.ref ob18), .val (.ref s2), .val (.int d1.toInt32), .val (.int d2.toInt32), .val (.int (1 : Int32))] [(.int (2 + d1).toInt32), (.ref s2)]))
    refine gIload Xt43 hx (hb hby at_337) rfl ?_
    refine gIload Xt43 hx (hb hby at_339) rfl ?_
    refine goCallS Xt43 hx hZ hown (hw _ (List.mem_of_getElem? (i := 222) rfl)) (hw _ (List.mem_of_getElem? (i := 223) rfl)) (hw _ (List.mem_of_getElem? (i := 197) rfl)) (hw _ (List.mem_of_getElem? (i := 224) rfl)) (by decide) (rmNu l Z a0 hw fm s2 u9 sb co d2 (2 + d1) cs ht24 O27 S_cs hcs S_fm rf Es2 Sv2 Sc2 Sy2 hlb hc2 h210 (by omega) hdB) 0 (by decide) (by decide) et43 (hsz rfl) [(.ref s2), (.int (2 + d1).toInt32), (.int co.toInt32), (.int d2.toInt32)] [] pd_37 rfl rfl rfl (Nat.le_of_eq rfl) (hb hby at_341) (by decide) (by decide) (fun Tt46 vt46 Lt46 Xt46 qt46 => ?_)
    obtain ⟨rfl, N47, et46⟩ := qt46
    have N48 := Fr.app N45 N47
    show Goes p e below _ (Tt46.setTop (mkF m 344 #[.val (.long p0), .second, .val (.int p1), .val (.int p2), .val (.int (0 : Int32)), .val (.int c0), .val (.int c1), .val (.int c2), .val (.ref ob2), .val (.int ln.toInt32), .val (.int co.toInt32), .val (.ref ob18), .val (.ref s2), .val (.int d1.toInt32), .val (.int d2.toInt32), .val (.int (1 : Int32))] [(.int (1 : Int32))]))
    refine gIfN Xt46 hx (hb hby at_344) (XT.i0_eq_f (by decide)) ?_
    show Goes p e below _ (Tt46.setTop (mkF m 347 #[.val (.long p0), .second, .val (.int p1), .val (.int p2), .val (.int (0 : Int32)), .val (.int c0), .val (.int c1), .val (.int c2), .val (.ref ob2), .val (.int ln.toInt32), .val (.int co.toInt32), .val (.ref ob18), .val (.ref s2), .val (.int d1.toInt32), .val (.int d2.toInt32), .val (.int (1 : Int32))] []))
    refine gIconst Xt46 hx (hb hby at_347) (v := (1 : Int32)) rfl ?_
    refine gGoto Xt46 hx (hb hby at_348) (pc' := 352) (by decide) (by decide) ?_
    show Goes p e below _ (Tt46.setTop (mkF m 352 #[.val (.long p0), .second, .val (.int p1), .val (.int p2), .val (.int (0 : Int32)), .val (.int c0), .val (.int c1), .val (.int c2), .val (.ref ob2), .val (.int ln.toInt32), .val (.int co.toInt32), .val (.ref ob18), .val (.ref s2), .val (.int d1.toInt32), .val (.int d2.toInt32), .val (.int (1 : Int32))] [(.int (1 : Int32))]))
    exact goRetNW Xt46 hx hS (t := .boolean) hret hlocks (by simp) (hb hby at_352) (z' := (1 : Int32)) rfl (by decide) (by decide) et46 (⟨rfl, N48⟩)
  · rw [hl]
    show Goes p e below _ (s₁.setTop (mkF m 43 #[.val (.long p0), .second, .val (.int p1), .val (.int p2), .val (.int (1 : Int32)), .val (.int c0), .val (.int c1), .val (.int c2), .unset, .unset, .unset, .unset, .unset, .unset, .unset, .unset] []))
    refine gIload X0 hx (hb hby at_43) rfl ?_
    refine gIfY X0 hx (hb hby at_45) (pc' := 63) (XT.i0_ne_t (by decide)) (by decide) (by decide) ?_
    show Goes p e below _ (s₁.setTop (mkF m 63 #[.val (.long p0), .second, .val (.int p1), .val (.int p2), .val (.int (1 : Int32)), .val (.int c0), .val (.int c1), .val (.int c2), .unset, .unset, .unset, .unset, .unset, .unset, .unset, .unset] []))
    refine gIload X0 hx (hb hby at_63) rfl ?_
    refine gIconst X0 hx (hb hby at_65) (v := (1 : Int32)) rfl ?_
    refine gIcmpN X0 hx (hb hby at_66) (XT.ii_ne_f rfl) ?_
    show Goes p e below _ (s₁.setTop (mkF m 69 #[.val (.long p0), .second, .val (.int p1), .val (.int p2), .val (.int (1 : Int32)), .val (.int c0), .val (.int c1), .val (.int c2), .unset, .unset, .unset, .unset, .unset, .unset, .unset, .unset] []))
    refine gIload X0 hx (hb hby at_69) rfl ?_
    refine goCallS X0 hx hZ hown (hw _ (List.mem_of_getElem? (i := 262) rfl)) (hw _ (List.mem_of_getElem? (i := 263) rfl)) (hw _ (List.mem_of_getElem? (i := 4) rfl)) (hw _ (List.mem_of_getElem? (i := 264) rfl)) (by decide) (rmV l Z a0 hw cs c0 h0 O0 S_cs hcs qb0) 0 (by decide) (by decide) e0 (hsz rfl) [(.int c0)] [] pd_38 rfl rfl rfl (Nat.le_of_eq rfl) (hb hby at_71) (by decide) (by decide) (fun Tt49 vt49 Lt49 Xt49 qt49 => ?_)
    obtain ⟨ht49, et49⟩ : ∃ z, Tt49.heap = z := ⟨_, rfl⟩
    rw [et49] at qt49
    obtain ⟨s1, rfl, N50, Kct49, ps1, Es1, us, pus, Sv1, Sc1, Sy0⟩ := qt49
    have N51 := Fr.app N0 N50
    replace Yo := Yo.keep Kct49 nin0
    replace Yt := Yt.keep Kct49 nin0
    have O52 : Ext Z.heap ht49 := extK O0 Kct49 all0
    replace hS := hS.keep Kct49
    show Goes p e below _ (Tt49.setTop (mkF m 74 #[.val (.long p0), .second, .val (.int p1), .val (.int p2), .val (.int (1 : Int32)), .val (.int c0), .val (.int c1), .val (.int c2), .unset, .unset, .unset, .unset, .unset, .unset, .unset, .unset] [(.ref s1)]))
    have Sy1 : Ary Z ht49 us .byte (own_bv [c0.toInt8]) := Sy0
    refine gAstore Xt49 hx (hb hby at_74) rfl (l' := #[.val (.long p0), .second, .val (.int p1), .val (.int p2), .val (.int (1 : Int32)), .val (.int c0), .val (.int c1), .val (.int c2), .val (.ref s1), .unset, .unset, .unset, .unset, .unset, .unset, .unset]) rfl ?_
    refine gGoto Xt49 hx (hb hby at_76) (pc' := 137) (by decide) (by decide) ?_
    show Goes p e below _ (Tt49.setTop (mkF m 137 #[.val (.long p0), .second, .val (.int p1), .val (.int p2), .val (.int (1 : Int32)), .val (.int c0), .val (.int c1), .val (.int c2), .val (.ref s1), .unset, .unset, .unset, .unset, .unset, .unset, .unset] []))
    refine gIconst Xt49 hx (hb hby at_137) (v := (1 : Int32)) rfl ?_
    refine gIloadN Xt49 hx (hb hby at_138) rfl ?_
    refine gLdcI Xt49 hx hZ hown (hw _ (List.mem_of_getElem? (i := 32) rfl)) (hb hby at_139) ?_
    refine gIand Xt49 hx (hb hby at_141) ?_
    obtain ⟨ln, hl1, hl2, hl3⟩ := own_line p1
    refine goCallS Xt49 hx hZ hown (hw _ (List.mem_of_getElem? (i := 33) rfl)) (hw _ (List.mem_of_getElem? (i := 34) rfl)) (hw _ (List.mem_of_getElem? (i := 35) rfl)) (hw _ (List.mem_of_getElem? (i := 36) rfl)) (by decide) (rmMx l Z a0 hw ln.toInt32 (1 : Int32) (p1 &&& (2147483647 : Int32)) ht49 O52 hl3) 0 (by decide) (by decide) et49 (hsz rfl) [(.int (1 : Int32)), (.int (p1 &&& (2147483647 : Int32)))] [] pd_1 rfl rfl rfl (Nat.le_of_eq rfl) (hb hby at_142) (by decide) (by decide) (fun Tt53 vt53 Lt53 Xt53 qt53 => ?_)
    obtain ⟨rfl, N54, et53⟩ := qt53
    have N55 := Fr.app N51 N54
    show Goes p e below _ (Tt53.setTop (mkF m 145 #[.val (.long p0), .second, .val (.int p1), .val (.int p2), .val (.int (1 : Int32)), .val (.int c0), .val (.int c1), .val (.int c2), .val (.ref s1), .unset, .unset, .unset, .unset, .unset, .unset, .unset] [(.int ln.toInt32)]))
    refine gIstore Xt53 hx (hb hby at_145) (l' := #[.val (.long p0), .second, .val (.int p1), .val (.int p2), .val (.int (1 : Int32)), .val (.int c0), .val (.int c1), .val (.int c2), .val (.ref s1), .val (.int ln.toInt32), .unset, .unset, .unset, .unset, .unset, .unset]) rfl ?_
    refine gIconst Xt53 hx (hb hby at_147) (v := (1 : Int32)) rfl ?_
    refine gIloadN Xt53 hx (hb hby at_148) rfl ?_
    refine gLdcI Xt53 hx hZ hown (hw _ (List.mem_of_getElem? (i := 32) rfl)) (hb hby at_149) ?_
    refine gIand Xt53 hx (hb hby at_151) ?_
    obtain ⟨co, hc1, hc2, hc3⟩ := own_line p2
    refine goCallS Xt53 hx hZ hown (hw _ (List.mem_of_getElem? (i := 33) rfl)) (hw _ (List.mem_of_getElem? (i := 34) rfl)) (hw _ (List.mem_of_getElem? (i := 35) rfl)) (hw _ (List.mem_of_getElem? (i := 36) rfl)) (by decide) (rmMx l Z a0 hw co.toInt32 (1 : Int32) (p2 &&& (2147483647 : Int32)) ht49 O52 hc3) 0 (by decide) (by decide) et53 (hsz rfl) [(.int (1 : Int32)), (.int (p2 &&& (2147483647 : Int32)))] [] pd_1 rfl rfl rfl (Nat.le_of_eq rfl) (hb hby at_152) (by decide) (by decide) (fun Tt56 vt56 Lt56 Xt56 qt56 => ?_)
    obtain ⟨rfl, N57, et56⟩ := qt56
    have N58 := Fr.app N55 N57
    show Goes p e below _ (Tt56.setTop (mkF m 155 #[.val (.long p0), .second, .val (.int p1), .val (.int p2), .val (.int (1 : Int32)), .val (.int c0), .val (.int c1), .val (.int c2), .val (.ref s1), .val (.int ln.toInt32), .unset, .unset, .unset, .unset, .unset, .unset] [(.int co.toInt32)]))
    refine gIstore Xt56 hx (hb hby at_155) (l' := #[.val (.long p0), .second, .val (.int p1), .val (.int p2), .val (.int (1 : Int32)), .val (.int c0), .val (.int c1), .val (.int c2), .val (.ref s1), .val (.int ln.toInt32), .val (.int co.toInt32), .unset, .unset, .unset, .unset, .unset]) rfl ?_
    obtain ⟨Tt59, ht59, Xt59, et59, Et59, At59, Dt59, -, stt59⟩ := newO Xt56 hx hZ hown (hw _ (List.mem_of_getElem? (i := 37) rfl)) (hw _ (List.mem_of_getElem? (i := 38) rfl)) (hw _ (List.mem_of_getElem? (i := 39) rfl)) et56 (g := (mkF m 157 #[.val (.long p0), .second, .val (.int p1), .val (.int p2), .val (.int (1 : Int32)), .val (.int c0), .val (.int c1), .val (.int c2), .val (.ref s1), .val (.int ln.toInt32), .val (.int co.toInt32), .unset, .unset, .unset, .unset, .unset] [])) rfl (hb hby at_157) (by decide) (by decide)
    obtain ⟨ob60, gob60⟩ : ∃ z, z = ht49.size := ⟨_, rfl⟩
    rw [← gob60] at At59 Dt59 stt59
    refine go stt59 ?_
    have ne_o1_ob60 : o1 ≠ ob60 := Nat.ne_of_lt (gob60 ▸ Yo.lt)
    have ne_o2_ob60 : o2 ≠ ob60 := Nat.ne_of_lt (gob60 ▸ Yt.lt)
    have ne_s1_ob60 : s1 ≠ ob60 := Nat.ne_of_lt (gob60 ▸ Es1.lt)
    have ne_us_ob60 : us ≠ ob60 := Nat.ne_of_lt (gob60 ▸ Sy1.lt)
    have fr_ob60 : Z.heap.size ≤ ob60 := gob60 ▸ O52.1
    replace Yo := Yo.ext Et59
    replace Yt := Yt.ext Et59
    replace Es1 := Es1.ext Et59
    replace Sv1 := Sv1.ext Et59
    replace Sc1 := Sc1.ext Et59
    replace Sy1 := Sy1.ext Et59
    have O61 : Ext Z.heap ht59 := extT O52 Et59
    replace hS := hS.ext Et59
    have F_source_ob60 : Fld Z ht59 ob60 "com/example/phal/phal/model/SourcePosition" "source" "Ljava/lang/String;" .null := Dt59 (Or.inr (hw _ (List.mem_of_getElem? (i := 57) rfl))) (ty := (.object "java/lang/String")) (by decide)
    have F_line_ob60 : Fld Z ht59 ob60 "com/example/phal/phal/model/SourcePosition" "line" "I" (.int (0 : Int32)) := Dt59 (Or.inr (hw _ (List.mem_of_getElem? (i := 59) rfl))) (ty := .int) (by decide)
    have F_column_ob60 : Fld Z ht59 ob60 "com/example/phal/phal/model/SourcePosition" "column" "I" (.int (0 : Int32)) := Dt59 (Or.inr (hw _ (List.mem_of_getElem? (i := 61) rfl))) (ty := .int) (by decide)
    show Goes p e below _ (Tt59.setTop (mkF m 160 #[.val (.long p0), .second, .val (.int p1), .val (.int p2), .val (.int (1 : Int32)), .val (.int c0), .val (.int c1), .val (.int c2), .val (.ref s1), .val (.int ln.toInt32), .val (.int co.toInt32), .unset, .unset, .unset, .unset, .unset] [(.ref ob60)]))
    refine gDup Xt59 hx (hb hby at_160) rfl ?_
    refine gAload Xt59 hx (hb hby at_161) rfl rfl ?_
    refine gIload Xt59 hx (hb hby at_163) rfl ?_
    refine gIload Xt59 hx (hb hby at_165) rfl ?_
    refine goCallIW Xt59 hx hZ hS rfl hown (hw _ (List.mem_of_getElem? (i := 40) rfl)) (hw _ (List.mem_of_getElem? (i := 41) rfl)) (hw _ (List.mem_of_getElem? (i := 39) rfl)) (hw _ (List.mem_of_getElem? (i := 42) rfl)) (by decide) (rmPi l Z a0 hw [] ln co ob60 s1 ht59 O61 hh7 hcw (by simp) At59 F_source_ob60 F_line_ob60 F_column_ob60 fr_ob60 hl1 hl2 hc1 hc2) (fun _ w_ => IB.warm hPv w_) 1 (by decide) (by decide) et59 (hsz rfl) ob60 [(.ref s1), (.int ln.toInt32), (.int co.toInt32)] [(.ref ob60)] pd_36 rfl rfl rfl (Nat.le_of_eq rfl) (hb hby at_167) (by decide) (by decide) (fun Tt62 vt62 Lt62 Xt62 hZ hown hS wm_t62 qt62 => ?_)
    obtain ⟨ht62, et62⟩ : ∃ z, Tt62.heap = z := ⟨_, rfl⟩
    rw [et62] at qt62 hS
    obtain ⟨rfl, N63, Kct62, P1, P2, P3, Ib2⟩ := qt62
    have N64 := Fr.app N58 N63
    replace Yo := Yo.keep Kct62 (ninS ne_o1_ob60 nin0)
    replace Yt := Yt.keep Kct62 (ninS ne_o2_ob60 nin0)
    replace Es1 := Es1.keep Kct62
    replace Sv1 := Sv1.keep Kct62 (ninS ne_s1_ob60 nin0)
    replace Sc1 := Sc1.keep Kct62 (ninS ne_s1_ob60 nin0)
    replace Sy1 := Sy1.keep Kct62 (ninS ne_us_ob60 nin0)
    replace At59 := At59.keep Kct62
    have O65 : Ext Z.heap ht62 := extK O61 Kct62 (allS fr_ob60 all0)
    show Goes p e below _ (Tt62.setTop (mkF m 170 #[.val (.long p0), .second, .val (.int p1), .val (.int p2), .val (.int (1 : Int32)), .val (.int c0), .val (.int c1), .val (.int c2), .val (.ref s1), .val (.int ln.toInt32), .val (.int co.toInt32), .unset, .unset, .unset, .unset, .unset] [(.ref ob60)]))
    refine gAstore Xt62 hx (hb hby at_170) rfl (l' := #[.val (.long p0), .second, .val (.int p1), .val (.int p2), .val (.int (1 : Int32)), .val (.int c0), .val (.int c1), .val (.int c2), .val (.ref s1), .val (.int ln.toInt32), .val (.int co.toInt32), .val (.ref ob60), .unset, .unset, .unset, .unset]) rfl ?_
    refine gAload Xt62 hx (hb hby at_172) rfl rfl ?_
    refine goCallVW Xt62 hx hZ hS hown (hw _ (List.mem_of_getElem? (i := 62) rfl)) (hw _ (List.mem_of_getElem? (i := 63) rfl)) (hw _ (List.mem_of_getElem? (i := 65) rfl)) (hw _ (List.mem_of_getElem? (i := 64) rfl)) (hw _ (List.mem_of_getElem? (i := 39) rfl)) (hw _ (List.mem_of_getElem? (i := 66) rfl)) (by decide) (rmPt l Z a0 hw ("source" :: []) ln co s1 us o1 o2 [c0.toInt8] cs ob60 ht62 O65 S_cs hcs S_o S_t Yo Yt lo1 lo2 hh29 hcw (by simp) At59 P1 P2 P3 Es1 Sv1 Sc1 Sy1 hl1 hl2 hc1 hc2 (by simp)) (fun _ w_ => IB.warm Ib2 w_) 0 (by decide) (by decide) et62 At59 (hsz rfl) [] [] pd_34 rfl rfl rfl (Nat.le_of_eq rfl) (hb hby at_174) (by decide) (by decide) (fun Tt66 vt66 Lt66 Xt66 hZ hown hS wm_t66 qt66 => ?_)
    obtain ⟨ht66, et66⟩ : ∃ z, Tt66.heap = z := ⟨_, rfl⟩
    rw [et66] at qt66 hS
    obtain ⟨s2, rfl, N67, Kct66, Es2, u9, d1, d2, h110, hD1, h210, hD2, Sv2, Sc2, Sy9⟩ := qt66
    have N68 := Fr.app N64 N67
    replace Yo := Yo.keep Kct66 nin0
    replace Yt := Yt.keep Kct66 nin0
    replace Es1 := Es1.keep Kct66
    replace Sv1 := Sv1.keep Kct66 nin0
    replace Sc1 := Sc1.keep Kct66 nin0
    replace Sy1 := Sy1.keep Kct66 nin0
    replace At59 := At59.keep Kct66
    replace P1 := P1.keep Kct66 nin0
    replace P2 := P2.keep Kct66 nin0
    replace P3 := P3.keep Kct66 nin0
    have O69 : Ext Z.heap ht66 := extK O65 Kct66 all0
    show Goes p e below _ (Tt66.setTop (mkF m 177 #[.val (.long p0), .second, .val (.int p1), .val (.int p2), .val (.int (1 : Int32)), .val (.int c0), .val (.int c1), .val (.int c2), .val (.ref s1), .val (.int ln.toInt32), .val (.int co.toInt32), .val (.ref ob60), .unset, .unset, .unset, .unset] [(.ref s2)]))
    obtain ⟨sb, hsb, hlen, hpre, hk1, hdA, hk2, hdB⟩ := own_txt [c0.toInt8] 1 d1 d2 ln co rfl
    have Sy2 : Ary Z ht66 u9 .byte (own_bv sb) := by rw [hsb]; exact Sy9
    clear Sy9 hsb
    have hlb : sb.length < 1000 := by omega
    refine gAstore Xt66 hx (hb hby at_177) rfl (l' := #[.val (.long p0), .second, .val (.int p1), .val (.int p2), .val (.int (1 : Int32)), .val (.int c0), .val (.int c1), .val (.int c2), .val (.ref s1), .val (.int ln.toInt32), .val (.int co.toInt32), .val (.ref ob60), .val (.ref s2), .unset, .unset, .unset]) rfl ?_
    refine gAload Xt66 hx (hb hby at_179) rfl rfl ?_
    refine gNonnullY Xt66 hx (hb hby at_181) (pc' := 186) (by decide) (by decide) ?_
    show Goes p e below _ (Tt66.setTop (mkF m 186 #[.val (.long p0), .second, .val (.int p1), .val (.int p2), .val (.int (1 : Int32)), .val (.int c0), .val (.int c1), .val (.int c2), .val (.ref s1), .val (.int ln.toInt32), .val (.int co.toInt32), .val (.ref ob60), .val (.ref s2), .unset, .unset, .unset] []))
    refine gIload Xt66 hx (hb hby at_186) rfl ?_
    refine goCallS Xt66 hx hZ hown (hw _ (List.mem_of_getElem? (i := 195) rfl)) (hw _ (List.mem_of_getElem? (i := 196) rfl)) (hw _ (List.mem_of_getElem? (i := 197) rfl)) (hw _ (List.mem_of_getElem? (i := 198) rfl)) (by decide) (rmDi l Z a0 hw ln ht66 O69 hl1 hl2) 0 (by decide) (by decide) et66 (hsz rfl) [(.int ln.toInt32)] [] pd_3 rfl rfl rfl (Nat.le_of_eq rfl) (hb hby at_188) (by decide) (by decide) (fun Tt70 vt70 Lt70 Xt70 qt70 => ?_)
    obtain ⟨ed1, rfl, N71, et70, ed110, ed1D⟩ := qt70
    have N72 := Fr.app N68 N71
    show Goes p e below _ (Tt70.setTop (mkF m 191 #[.val (.long p0), .second, .val (.int p1), .val (.int p2), .val (.int (1 : Int32)), .val (.int c0), .val (.int c1), .val (.int c2), .val (.ref s1), .val (.int ln.toInt32), .val (.int co.toInt32), .val (.ref ob60), .val (.ref s2), .unset, .unset, .unset] [(.int ed1.toInt32)]))
    show Goes p e below _ (Tt70.setTop (mkF m 191 #[.val (.long p0), .second, .val (.int p1), .val (.int p2), .val (.int (1 : Int32)), .val (.int c0), .val (.int c1), .val (.int c2), .val (.ref s1), .val (.int ln.toInt32), .val (.int co.toInt32), .val (.ref ob60), .val (.ref s2), .unset, .unset, .unset] [(.int ed1.toInt32)]))
    rw [own_Duniq ed1D hD1]
    show Goes p e below _ (Tt70.setTop (mkF m 191 #[.val (.long p0), .second, .val (.int p1), .val (.int p2), .val (.int (1 : Int32)), .val (.int c0), .val (.int c1), .val (.int c2), .val (.ref s1), .val (.int ln.toInt32), .val (.int co.toInt32), .val (.ref ob60), .val (.ref s2), .unset, .unset, .unset] [(.int d1.toInt32)]))
    refine gIstore Xt70 hx (hb hby at_191) (l' := #[.val (.long p0), .second, .val (.int p1), .val (.int p2), .val (.int (1 : Int32)), .val (.int c0), .val (.int c1), .val (.int c2), .val (.ref s1), .val (.int ln.toInt32), .val (.int co.toInt32), .val (.ref ob60), .val (.ref s2), .val (.int d1.toInt32), .unset, .unset]) rfl ?_
    refine gIload Xt70 hx (hb hby at_193) rfl ?_
    refine goCallS Xt70 hx hZ hown (hw _ (List.mem_of_getElem? (i := 195) rfl)) (hw _ (List.mem_of_getElem? (i := 196) rfl)) (hw _ (List.mem_of_getElem? (i := 197) rfl)) (hw _ (List.mem_of_getElem? (i := 198) rfl)) (by decide) (rmDi l Z a0 hw co ht66 O69 hc1 hc2) 0 (by decide) (by decide) et70 (hsz rfl) [(.int co.toInt32)] [] pd_3 rfl rfl rfl (Nat.le_of_eq rfl) (hb hby at_195) (by decide) (by decide) (fun Tt73 vt73 Lt73 Xt73 qt73 => ?_)
    obtain ⟨ed2, rfl, N74, et73, ed210, ed2D⟩ := qt73
    have N75 := Fr.app N72 N74
    show Goes p e below _ (Tt73.setTop (mkF m 198 #[.val (.long p0), .second, .val (.int p1), .val (.int p2), .val (.int (1 : Int32)), .val (.int c0), .val (.int c1), .val (.int c2), .val (.ref s1), .val (.int ln.toInt32), .val (.int co.toInt32), .val (.ref ob60), .val (.ref s2), .val (.int d1.toInt32), .unset, .unset] [(.int ed2.toInt32)]))
    show Goes p e below _ (Tt73.setTop (mkF m 198 #[.val (.long p0), .second, .val (.int p1), .val (.int p2), .val (.int (1 : Int32)), .val (.int c0), .val (.int c1), .val (.int c2), .val (.ref s1), .val (.int ln.toInt32), .val (.int co.toInt32), .val (.ref ob60), .val (.ref s2), .val (.int d1.toInt32), .unset, .unset] [(.int ed2.toInt32)]))
    rw [own_Duniq ed2D hD2]
    show Goes p e below _ (Tt73.setTop (mkF m 198 #[.val (.long p0), .second, .val (.int p1), .val (.int p2), .val (.int (1 : Int32)), .val (.int c0), .val (.int c1), .val (.int c2), .val (.ref s1), .val (.int ln.toInt32), .val (.int co.toInt32), .val (.ref ob60), .val (.ref s2), .val (.int d1.toInt32), .unset, .unset] [(.int d2.toInt32)]))
    refine gIstore Xt73 hx (hb hby at_198) (l' := #[.val (.long p0), .second, .val (.int p1), .val (.int p2), .val (.int (1 : Int32)), .val (.int c0), .val (.int c1), .val (.int c2), .val (.ref s1), .val (.int ln.toInt32), .val (.int co.toInt32), .val (.ref ob60), .val (.ref s2), .val (.int d1.toInt32), .val (.int d2.toInt32), .unset]) rfl ?_
    refine gAload Xt73 hx (hb hby at_200) rfl rfl ?_
    refine goCallV Xt73 hx hZ hown (hw _ (List.mem_of_getElem? (i := 199) rfl)) (hw _ (List.mem_of_getElem? (i := 96) rfl)) (hw _ (List.mem_of_getElem? (i := 98) rfl)) (hw _ (List.mem_of_getElem? (i := 97) rfl)) (hw _ (List.mem_of_getElem? (i := 4) rfl)) (hw _ (List.mem_of_getElem? (i := 99) rfl)) (by decide) (rmLe l Z a0 hw u9 sb cs s2 ht66 O69 S_cs hcs Es2 Sv2 Sc2 Sy2) 0 (by decide) (by decide) et73 Es2 (hsz rfl) [] [] pd_8 rfl rfl rfl (Nat.le_of_eq rfl) (hb hby at_202) (by decide) (by decide) (fun Tt76 vt76 Lt76 Xt76 qt76 => ?_)
    obtain ⟨rfl, N77, et76⟩ := qt76
    have N78 := Fr.app N75 N77
    show Goes p e below _ (Tt76.setTop (mkF m 205 #[.val (.long p0), .second, .val (.int p1), .val (.int p2), .val (.int (1 : Int32)), .val (.int c0), .val (.int c1), .val (.int c2), .val (.ref s1), .val (.int ln.toInt32), .val (.int co.toInt32), .val (.ref ob60), .val (.ref s2), .val (.int d1.toInt32), .val (.int d2.toInt32), .unset] [(.int sb.length.toInt32)]))
    refine gIload Xt76 hx (hb hby at_205) rfl ?_
    refine gIconst Xt76 hx (hb hby at_207) (v := (2 : Int32)) rfl ?_
    refine gIadd Xt76 hx (hb hby at_208) ?_
    show Goes p e below _ (Tt76.setTop (mkF m 209 #[.val (.long p0), .second, .val (.int p1), .val (.int p2), .val (.int (1 : Int32)), .val (.int c0), .val (.int c1), .val (.int c2), .val (.ref s1), .val (.int ln.toInt32), .val (.int co.toInt32), .val (.ref ob60), .val (.ref s2), .val (.int d1.toInt32), .val (.int d2.toInt32), .unset] [(.int (3 : Nat).toInt32), (.int sb.length.toInt32)]))
    refine gIload Xt76 hx (hb hby at_209) rfl ?_
    refine gIadd Xt76 hx (hb hby at_211) ?_
    show Goes p e below _ (Tt76.setTop (mkF m 212 #[.val (.long p0), .second, .val (.int p1), .val (.int p2), .val (.int (1 : Int32)), .val (.int c0), .val (.int c1), .val (.int c2), .val (.ref s1), .val (.int ln.toInt32), .val (.int co.toInt32), .val (.ref ob60), .val (.ref s2), .val (.int d1.toInt32), .val (.int d2.toInt32), .unset] [(.int ((3 : Nat).toInt32 + d1.toInt32)), (.int sb.length.toInt32)]))
    rw [own_addn (by omega)]
    show Goes p e below _ (Tt76.setTop (mkF m 212 #[.val (.long p0), .second, .val (.int p1), .val (.int p2), .val (.int (1 : Int32)), .val (.int c0), .val (.int c1), .val (.int c2), .val (.ref s1), .val (.int ln.toInt32), .val (.int co.toInt32), .val (.ref ob60), .val (.ref s2), .val (.int d1.toInt32), .val (.int d2.toInt32), .unset] [(.int (3 + d1).toInt32), (.int sb.length.toInt32)]))
    refine gIload Xt76 hx (hb hby at_212) rfl ?_
    refine gIadd Xt76 hx (hb hby at_214) ?_
    show Goes p e below _ (Tt76.setTop (mkF m 215 #[.val (.long p0), .second, .val (.int p1), .val (.int p2), .val (.int (1 : Int32)), .val (.int c0), .val (.int c1), .val (.int c2), .val (.ref s1), .val (.int ln.toInt32), .val (.int co.toInt32), .val (.ref ob60), .val (.ref s2), .val (.int d1.toInt32), .val (.int d2.toInt32), .unset] [(.int ((3 + d1).toInt32 + d2.toInt32)), (.int sb.length.toInt32)]))
    rw [own_addn (by omega)]
    show Goes p e below _ (Tt76.setTop (mkF m 215 #[.val (.long p0), .second, .val (.int p1), .val (.int p2), .val (.int (1 : Int32)), .val (.int c0), .val (.int c1), .val (.int c2), .val (.ref s1), .val (.int ln.toInt32), .val (.int co.toInt32), .val (.ref ob60), .val (.ref s2), .val (.int d1.toInt32), .val (.int d2.toInt32), .unset] [(.int (3 + d1 + d2).toInt32), (.int sb.length.toInt32)]))
    refine gIcmpY Xt76 hx (hb hby at_215) (pc' := 220) (XT.ii_eq_t (congrArg Nat.toInt32 hlen)) (by decide) (by decide) ?_
    show Goes p e below _ (Tt76.setTop (mkF m 220 #[.val (.long p0), .second, .val (.int p1), .val (.int p2), .val (.int (1 : Int32)), .val (.int c0), .val (.int c1), .val (.int c2), .val (.ref s1), .val (.int ln.toInt32), .val (.int co.toInt32), .val (.ref ob60), .val (.ref s2), .val (.int d1.toInt32), .val (.int d2.toInt32), .unset] []))
    refine gIload Xt76 hx (hb hby at_220) rfl ?_
    refine gIconst Xt76 hx (hb hby at_222) (v := (1 : Int32)) rfl ?_
    refine gIcmpN Xt76 hx (hb hby at_223) (XT.ii_lt_f (by decide)) ?_
    show Goes p e below _ (Tt76.setTop (mkF m 226 #[.val (.long p0), .second, .val (.int p1), .val (.int p2), .val (.int (1 : Int32)), .val (.int c0), .val (.int c1), .val (.int c2), .val (.ref s1), .val (.int ln.toInt32), .val (.int co.toInt32), .val (.ref ob60), .val (.ref s2), .val (.int d1.toInt32), .val (.int d2.toInt32), .unset] []))
    refine gAload Xt76 hx (hb hby at_226) rfl rfl ?_
    refine gIconst Xt76 hx (hb hby at_228) (v := (0 : Int32)) rfl ?_
    show Goes p e below _ (Tt76.setTop (mkF m 229 #[.val (.long p0), .second, .val (.int p1), .val (.int p2), .val (.int (1 : Int32)), .val (.int c0), .val (.int c1), .val (.int c2), .val (.ref s1), .val (.int ln.toInt32), .val (.int co.toInt32), .val (.ref ob60), .val (.ref s2), .val (.int d1.toInt32), .val (.int d2.toInt32), .unset] [(.int (0 : Nat).toInt32), (.ref s2)]))
    refine goCallV Xt76 hx hZ hown (hw _ (List.mem_of_getElem? (i := 200) rfl)) (hw _ (List.mem_of_getElem? (i := 201) rfl)) (hw _ (List.mem_of_getElem? (i := 203) rfl)) (hw _ (List.mem_of_getElem? (i := 202) rfl)) (hw _ (List.mem_of_getElem? (i := 4) rfl)) (hw _ (List.mem_of_getElem? (i := 204) rfl)) (by decide) (rmCa l Z a0 hw fm u9 sb 0 c0.toInt8 cs s2 ht66 O69 S_cs hcs S_fm rf Es2 Sv2 Sc2 Sy2 hlb (hpre 0 _ rfl)) 0 (by decide) (by decide) et76 Es2 (hsz rfl) [(.int (0 : Nat).toInt32)] [] pd_28 rfl rfl rfl (Nat.le_of_eq rfl) (hb hby at_229) (by decide) (by decide) (fun Tt79 vt79 Lt79 Xt79 qt79 => ?_)
    obtain ⟨rfl, N80, et79⟩ := qt79
    have N81 := Fr.app N78 N80
    show Goes p e below _ (Tt79.setTop (mkF m 232 #[.val (.long p0), .second, .val (.int p1), .val (.int p2), .val (.int (1 : Int32)), .val (.int c0), .val (.int c1), .val (.int c2), .val (.ref s1), .val (.int ln.toInt32), .val (.int co.toInt32), .val (.ref ob60), .val (.ref s2), .val (.int d1.toInt32), .val (.int d2.toInt32), .unset] [(.int (own_chr c0.toInt8))]))
    show Goes p e below _ (Tt79.setTop (mkF m 232 #[.val (.long p0), .second, .val (.int p1), .val (.int p2), .val (.int (1 : Int32)), .val (.int c0), .val (.int c1), .val (.int c2), .val (.ref s1), .val (.int ln.toInt32), .val (.int co.toInt32), .val (.ref ob60), .val (.ref s2), .val (.int d1.toInt32), .val (.int d2.toInt32), .unset] [(.int (own_chr c0.toInt8))]))
    rw [own_lc qa0 qb0]
    show Goes p e below _ (Tt79.setTop (mkF m 232 #[.val (.long p0), .second, .val (.int p1), .val (.int p2), .val (.int (1 : Int32)), .val (.int c0), .val (.int c1), .val (.int c2), .val (.ref s1), .val (.int ln.toInt32), .val (.int co.toInt32), .val (.ref ob60), .val (.ref s2), .val (.int d1.toInt32), .val (.int d2.toInt32), .unset] [(.int c0)]))
    refine gIload Xt79 hx (hb hby at_232) rfl ?_
    refine gIcmpN Xt79 hx (hb hby at_234) (XT.ii_ne_f rfl) ?_
    show Goes p e below _ (Tt79.setTop (mkF m 237 #[.val (.long p0), .second, .val (.int p1), .val (.int p2), .val (.int (1 : Int32)), .val (.int c0), .val (.int c1), .val (.int c2), .val (.ref s1), .val (.int ln.toInt32), .val (.int co.toInt32), .val (.ref ob60), .val (.ref s2), .val (.int d1.toInt32), .val (.int d2.toInt32), .unset] []))
    refine gIload Xt79 hx (hb hby at_237) rfl ?_
    refine gIconst Xt79 hx (hb hby at_239) (v := (2 : Int32)) rfl ?_
    refine gIcmpY Xt79 hx (hb hby at_240) (pc' := 254) (XT.ii_lt_t (by decide)) (by decide) (by decide) ?_
    show Goes p e below _ (Tt79.setTop (mkF m 254 #[.val (.long p0), .second, .val (.int p1), .val (.int p2), .val (.int (1 : Int32)), .val (.int c0), .val (.int c1), .val (.int c2), .val (.ref s1), .val (.int ln.toInt32), .val (.int co.toInt32), .val (.ref ob60), .val (.ref s2), .val (.int d1.toInt32), .val (.int d2.toInt32), .unset] []))
    refine gIload Xt79 hx (hb hby at_254) rfl ?_
    refine gIconst Xt79 hx (hb hby at_256) (v := (3 : Int32)) rfl ?_
    refine gIcmpY Xt79 hx (hb hby at_257) (pc' := 271) (XT.ii_lt_t (by decide)) (by decide) (by decide) ?_
    show Goes p e below _ (Tt79.setTop (mkF m 271 #[.val (.long p0), .second, .val (.int p1), .val (.int p2), .val (.int (1 : Int32)), .val (.int c0), .val (.int c1), .val (.int c2), .val (.ref s1), .val (.int ln.toInt32), .val (.int co.toInt32), .val (.ref ob60), .val (.ref s2), .val (.int d1.toInt32), .val (.int d2.toInt32), .unset] []))
    refine gIconst Xt79 hx (hb hby at_271) (v := (1 : Int32)) rfl ?_
    refine gGoto Xt79 hx (hb hby at_272) (pc' := 276) (by decide) (by decide) ?_
    show Goes p e below _ (Tt79.setTop (mkF m 276 #[.val (.long p0), .second, .val (.int p1), .val (.int p2), .val (.int (1 : Int32)), .val (.int c0), .val (.int c1), .val (.int c2), .val (.ref s1), .val (.int ln.toInt32), .val (.int co.toInt32), .val (.ref ob60), .val (.ref s2), .val (.int d1.toInt32), .val (.int d2.toInt32), .unset] [(.int (1 : Int32))]))
    refine gIstore Xt79 hx (hb hby at_276) (l' := #[.val (.long p0), .second, .val (.int p1), .val (.int p2), .val (.int (1 : Int32)), .val (.int c0), .val (.int c1), .val (.int c2), .val (.ref s1), .val (.int ln.toInt32), .val (.int co.toInt32), .val (.ref ob60), .val (.ref s2), .val (.int d1.toInt32), .val (.int d2.toInt32), .val (.int (1 : Int32))]) rfl ?_
    refine gIload Xt79 hx (hb hby at_278) rfl ?_
    refine gIfN Xt79 hx (hb hby at_280) (XT.i0_eq_f (by decide)) ?_
    show Goes p e below _ (Tt79.setTop (mkF m 283 #[.val (.long p0), .second, .val (.int p1), .val (.int p2), .val (.int (1 : Int32)), .val (.int c0), .val (.int c1), .val (.int c2), .val (.ref s1), .val (.int ln.toInt32), .val (.int co.toInt32), .val (.ref ob60), .val (.ref s2), .val (.int d1.toInt32), .val (.int d2.toInt32), .val (.int (1 : Int32))] []))
    refine gAload Xt79 hx (hb hby at_283) rfl rfl ?_
    refine gIload Xt79 hx (hb hby at_285) rfl ?_
    show Goes p e below _ (Tt79.setTop (mkF m 287 #[.val (.long p0), .second, .val (.int p1), .val (.int p2), .val (.int (1 : Int32)), .val (.int c0), .val (.int c1), .val (.int c2), .val (.ref s1), .val (.int ln.toInt32), .val (.int co.toInt32), .val (.ref ob60), .val (.ref s2), .val (.int d1.toInt32), .val (.int d2.toInt32), .val (.int (1 : Int32))] [(.int (1 : Nat).toInt32), (.ref s2)]))
    refine goCallV Xt79 hx hZ hown (hw _ (List.mem_of_getElem? (i := 200) rfl)) (hw _ (List.mem_of_getElem? (i := 201) rfl)) (hw _ (List.mem_of_getElem? (i := 203) rfl)) (hw _ (List.mem_of_getElem? (i := 202) rfl)) (hw _ (List.mem_of_getElem? (i := 4) rfl)) (hw _ (List.mem_of_getElem? (i := 204) rfl)) (by decide) (rmCa l Z a0 hw fm u9 sb 1 (58 : Int8) cs s2 ht66 O69 S_cs hcs S_fm rf Es2 Sv2 Sc2 Sy2 hlb hk1) 0 (by decide) (by decide) et79 Es2 (hsz rfl) [(.int (1 : Nat).toInt32)] [] pd_28 rfl rfl rfl (Nat.le_of_eq rfl) (hb hby at_287) (by decide) (by decide) (fun Tt82 vt82 Lt82 Xt82 qt82 => ?_)
    obtain ⟨rfl, N83, et82⟩ := qt82
    have N84 := Fr.app N81 N83
    show Goes p e below _ (Tt82.setTop (mkF m 290 #[.val (.long p0), .second, .val (.int p1), .val (.int p2), .val (.int (1 : Int32)), .val (.int c0), .val (.int c1), .val (.int c2), .val (.ref s1), .val (.int ln.toInt32), .val (.int co.toInt32), .val (.ref ob60), .val (.ref s2), .val (.int d1.toInt32), .val (.int d2.toInt32), .val (.int (1 : Int32))] [(.int (own_chr (58 : Int8)))]))
    refine gBipush Xt82 hx (hb hby at_290) (v := (58 : Int32)) rfl ?_
    refine gIcmpN Xt82 hx (hb hby at_292) (XT.ii_ne_f (by decide)) ?_
    show Goes p e below _ (Tt82.setTop (mkF m 295 #[.val (.long p0), .second, .val (.int p1), .val (.int p2), .val (.int (1 : Int32)), .val (.int c0), .val (.int c1), .val (.int c2), .val (.ref s1), .val (.int ln.toInt32), .val (.int co.toInt32), .val (.ref ob60), .val (.ref s2), .val (.int d1.toInt32), .val (.int d2.toInt32), .val (.int (1 : Int32))] []))
    refine gAload Xt82 hx (hb hby at_295) rfl rfl ?_
    refine gIload Xt82 hx (hb hby at_297) rfl ?_
    refine gIconst Xt82 hx (hb hby at_299) (v := (1 : Int32)) rfl ?_
    refine gIadd Xt82 hx (hb hby at_300) ?_
    show Goes p e below _ (Tt82.setTop (mkF m 301 #[.val (.long p0), .second, .val (.int p1), .val (.int p2), .val (.int (1 : Int32)), .val (.int c0), .val (.int c1), .val (.int c2), .val (.ref s1), .val (.int ln.toInt32), .val (.int co.toInt32), .val (.ref ob60), .val (.ref s2), .val (.int d1.toInt32), .val (.int d2.toInt32), .val (.int (1 : Int32))] [(.int (2 : Nat).toInt32), (.ref s2)]))
    refine gIload Xt82 hx (hb hby at_301) rfl ?_
    refine gIload Xt82 hx (hb hby at_303) rfl ?_
    refine goCallS Xt82 hx hZ hown (hw _ (List.mem_of_getElem? (i := 222) rfl)) (hw _ (List.mem_of_getElem? (i := 223) rfl)) (hw _ (List.mem_of_getElem? (i := 197) rfl)) (hw _ (List.mem_of_getElem? (i := 224) rfl)) (by decide) (rmNu l Z a0 hw fm s2 u9 sb ln d1 2 cs ht66 O69 S_cs hcs S_fm rf Es2 Sv2 Sc2 Sy2 hlb hl2 h110 (by omega) hdA) 0 (by decide) (by decide) et82 (hsz rfl) [(.ref s2), (.int (2 : Nat).toInt32), (.int ln.toInt32), (.int d1.toInt32)] [] pd_37 rfl rfl rfl (Nat.le_of_eq rfl) (hb hby at_305) (by decide) (by decide) (fun Tt85 vt85 Lt85 Xt85 qt85 => ?_)
    obtain ⟨rfl, N86, et85⟩ := qt85
    have N87 := Fr.app N84 N86
    show Goes p e below _ (Tt85.setTop (mkF m 308 #[.val (.long p0), .second, .val (.int p1), .val (.int p2), .val (.int (1 : Int32)), .val (.int c0), .val (.int c1), .val (.int c2), .val (.ref s1), .val (.int ln.toInt32), .val (.int co.toInt32), .val (.ref ob60), .val (.ref s2), .val (.int d1.toInt32), .val (.int d2.toInt32), .val (.int (1 : Int32))] [(.int (1 : Int32))]))
    refine gIfN Xt85 hx (hb hby at_308) (XT.i0_eq_f (by decide)) ?_
    show Goes p e below _ (Tt85.setTop (mkF m 311 #[.val (.long p0), .second, .val (.int p1), .val (.int p2), .val (.int (1 : Int32)), .val (.int c0), .val (.int c1), .val (.int c2), .val (.ref s1), .val (.int ln.toInt32), .val (.int co.toInt32), .val (.ref ob60), .val (.ref s2), .val (.int d1.toInt32), .val (.int d2.toInt32), .val (.int (1 : Int32))] []))
    refine gAload Xt85 hx (hb hby at_311) rfl rfl ?_
    refine gIload Xt85 hx (hb hby at_313) rfl ?_
    refine gIconst Xt85 hx (hb hby at_315) (v := (1 : Int32)) rfl ?_
    refine gIadd Xt85 hx (hb hby at_316) ?_
    show Goes p e below _ (Tt85.setTop (mkF m 317 #[.val (.long p0), .second, .val (.int p1), .val (.int p2), .val (.int (1 : Int32)), .val (.int c0), .val (.int c1), .val (.int c2), .val (.ref s1), .val (.int ln.toInt32), .val (.int co.toInt32), .val (.ref ob60), .val (.ref s2), .val (.int d1.toInt32), .val (.int d2.toInt32), .val (.int (1 : Int32))] [(.int (2 : Nat).toInt32), (.ref s2)]))
    refine gIload Xt85 hx (hb hby at_317) rfl ?_
    refine gIadd Xt85 hx (hb hby at_319) ?_
    show Goes p e below _ (Tt85.setTop (mkF m 320 #[.val (.long p0), .second, .val (.int p1), .val (.int p2), .val (.int (1 : Int32)), .val (.int c0), .val (.int c1), .val (.int c2), .val (.ref s1), .val (.int ln.toInt32), .val (.int co.toInt32), .val (.ref ob60), .val (.ref s2), .val (.int d1.toInt32), .val (.int d2.toInt32), .val (.int (1 : Int32))] [(.int ((2 : Nat).toInt32 + d1.toInt32)), (.ref s2)]))
    rw [own_addn (by omega)]
    show Goes p e below _ (Tt85.setTop (mkF m 320 #[.val (.long p0), .second, .val (.int p1), .val (.int p2), .val (.int (1 : Int32)), .val (.int c0), .val (.int c1), .val (.int c2), .val (.ref s1), .val (.int ln.toInt32), .val (.int co.toInt32), .val (.ref ob60), .val (.ref s2), .val (.int d1.toInt32), .val (.int d2.toInt32), .val (.int (1 : Int32))] [(.int (2 + d1).toInt32), (.ref s2)]))
    refine goCallV Xt85 hx hZ hown (hw _ (List.mem_of_getElem? (i := 200) rfl)) (hw _ (List.mem_of_getElem? (i := 201) rfl)) (hw _ (List.mem_of_getElem? (i := 203) rfl)) (hw _ (List.mem_of_getElem? (i := 202) rfl)) (hw _ (List.mem_of_getElem? (i := 4) rfl)) (hw _ (List.mem_of_getElem? (i := 204) rfl)) (by decide) (rmCa l Z a0 hw fm u9 sb (2 + d1) (58 : Int8) cs s2 ht66 O69 S_cs hcs S_fm rf Es2 Sv2 Sc2 Sy2 hlb hk2) 0 (by decide) (by decide) et85 Es2 (hsz rfl) [(.int (2 + d1).toInt32)] [] pd_28 rfl rfl rfl (Nat.le_of_eq rfl) (hb hby at_320) (by decide) (by decide) (fun Tt88 vt88 Lt88 Xt88 qt88 => ?_)
    obtain ⟨rfl, N89, et88⟩ := qt88
    have N90 := Fr.app N87 N89
    show Goes p e below _ (Tt88.setTop (mkF m 323 #[.val (.long p0), .second, .val (.int p1), .val (.int p2), .val (.int (1 : Int32)), .val (.int c0), .val (.int c1), .val (.int c2), .val (.ref s1), .val (.int ln.toInt32), .val (.int co.toInt32), .val (.ref ob60), .val (.ref s2), .val (.int d1.toInt32), .val (.int d2.toInt32), .val (.int (1 : Int32))] [(.int (own_chr (58 : Int8)))]))
    refine gBipush Xt88 hx (hb hby at_323) (v := (58 : Int32)) rfl ?_
    refine gIcmpN Xt88 hx (hb hby at_325) (XT.ii_ne_f (by decide)) ?_
    show Goes p e below _ (Tt88.setTop (mkF m 328 #[.val (.long p0), .second, .val (.int p1), .val (.int p2), .val (.int (1 : Int32)), .val (.int c0), .val (.int c1), .val (.int c2), .val (.ref s1), .val (.int ln.toInt32), .val (.int co.toInt32), .val (.ref ob60), .val (.ref s2), .val (.int d1.toInt32), .val (.int d2.toInt32), .val (.int (1 : Int32))] []))
    refine gAload Xt88 hx (hb hby at_328) rfl rfl ?_
    refine gIload Xt88 hx (hb hby at_330) rfl ?_
    refine gIconst Xt88 hx (hb hby at_332) (v := (2 : Int32)) rfl ?_
    refine gIadd Xt88 hx (hb hby at_333) ?_
    show Goes p e below _ (Tt88.setTop (mkF m 334 #[.val (.long p0), .second, .val (.int p1), .val (.int p2), .val (.int (1 : Int32)), .val (.int c0), .val (.int c1), .val (.int c2), .val (.ref s1), .val (.int ln.toInt32), .val (.int co.toInt32), .val (.ref ob60), .val (.ref s2), .val (.int d1.toInt32), .val (.int d2.toInt32), .val (.int (1 : Int32))] [(.int (3 : Nat).toInt32), (.ref s2)]))
    refine gIload Xt88 hx (hb hby at_334) rfl ?_
    refine gIadd Xt88 hx (hb hby at_336) ?_
    show Goes p e below _ (Tt88.setTop (mkF m 337 #[.val (.long p0), .second, .val (.int p1), .val (.int p2), .val (.int (1 : Int32)), .val (.int c0), .val (.int c1), .val (.int c2), .val (.ref s1), .val (.int ln.toInt32), .val (.int co.toInt32), .val (.ref ob60), .val (.ref s2), .val (.int d1.toInt32), .val (.int d2.toInt32), .val (.int (1 : Int32))] [(.int ((3 : Nat).toInt32 + d1.toInt32)), (.ref s2)]))
    rw [own_addn (by omega)]
    show Goes p e below _ (Tt88.setTop (mkF m 337 #[.val (.long p0), .second, .val (.int p1), .val (.int p2), .val (.int (1 : Int32)), .val (.int c0), .val (.int c1), .val (.int c2), .val (.ref s1), .val (.int ln.toInt32), .val (.int co.toInt32), .val (.ref ob60), .val (.ref s2), .val (.int d1.toInt32), .val (.int d2.toInt32), .val (.int (1 : Int32))] [(.int (3 + d1).toInt32), (.ref s2)]))
    refine gIload Xt88 hx (hb hby at_337) rfl ?_
    refine gIload Xt88 hx (hb hby at_339) rfl ?_
    refine goCallS Xt88 hx hZ hown (hw _ (List.mem_of_getElem? (i := 222) rfl)) (hw _ (List.mem_of_getElem? (i := 223) rfl)) (hw _ (List.mem_of_getElem? (i := 197) rfl)) (hw _ (List.mem_of_getElem? (i := 224) rfl)) (by decide) (rmNu l Z a0 hw fm s2 u9 sb co d2 (3 + d1) cs ht66 O69 S_cs hcs S_fm rf Es2 Sv2 Sc2 Sy2 hlb hc2 h210 (by omega) hdB) 0 (by decide) (by decide) et88 (hsz rfl) [(.ref s2), (.int (3 + d1).toInt32), (.int co.toInt32), (.int d2.toInt32)] [] pd_37 rfl rfl rfl (Nat.le_of_eq rfl) (hb hby at_341) (by decide) (by decide) (fun Tt91 vt91 Lt91 Xt91 qt91 => ?_)
    obtain ⟨rfl, N92, et91⟩ := qt91
    have N93 := Fr.app N90 N92
    show Goes p e below _ (Tt91.setTop (mkF m 344 #[.val (.long p0), .second, .val (.int p1), .val (.int p2), .val (.int (1 : Int32)), .val (.int c0), .val (.int c1), .val (.int c2), .val (.ref s1), .val (.int ln.toInt32), .val (.int co.toInt32), .val (.ref ob60), .val (.ref s2), .val (.int d1.toInt32), .val (.int d2.toInt32), .val (.int (1 : Int32))] [(.int (1 : Int32))]))
    refine gIfN Xt91 hx (hb hby at_344) (XT.i0_eq_f (by decide)) ?_
    show Goes p e below _ (Tt91.setTop (mkF m 347 #[.val (.long p0), .second, .val (.int p1), .val (.int p2), .val (.int (1 : Int32)), .val (.int c0), .val (.int c1), .val (.int c2), .val (.ref s1), .val (.int ln.toInt32), .val (.int co.toInt32), .val (.ref ob60), .val (.ref s2), .val (.int d1.toInt32), .val (.int d2.toInt32), .val (.int (1 : Int32))] []))
    refine gIconst Xt91 hx (hb hby at_347) (v := (1 : Int32)) rfl ?_
    refine gGoto Xt91 hx (hb hby at_348) (pc' := 352) (by decide) (by decide) ?_
    show Goes p e below _ (Tt91.setTop (mkF m 352 #[.val (.long p0), .second, .val (.int p1), .val (.int p2), .val (.int (1 : Int32)), .val (.int c0), .val (.int c1), .val (.int c2), .val (.ref s1), .val (.int ln.toInt32), .val (.int co.toInt32), .val (.ref ob60), .val (.ref s2), .val (.int d1.toInt32), .val (.int d2.toInt32), .val (.int (1 : Int32))] [(.int (1 : Int32))]))
    exact goRetNW Xt91 hx hS (t := .boolean) hret hlocks (by simp) (hb hby at_352) (z' := (1 : Int32)) rfl (by decide) (by decide) et91 (⟨rfl, N93⟩)
  · rw [hl]
    show Goes p e below _ (s₁.setTop (mkF m 43 #[.val (.long p0), .second, .val (.int p1), .val (.int p2), .val (.int (2 : Int32)), .val (.int c0), .val (.int c1), .val (.int c2), .unset, .unset, .unset, .unset, .unset, .unset, .unset, .unset] []))
    refine gIload X0 hx (hb hby at_43) rfl ?_
    refine gIfY X0 hx (hb hby at_45) (pc' := 63) (XT.i0_ne_t (by decide)) (by decide) (by decide) ?_
    show Goes p e below _ (s₁.setTop (mkF m 63 #[.val (.long p0), .second, .val (.int p1), .val (.int p2), .val (.int (2 : Int32)), .val (.int c0), .val (.int c1), .val (.int c2), .unset, .unset, .unset, .unset, .unset, .unset, .unset, .unset] []))
    refine gIload X0 hx (hb hby at_63) rfl ?_
    refine gIconst X0 hx (hb hby at_65) (v := (1 : Int32)) rfl ?_
    refine gIcmpY X0 hx (hb hby at_66) (pc' := 79) (XT.ii_ne_t (by decide)) (by decide) (by decide) ?_
    show Goes p e below _ (s₁.setTop (mkF m 79 #[.val (.long p0), .second, .val (.int p1), .val (.int p2), .val (.int (2 : Int32)), .val (.int c0), .val (.int c1), .val (.int c2), .unset, .unset, .unset, .unset, .unset, .unset, .unset, .unset] []))
    refine gIload X0 hx (hb hby at_79) rfl ?_
    refine gIconst X0 hx (hb hby at_81) (v := (2 : Int32)) rfl ?_
    refine gIcmpN X0 hx (hb hby at_82) (XT.ii_ne_f rfl) ?_
    show Goes p e below _ (s₁.setTop (mkF m 85 #[.val (.long p0), .second, .val (.int p1), .val (.int p2), .val (.int (2 : Int32)), .val (.int c0), .val (.int c1), .val (.int c2), .unset, .unset, .unset, .unset, .unset, .unset, .unset, .unset] []))
    obtain ⟨Tt94, ht94, Xt94, et94, Et94, At94, Dt94, -, stt94⟩ := newO X0 hx hZ hown (hw _ (List.mem_of_getElem? (i := 2) rfl)) (hw _ (List.mem_of_getElem? (i := 3) rfl)) (hw _ (List.mem_of_getElem? (i := 4) rfl)) e0 (g := (mkF m 85 #[.val (.long p0), .second, .val (.int p1), .val (.int p2), .val (.int (2 : Int32)), .val (.int c0), .val (.int c1), .val (.int c2), .unset, .unset, .unset, .unset, .unset, .unset, .unset, .unset] [])) rfl (hb hby at_85) (by decide) (by decide)
    obtain ⟨ob95, gob95⟩ : ∃ z, z = h0.size := ⟨_, rfl⟩
    rw [← gob95] at At94 Dt94 stt94
    refine go stt94 ?_
    have ne_o1_ob95 : o1 ≠ ob95 := Nat.ne_of_lt (gob95 ▸ Yo.lt)
    have ne_o2_ob95 : o2 ≠ ob95 := Nat.ne_of_lt (gob95 ▸ Yt.lt)
    have fr_ob95 : Z.heap.size ≤ ob95 := gob95 ▸ O0.1
    replace Yo := Yo.ext Et94
    replace Yt := Yt.ext Et94
    have O96 : Ext Z.heap ht94 := extT O0 Et94
    replace hS := hS.ext Et94
    have F_coder_ob95 : Fld Z ht94 ob95 "java/lang/String" "coder" "B" (.int (0 : Int32)) := Dt94 (Or.inr (hw _ (List.mem_of_getElem? (i := 29) rfl))) (ty := .byte) (by decide)
    have F_value_ob95 : Fld Z ht94 ob95 "java/lang/String" "value" "[B" .null := Dt94 (Or.inr (hw _ (List.mem_of_getElem? (i := 31) rfl))) (ty := (.array .byte)) (by decide)
    show Goes p e below _ (Tt94.setTop (mkF m 88 #[.val (.long p0), .second, .val (.int p1), .val (.int p2), .val (.int (2 : Int32)), .val (.int c0), .val (.int c1), .val (.int c2), .unset, .unset, .unset, .unset, .unset, .unset, .unset, .unset] [(.ref ob95)]))
    refine gDup Xt94 hx (hb hby at_88) rfl ?_
    refine gIconst Xt94 hx (hb hby at_89) (v := (2 : Int32)) rfl ?_
    obtain ⟨Tt97, ht97, kt97, Xt97, et97, Et97, At97, stt97⟩ := newP Xt94 hx hZ (hw _ (List.mem_of_getElem? (i := 5) rfl)) et94 (g := (mkF m 90 #[.val (.long p0), .second, .val (.int p1), .val (.int p2), .val (.int (2 : Int32)), .val (.int c0), .val (.int c1), .val (.int c2), .unset, .unset, .unset, .unset, .unset, .unset, .unset, .unset] [(.int (2 : Int32)), (.ref ob95), (.ref ob95)])) rfl (hb hby at_90) rfl (by decide) (cap := 2) (by decide) (by decide) (by decide) (by decide)
    obtain ⟨ob98, gob98⟩ : ∃ z, z = ht94.size := ⟨_, rfl⟩
    rw [← gob98] at At97 stt97
    refine go stt97 ?_
    have ne_o1_ob98 : o1 ≠ ob98 := Nat.ne_of_lt (gob98 ▸ Yo.lt)
    have ne_o2_ob98 : o2 ≠ ob98 := Nat.ne_of_lt (gob98 ▸ Yt.lt)
    have ne_ob95_ob98 : ob95 ≠ ob98 := Nat.ne_of_lt (gob98 ▸ At94.lt)
    have fr_ob98 : Z.heap.size ≤ ob98 := gob98 ▸ O96.1
    replace Yo := Yo.ext Et97
    replace Yt := Yt.ext Et97
    replace At94 := At94.ext Et97
    replace F_coder_ob95 := F_coder_ob95.ext Et97
    replace F_value_ob95 := F_value_ob95.ext Et97
    have O99 : Ext Z.heap ht97 := extT O96 Et97
    replace hS := hS.ext Et97
    have Y_ob98 : Ary Z ht97 ob98 .char [(.int (0 : Int32)), (.int (0 : Int32))] := Ary.new At97 rfl (by decide)
    show Goes p e below _ (Tt97.setTop (mkF m 92 #[.val (.long p0), .second, .val (.int p1), .val (.int p2), .val (.int (2 : Int32)), .val (.int c0), .val (.int c1), .val (.int c2), .unset, .unset, .unset, .unset, .unset, .unset, .unset, .unset] [(.ref ob98), (.ref ob95), (.ref ob95)]))
    refine gDup Xt97 hx (hb hby at_92) rfl ?_
    refine gIconst Xt97 hx (hb hby at_93) (v := (0 : Int32)) rfl ?_
    refine gIload Xt97 hx (hb hby at_94) rfl ?_
    refine goCastore Xt97 hx hZ et97 Y_ob98 (hb hby at_96) (by decide) rfl (fun Tt100 ht100 Xt100 et100 Wt100 => ?_)
    have N101 := Fr.snoc Xt100 N0 fr_ob98
    replace Y_ob98 : Ary Z ht100 ob98 .char [(.int c0), (.int (0 : Int32))] := Y_ob98.set Wt100 (by rw [nc0]; rfl)
    replace Yo := Yo.other Wt100 ne_o1_ob98
    replace Yt := Yt.other Wt100 ne_o2_ob98
    replace At94 := At94.wr Wt100
    replace F_coder_ob95 := F_coder_ob95.other Wt100 (Or.inl ne_ob95_ob98)
    replace F_value_ob95 := F_value_ob95.other Wt100 (Or.inl ne_ob95_ob98)
    have O102 : Ext Z.heap ht100 := extW O99 Wt100 fr_ob98
    replace hS := hS.wr Wt100
    show Goes p e below _ (Tt100.setTop (mkF m 97 #[.val (.long p0), .second, .val (.int p1), .val (.int p2), .val (.int (2 : Int32)), .val (.int c0), .val (.int c1), .val (.int c2), .unset, .unset, .unset, .unset, .unset, .unset, .unset, .unset] [(.ref ob98), (.ref ob95), (.ref ob95)]))
    refine gDup Xt100 hx (hb hby at_97) rfl ?_
    refine gIconst Xt100 hx (hb hby at_98) (v := (1 : Int32)) rfl ?_
    refine gIload Xt100 hx (hb hby at_99) rfl ?_
    refine goCastore Xt100 hx hZ et100 Y_ob98 (hb hby at_101) (by decide) rfl (fun Tt103 ht103 Xt103 et103 Wt103 => ?_)
    have N104 := Fr.snoc Xt103 N101 fr_ob98
    replace Y_ob98 : Ary Z ht103 ob98 .char [(.int c0), (.int c1)] := Y_ob98.set Wt103 (by rw [nc1]; rfl)
    replace Yo := Yo.other Wt103 ne_o1_ob98
    replace Yt := Yt.other Wt103 ne_o2_ob98
    replace At94 := At94.wr Wt103
    replace F_coder_ob95 := F_coder_ob95.other Wt103 (Or.inl ne_ob95_ob98)
    replace F_value_ob95 := F_value_ob95.other Wt103 (Or.inl ne_ob95_ob98)
    have O105 : Ext Z.heap ht103 := extW O102 Wt103 fr_ob98
    replace hS := hS.wr Wt103
    show Goes p e below _ (Tt103.setTop (mkF m 102 #[.val (.long p0), .second, .val (.int p1), .val (.int p2), .val (.int (2 : Int32)), .val (.int c0), .val (.int c1), .val (.int c2), .unset, .unset, .unset, .unset, .unset, .unset, .unset, .unset] [(.ref ob98), (.ref ob95), (.ref ob95)]))
    refine goCallI Xt103 hx hZ rfl hown (hw _ (List.mem_of_getElem? (i := 6) rfl)) (hw _ (List.mem_of_getElem? (i := 7) rfl)) (hw _ (List.mem_of_getElem? (i := 4) rfl)) (hw _ (List.mem_of_getElem? (i := 8) rfl)) (by decide) (rmS2 l Z a0 hw cs c0 c1 ob95 ob98 ht103 O105 S_cs hcs At94 F_value_ob95 F_coder_ob95 Y_ob98 ne_ob95_ob98 fr_ob95 qb0 qb1) 1 (by decide) (by decide) et103 (hsz rfl) ob95 [(.ref ob98)] [(.ref ob95)] pd_35 rfl rfl rfl (Nat.le_of_eq rfl) (hb hby at_102) (by decide) (by decide) (fun Tt106 vt106 Lt106 Xt106 qt106 => ?_)
    obtain ⟨ht106, et106⟩ : ∃ z, Tt106.heap = z := ⟨_, rfl⟩
    rw [et106] at qt106
    obtain ⟨rfl, N107, Kct106, us, pus, Sv1, Sc1, Sy0⟩ := qt106
    have N108 := Fr.app N104 N107
    replace Yo := Yo.keep Kct106 (ninS ne_o1_ob95 nin0)
    replace Yt := Yt.keep Kct106 (ninS ne_o2_ob95 nin0)
    replace At94 := At94.keep Kct106
    replace Y_ob98 := Y_ob98.keep Kct106 (ninS (Ne.symm ne_ob95_ob98) nin0)
    have O109 : Ext Z.heap ht106 := extK O105 Kct106 (allS fr_ob95 all0)
    replace hS := hS.keep Kct106
    show Goes p e below _ (Tt106.setTop (mkF m 105 #[.val (.long p0), .second, .val (.int p1), .val (.int p2), .val (.int (2 : Int32)), .val (.int c0), .val (.int c1), .val (.int c2), .unset, .unset, .unset, .unset, .unset, .unset, .unset, .unset] [(.ref ob95)]))
    have Sy1 : Ary Z ht106 us .byte (own_bv [c0.toInt8, c1.toInt8]) := Sy0
    refine gAstore Xt106 hx (hb hby at_105) rfl (l' := #[.val (.long p0), .second, .val (.int p1), .val (.int p2), .val (.int (2 : Int32)), .val (.int c0), .val (.int c1), .val (.int c2), .val (.ref ob95), .unset, .unset, .unset, .unset, .unset, .unset, .unset]) rfl ?_
    refine gGoto Xt106 hx (hb hby at_107) (pc' := 137) (by decide) (by decide) ?_
    show Goes p e below _ (Tt106.setTop (mkF m 137 #[.val (.long p0), .second, .val (.int p1), .val (.int p2), .val (.int (2 : Int32)), .val (.int c0), .val (.int c1), .val (.int c2), .val (.ref ob95), .unset, .unset, .unset, .unset, .unset, .unset, .unset] []))
    refine gIconst Xt106 hx (hb hby at_137) (v := (1 : Int32)) rfl ?_
    refine gIloadN Xt106 hx (hb hby at_138) rfl ?_
    refine gLdcI Xt106 hx hZ hown (hw _ (List.mem_of_getElem? (i := 32) rfl)) (hb hby at_139) ?_
    refine gIand Xt106 hx (hb hby at_141) ?_
    obtain ⟨ln, hl1, hl2, hl3⟩ := own_line p1
    refine goCallS Xt106 hx hZ hown (hw _ (List.mem_of_getElem? (i := 33) rfl)) (hw _ (List.mem_of_getElem? (i := 34) rfl)) (hw _ (List.mem_of_getElem? (i := 35) rfl)) (hw _ (List.mem_of_getElem? (i := 36) rfl)) (by decide) (rmMx l Z a0 hw ln.toInt32 (1 : Int32) (p1 &&& (2147483647 : Int32)) ht106 O109 hl3) 0 (by decide) (by decide) et106 (hsz rfl) [(.int (1 : Int32)), (.int (p1 &&& (2147483647 : Int32)))] [] pd_1 rfl rfl rfl (Nat.le_of_eq rfl) (hb hby at_142) (by decide) (by decide) (fun Tt110 vt110 Lt110 Xt110 qt110 => ?_)
    obtain ⟨rfl, N111, et110⟩ := qt110
    have N112 := Fr.app N108 N111
    show Goes p e below _ (Tt110.setTop (mkF m 145 #[.val (.long p0), .second, .val (.int p1), .val (.int p2), .val (.int (2 : Int32)), .val (.int c0), .val (.int c1), .val (.int c2), .val (.ref ob95), .unset, .unset, .unset, .unset, .unset, .unset, .unset] [(.int ln.toInt32)]))
    refine gIstore Xt110 hx (hb hby at_145) (l' := #[.val (.long p0), .second, .val (.int p1), .val (.int p2), .val (.int (2 : Int32)), .val (.int c0), .val (.int c1), .val (.int c2), .val (.ref ob95), .val (.int ln.toInt32), .unset, .unset, .unset, .unset, .unset, .unset]) rfl ?_
    refine gIconst Xt110 hx (hb hby at_147) (v := (1 : Int32)) rfl ?_
    refine gIloadN Xt110 hx (hb hby at_148) rfl ?_
    refine gLdcI Xt110 hx hZ hown (hw _ (List.mem_of_getElem? (i := 32) rfl)) (hb hby at_149) ?_
    refine gIand Xt110 hx (hb hby at_151) ?_
    obtain ⟨co, hc1, hc2, hc3⟩ := own_line p2
    refine goCallS Xt110 hx hZ hown (hw _ (List.mem_of_getElem? (i := 33) rfl)) (hw _ (List.mem_of_getElem? (i := 34) rfl)) (hw _ (List.mem_of_getElem? (i := 35) rfl)) (hw _ (List.mem_of_getElem? (i := 36) rfl)) (by decide) (rmMx l Z a0 hw co.toInt32 (1 : Int32) (p2 &&& (2147483647 : Int32)) ht106 O109 hc3) 0 (by decide) (by decide) et110 (hsz rfl) [(.int (1 : Int32)), (.int (p2 &&& (2147483647 : Int32)))] [] pd_1 rfl rfl rfl (Nat.le_of_eq rfl) (hb hby at_152) (by decide) (by decide) (fun Tt113 vt113 Lt113 Xt113 qt113 => ?_)
    obtain ⟨rfl, N114, et113⟩ := qt113
    have N115 := Fr.app N112 N114
    show Goes p e below _ (Tt113.setTop (mkF m 155 #[.val (.long p0), .second, .val (.int p1), .val (.int p2), .val (.int (2 : Int32)), .val (.int c0), .val (.int c1), .val (.int c2), .val (.ref ob95), .val (.int ln.toInt32), .unset, .unset, .unset, .unset, .unset, .unset] [(.int co.toInt32)]))
    refine gIstore Xt113 hx (hb hby at_155) (l' := #[.val (.long p0), .second, .val (.int p1), .val (.int p2), .val (.int (2 : Int32)), .val (.int c0), .val (.int c1), .val (.int c2), .val (.ref ob95), .val (.int ln.toInt32), .val (.int co.toInt32), .unset, .unset, .unset, .unset, .unset]) rfl ?_
    obtain ⟨Tt116, ht116, Xt116, et116, Et116, At116, Dt116, -, stt116⟩ := newO Xt113 hx hZ hown (hw _ (List.mem_of_getElem? (i := 37) rfl)) (hw _ (List.mem_of_getElem? (i := 38) rfl)) (hw _ (List.mem_of_getElem? (i := 39) rfl)) et113 (g := (mkF m 157 #[.val (.long p0), .second, .val (.int p1), .val (.int p2), .val (.int (2 : Int32)), .val (.int c0), .val (.int c1), .val (.int c2), .val (.ref ob95), .val (.int ln.toInt32), .val (.int co.toInt32), .unset, .unset, .unset, .unset, .unset] [])) rfl (hb hby at_157) (by decide) (by decide)
    obtain ⟨ob117, gob117⟩ : ∃ z, z = ht106.size := ⟨_, rfl⟩
    rw [← gob117] at At116 Dt116 stt116
    refine go stt116 ?_
    have ne_o1_ob117 : o1 ≠ ob117 := Nat.ne_of_lt (gob117 ▸ Yo.lt)
    have ne_o2_ob117 : o2 ≠ ob117 := Nat.ne_of_lt (gob117 ▸ Yt.lt)
    have ne_ob95_ob117 : ob95 ≠ ob117 := Nat.ne_of_lt (gob117 ▸ At94.lt)
    have ne_us_ob117 : us ≠ ob117 := Nat.ne_of_lt (gob117 ▸ Sy1.lt)
    have fr_ob117 : Z.heap.size ≤ ob117 := gob117 ▸ O109.1
    replace Yo := Yo.ext Et116
    replace Yt := Yt.ext Et116
    replace At94 := At94.ext Et116
    replace Sv1 := Sv1.ext Et116
    replace Sc1 := Sc1.ext Et116
    replace Sy1 := Sy1.ext Et116
    have O118 : Ext Z.heap ht116 := extT O109 Et116
    replace hS := hS.ext Et116
    have F_source_ob117 : Fld Z ht116 ob117 "com/example/phal/phal/model/SourcePosition" "source" "Ljava/lang/String;" .null := Dt116 (Or.inr (hw _ (List.mem_of_getElem? (i := 57) rfl))) (ty := (.object "java/lang/String")) (by decide)
    have F_line_ob117 : Fld Z ht116 ob117 "com/example/phal/phal/model/SourcePosition" "line" "I" (.int (0 : Int32)) := Dt116 (Or.inr (hw _ (List.mem_of_getElem? (i := 59) rfl))) (ty := .int) (by decide)
    have F_column_ob117 : Fld Z ht116 ob117 "com/example/phal/phal/model/SourcePosition" "column" "I" (.int (0 : Int32)) := Dt116 (Or.inr (hw _ (List.mem_of_getElem? (i := 61) rfl))) (ty := .int) (by decide)
    show Goes p e below _ (Tt116.setTop (mkF m 160 #[.val (.long p0), .second, .val (.int p1), .val (.int p2), .val (.int (2 : Int32)), .val (.int c0), .val (.int c1), .val (.int c2), .val (.ref ob95), .val (.int ln.toInt32), .val (.int co.toInt32), .unset, .unset, .unset, .unset, .unset] [(.ref ob117)]))
    refine gDup Xt116 hx (hb hby at_160) rfl ?_
    refine gAload Xt116 hx (hb hby at_161) rfl rfl ?_
    refine gIload Xt116 hx (hb hby at_163) rfl ?_
    refine gIload Xt116 hx (hb hby at_165) rfl ?_
    refine goCallIW Xt116 hx hZ hS rfl hown (hw _ (List.mem_of_getElem? (i := 40) rfl)) (hw _ (List.mem_of_getElem? (i := 41) rfl)) (hw _ (List.mem_of_getElem? (i := 39) rfl)) (hw _ (List.mem_of_getElem? (i := 42) rfl)) (by decide) (rmPi l Z a0 hw [] ln co ob117 ob95 ht116 O118 hh7 hcw (by simp) At116 F_source_ob117 F_line_ob117 F_column_ob117 fr_ob117 hl1 hl2 hc1 hc2) (fun _ w_ => IB.warm hPv w_) 1 (by decide) (by decide) et116 (hsz rfl) ob117 [(.ref ob95), (.int ln.toInt32), (.int co.toInt32)] [(.ref ob117)] pd_36 rfl rfl rfl (Nat.le_of_eq rfl) (hb hby at_167) (by decide) (by decide) (fun Tt119 vt119 Lt119 Xt119 hZ hown hS wm_t119 qt119 => ?_)
    obtain ⟨ht119, et119⟩ : ∃ z, Tt119.heap = z := ⟨_, rfl⟩
    rw [et119] at qt119 hS
    obtain ⟨rfl, N120, Kct119, P1, P2, P3, Ib2⟩ := qt119
    have N121 := Fr.app N115 N120
    replace Yo := Yo.keep Kct119 (ninS ne_o1_ob117 nin0)
    replace Yt := Yt.keep Kct119 (ninS ne_o2_ob117 nin0)
    replace At94 := At94.keep Kct119
    replace Sv1 := Sv1.keep Kct119 (ninS ne_ob95_ob117 nin0)
    replace Sc1 := Sc1.keep Kct119 (ninS ne_ob95_ob117 nin0)
    replace Sy1 := Sy1.keep Kct119 (ninS ne_us_ob117 nin0)
    replace At116 := At116.keep Kct119
    have O122 : Ext Z.heap ht119 := extK O118 Kct119 (allS fr_ob117 all0)
    show Goes p e below _ (Tt119.setTop (mkF m 170 #[.val (.long p0), .second, .val (.int p1), .val (.int p2), .val (.int (2 : Int32)), .val (.int c0), .val (.int c1), .val (.int c2), .val (.ref ob95), .val (.int ln.toInt32), .val (.int co.toInt32), .unset, .unset, .unset, .unset, .unset] [(.ref ob117)]))
    refine gAstore Xt119 hx (hb hby at_170) rfl (l' := #[.val (.long p0), .second, .val (.int p1), .val (.int p2), .val (.int (2 : Int32)), .val (.int c0), .val (.int c1), .val (.int c2), .val (.ref ob95), .val (.int ln.toInt32), .val (.int co.toInt32), .val (.ref ob117), .unset, .unset, .unset, .unset]) rfl ?_
    refine gAload Xt119 hx (hb hby at_172) rfl rfl ?_
    refine goCallVW Xt119 hx hZ hS hown (hw _ (List.mem_of_getElem? (i := 62) rfl)) (hw _ (List.mem_of_getElem? (i := 63) rfl)) (hw _ (List.mem_of_getElem? (i := 65) rfl)) (hw _ (List.mem_of_getElem? (i := 64) rfl)) (hw _ (List.mem_of_getElem? (i := 39) rfl)) (hw _ (List.mem_of_getElem? (i := 66) rfl)) (by decide) (rmPt l Z a0 hw ("source" :: []) ln co ob95 us o1 o2 [c0.toInt8, c1.toInt8] cs ob117 ht119 O122 S_cs hcs S_o S_t Yo Yt lo1 lo2 hh29 hcw (by simp) At116 P1 P2 P3 At94 Sv1 Sc1 Sy1 hl1 hl2 hc1 hc2 (by simp)) (fun _ w_ => IB.warm Ib2 w_) 0 (by decide) (by decide) et119 At116 (hsz rfl) [] [] pd_34 rfl rfl rfl (Nat.le_of_eq rfl) (hb hby at_174) (by decide) (by decide) (fun Tt123 vt123 Lt123 Xt123 hZ hown hS wm_t123 qt123 => ?_)
    obtain ⟨ht123, et123⟩ : ∃ z, Tt123.heap = z := ⟨_, rfl⟩
    rw [et123] at qt123 hS
    obtain ⟨s2, rfl, N124, Kct123, Es2, u9, d1, d2, h110, hD1, h210, hD2, Sv2, Sc2, Sy9⟩ := qt123
    have N125 := Fr.app N121 N124
    replace Yo := Yo.keep Kct123 nin0
    replace Yt := Yt.keep Kct123 nin0
    replace At94 := At94.keep Kct123
    replace Sv1 := Sv1.keep Kct123 nin0
    replace Sc1 := Sc1.keep Kct123 nin0
    replace Sy1 := Sy1.keep Kct123 nin0
    replace At116 := At116.keep Kct123
    replace P1 := P1.keep Kct123 nin0
    replace P2 := P2.keep Kct123 nin0
    replace P3 := P3.keep Kct123 nin0
    have O126 : Ext Z.heap ht123 := extK O122 Kct123 all0
    show Goes p e below _ (Tt123.setTop (mkF m 177 #[.val (.long p0), .second, .val (.int p1), .val (.int p2), .val (.int (2 : Int32)), .val (.int c0), .val (.int c1), .val (.int c2), .val (.ref ob95), .val (.int ln.toInt32), .val (.int co.toInt32), .val (.ref ob117), .unset, .unset, .unset, .unset] [(.ref s2)]))
    obtain ⟨sb, hsb, hlen, hpre, hk1, hdA, hk2, hdB⟩ := own_txt [c0.toInt8, c1.toInt8] 2 d1 d2 ln co rfl
    have Sy2 : Ary Z ht123 u9 .byte (own_bv sb) := by rw [hsb]; exact Sy9
    clear Sy9 hsb
    have hlb : sb.length < 1000 := by omega
    refine gAstore Xt123 hx (hb hby at_177) rfl (l' := #[.val (.long p0), .second, .val (.int p1), .val (.int p2), .val (.int (2 : Int32)), .val (.int c0), .val (.int c1), .val (.int c2), .val (.ref ob95), .val (.int ln.toInt32), .val (.int co.toInt32), .val (.ref ob117), .val (.ref s2), .unset, .unset, .unset]) rfl ?_
    refine gAload Xt123 hx (hb hby at_179) rfl rfl ?_
    refine gNonnullY Xt123 hx (hb hby at_181) (pc' := 186) (by decide) (by decide) ?_
    show Goes p e below _ (Tt123.setTop (mkF m 186 #[.val (.long p0), .second, .val (.int p1), .val (.int p2), .val (.int (2 : Int32)), .val (.int c0), .val (.int c1), .val (.int c2), .val (.ref ob95), .val (.int ln.toInt32), .val (.int co.toInt32), .val (.ref ob117), .val (.ref s2), .unset, .unset, .unset] []))
    refine gIload Xt123 hx (hb hby at_186) rfl ?_
    refine goCallS Xt123 hx hZ hown (hw _ (List.mem_of_getElem? (i := 195) rfl)) (hw _ (List.mem_of_getElem? (i := 196) rfl)) (hw _ (List.mem_of_getElem? (i := 197) rfl)) (hw _ (List.mem_of_getElem? (i := 198) rfl)) (by decide) (rmDi l Z a0 hw ln ht123 O126 hl1 hl2) 0 (by decide) (by decide) et123 (hsz rfl) [(.int ln.toInt32)] [] pd_3 rfl rfl rfl (Nat.le_of_eq rfl) (hb hby at_188) (by decide) (by decide) (fun Tt127 vt127 Lt127 Xt127 qt127 => ?_)
    obtain ⟨ed1, rfl, N128, et127, ed110, ed1D⟩ := qt127
    have N129 := Fr.app N125 N128
    show Goes p e below _ (Tt127.setTop (mkF m 191 #[.val (.long p0), .second, .val (.int p1), .val (.int p2), .val (.int (2 : Int32)), .val (.int c0), .val (.int c1), .val (.int c2), .val (.ref ob95), .val (.int ln.toInt32), .val (.int co.toInt32), .val (.ref ob117), .val (.ref s2), .unset, .unset, .unset] [(.int ed1.toInt32)]))
    show Goes p e below _ (Tt127.setTop (mkF m 191 #[.val (.long p0), .second, .val (.int p1), .val (.int p2), .val (.int (2 : Int32)), .val (.int c0), .val (.int c1), .val (.int c2), .val (.ref ob95), .val (.int ln.toInt32), .val (.int co.toInt32), .val (.ref ob117), .val (.ref s2), .unset, .unset, .unset] [(.int ed1.toInt32)]))
    rw [own_Duniq ed1D hD1]
    show Goes p e below _ (Tt127.setTop (mkF m 191 #[.val (.long p0), .second, .val (.int p1), .val (.int p2), .val (.int (2 : Int32)), .val (.int c0), .val (.int c1), .val (.int c2), .val (.ref ob95), .val (.int ln.toInt32), .val (.int co.toInt32), .val (.ref ob117), .val (.ref s2), .unset, .unset, .unset] [(.int d1.toInt32)]))
    refine gIstore Xt127 hx (hb hby at_191) (l' := #[.val (.long p0), .second, .val (.int p1), .val (.int p2), .val (.int (2 : Int32)), .val (.int c0), .val (.int c1), .val (.int c2), .val (.ref ob95), .val (.int ln.toInt32), .val (.int co.toInt32), .val (.ref ob117), .val (.ref s2), .val (.int d1.toInt32), .unset, .unset]) rfl ?_
    refine gIload Xt127 hx (hb hby at_193) rfl ?_
    refine goCallS Xt127 hx hZ hown (hw _ (List.mem_of_getElem? (i := 195) rfl)) (hw _ (List.mem_of_getElem? (i := 196) rfl)) (hw _ (List.mem_of_getElem? (i := 197) rfl)) (hw _ (List.mem_of_getElem? (i := 198) rfl)) (by decide) (rmDi l Z a0 hw co ht123 O126 hc1 hc2) 0 (by decide) (by decide) et127 (hsz rfl) [(.int co.toInt32)] [] pd_3 rfl rfl rfl (Nat.le_of_eq rfl) (hb hby at_195) (by decide) (by decide) (fun Tt130 vt130 Lt130 Xt130 qt130 => ?_)
    obtain ⟨ed2, rfl, N131, et130, ed210, ed2D⟩ := qt130
    have N132 := Fr.app N129 N131
    show Goes p e below _ (Tt130.setTop (mkF m 198 #[.val (.long p0), .second, .val (.int p1), .val (.int p2), .val (.int (2 : Int32)), .val (.int c0), .val (.int c1), .val (.int c2), .val (.ref ob95), .val (.int ln.toInt32), .val (.int co.toInt32), .val (.ref ob117), .val (.ref s2), .val (.int d1.toInt32), .unset, .unset] [(.int ed2.toInt32)]))
    show Goes p e below _ (Tt130.setTop (mkF m 198 #[.val (.long p0), .second, .val (.int p1), .val (.int p2), .val (.int (2 : Int32)), .val (.int c0), .val (.int c1), .val (.int c2), .val (.ref ob95), .val (.int ln.toInt32), .val (.int co.toInt32), .val (.ref ob117), .val (.ref s2), .val (.int d1.toInt32), .unset, .unset] [(.int ed2.toInt32)]))
    rw [own_Duniq ed2D hD2]
    show Goes p e below _ (Tt130.setTop (mkF m 198 #[.val (.long p0), .second, .val (.int p1), .val (.int p2), .val (.int (2 : Int32)), .val (.int c0), .val (.int c1), .val (.int c2), .val (.ref ob95), .val (.int ln.toInt32), .val (.int co.toInt32), .val (.ref ob117), .val (.ref s2), .val (.int d1.toInt32), .unset, .unset] [(.int d2.toInt32)]))
    refine gIstore Xt130 hx (hb hby at_198) (l' := #[.val (.long p0), .second, .val (.int p1), .val (.int p2), .val (.int (2 : Int32)), .val (.int c0), .val (.int c1), .val (.int c2), .val (.ref ob95), .val (.int ln.toInt32), .val (.int co.toInt32), .val (.ref ob117), .val (.ref s2), .val (.int d1.toInt32), .val (.int d2.toInt32), .unset]) rfl ?_
    refine gAload Xt130 hx (hb hby at_200) rfl rfl ?_
    refine goCallV Xt130 hx hZ hown (hw _ (List.mem_of_getElem? (i := 199) rfl)) (hw _ (List.mem_of_getElem? (i := 96) rfl)) (hw _ (List.mem_of_getElem? (i := 98) rfl)) (hw _ (List.mem_of_getElem? (i := 97) rfl)) (hw _ (List.mem_of_getElem? (i := 4) rfl)) (hw _ (List.mem_of_getElem? (i := 99) rfl)) (by decide) (rmLe l Z a0 hw u9 sb cs s2 ht123 O126 S_cs hcs Es2 Sv2 Sc2 Sy2) 0 (by decide) (by decide) et130 Es2 (hsz rfl) [] [] pd_8 rfl rfl rfl (Nat.le_of_eq rfl) (hb hby at_202) (by decide) (by decide) (fun Tt133 vt133 Lt133 Xt133 qt133 => ?_)
    obtain ⟨rfl, N134, et133⟩ := qt133
    have N135 := Fr.app N132 N134
    show Goes p e below _ (Tt133.setTop (mkF m 205 #[.val (.long p0), .second, .val (.int p1), .val (.int p2), .val (.int (2 : Int32)), .val (.int c0), .val (.int c1), .val (.int c2), .val (.ref ob95), .val (.int ln.toInt32), .val (.int co.toInt32), .val (.ref ob117), .val (.ref s2), .val (.int d1.toInt32), .val (.int d2.toInt32), .unset] [(.int sb.length.toInt32)]))
    refine gIload Xt133 hx (hb hby at_205) rfl ?_
    refine gIconst Xt133 hx (hb hby at_207) (v := (2 : Int32)) rfl ?_
    refine gIadd Xt133 hx (hb hby at_208) ?_
    show Goes p e below _ (Tt133.setTop (mkF m 209 #[.val (.long p0), .second, .val (.int p1), .val (.int p2), .val (.int (2 : Int32)), .val (.int c0), .val (.int c1), .val (.int c2), .val (.ref ob95), .val (.int ln.toInt32), .val (.int co.toInt32), .val (.ref ob117), .val (.ref s2), .val (.int d1.toInt32), .val (.int d2.toInt32), .unset] [(.int (4 : Nat).toInt32), (.int sb.length.toInt32)]))
    refine gIload Xt133 hx (hb hby at_209) rfl ?_
    refine gIadd Xt133 hx (hb hby at_211) ?_
    show Goes p e below _ (Tt133.setTop (mkF m 212 #[.val (.long p0), .second, .val (.int p1), .val (.int p2), .val (.int (2 : Int32)), .val (.int c0), .val (.int c1), .val (.int c2), .val (.ref ob95), .val (.int ln.toInt32), .val (.int co.toInt32), .val (.ref ob117), .val (.ref s2), .val (.int d1.toInt32), .val (.int d2.toInt32), .unset] [(.int ((4 : Nat).toInt32 + d1.toInt32)), (.int sb.length.toInt32)]))
    rw [own_addn (by omega)]
    show Goes p e below _ (Tt133.setTop (mkF m 212 #[.val (.long p0), .second, .val (.int p1), .val (.int p2), .val (.int (2 : Int32)), .val (.int c0), .val (.int c1), .val (.int c2), .val (.ref ob95), .val (.int ln.toInt32), .val (.int co.toInt32), .val (.ref ob117), .val (.ref s2), .val (.int d1.toInt32), .val (.int d2.toInt32), .unset] [(.int (4 + d1).toInt32), (.int sb.length.toInt32)]))
    refine gIload Xt133 hx (hb hby at_212) rfl ?_
    refine gIadd Xt133 hx (hb hby at_214) ?_
    show Goes p e below _ (Tt133.setTop (mkF m 215 #[.val (.long p0), .second, .val (.int p1), .val (.int p2), .val (.int (2 : Int32)), .val (.int c0), .val (.int c1), .val (.int c2), .val (.ref ob95), .val (.int ln.toInt32), .val (.int co.toInt32), .val (.ref ob117), .val (.ref s2), .val (.int d1.toInt32), .val (.int d2.toInt32), .unset] [(.int ((4 + d1).toInt32 + d2.toInt32)), (.int sb.length.toInt32)]))
    rw [own_addn (by omega)]
    show Goes p e below _ (Tt133.setTop (mkF m 215 #[.val (.long p0), .second, .val (.int p1), .val (.int p2), .val (.int (2 : Int32)), .val (.int c0), .val (.int c1), .val (.int c2), .val (.ref ob95), .val (.int ln.toInt32), .val (.int co.toInt32), .val (.ref ob117), .val (.ref s2), .val (.int d1.toInt32), .val (.int d2.toInt32), .unset] [(.int (4 + d1 + d2).toInt32), (.int sb.length.toInt32)]))
    refine gIcmpY Xt133 hx (hb hby at_215) (pc' := 220) (XT.ii_eq_t (congrArg Nat.toInt32 hlen)) (by decide) (by decide) ?_
    show Goes p e below _ (Tt133.setTop (mkF m 220 #[.val (.long p0), .second, .val (.int p1), .val (.int p2), .val (.int (2 : Int32)), .val (.int c0), .val (.int c1), .val (.int c2), .val (.ref ob95), .val (.int ln.toInt32), .val (.int co.toInt32), .val (.ref ob117), .val (.ref s2), .val (.int d1.toInt32), .val (.int d2.toInt32), .unset] []))
    refine gIload Xt133 hx (hb hby at_220) rfl ?_
    refine gIconst Xt133 hx (hb hby at_222) (v := (1 : Int32)) rfl ?_
    refine gIcmpN Xt133 hx (hb hby at_223) (XT.ii_lt_f (by decide)) ?_
    show Goes p e below _ (Tt133.setTop (mkF m 226 #[.val (.long p0), .second, .val (.int p1), .val (.int p2), .val (.int (2 : Int32)), .val (.int c0), .val (.int c1), .val (.int c2), .val (.ref ob95), .val (.int ln.toInt32), .val (.int co.toInt32), .val (.ref ob117), .val (.ref s2), .val (.int d1.toInt32), .val (.int d2.toInt32), .unset] []))
    refine gAload Xt133 hx (hb hby at_226) rfl rfl ?_
    refine gIconst Xt133 hx (hb hby at_228) (v := (0 : Int32)) rfl ?_
    show Goes p e below _ (Tt133.setTop (mkF m 229 #[.val (.long p0), .second, .val (.int p1), .val (.int p2), .val (.int (2 : Int32)), .val (.int c0), .val (.int c1), .val (.int c2), .val (.ref ob95), .val (.int ln.toInt32), .val (.int co.toInt32), .val (.ref ob117), .val (.ref s2), .val (.int d1.toInt32), .val (.int d2.toInt32), .unset] [(.int (0 : Nat).toInt32), (.ref s2)]))
    refine goCallV Xt133 hx hZ hown (hw _ (List.mem_of_getElem? (i := 200) rfl)) (hw _ (List.mem_of_getElem? (i := 201) rfl)) (hw _ (List.mem_of_getElem? (i := 203) rfl)) (hw _ (List.mem_of_getElem? (i := 202) rfl)) (hw _ (List.mem_of_getElem? (i := 4) rfl)) (hw _ (List.mem_of_getElem? (i := 204) rfl)) (by decide) (rmCa l Z a0 hw fm u9 sb 0 c0.toInt8 cs s2 ht123 O126 S_cs hcs S_fm rf Es2 Sv2 Sc2 Sy2 hlb (hpre 0 _ rfl)) 0 (by decide) (by decide) et133 Es2 (hsz rfl) [(.int (0 : Nat).toInt32)] [] pd_28 rfl rfl rfl (Nat.le_of_eq rfl) (hb hby at_229) (by decide) (by decide) (fun Tt136 vt136 Lt136 Xt136 qt136 => ?_)
    obtain ⟨rfl, N137, et136⟩ := qt136
    have N138 := Fr.app N135 N137
    show Goes p e below _ (Tt136.setTop (mkF m 232 #[.val (.long p0), .second, .val (.int p1), .val (.int p2), .val (.int (2 : Int32)), .val (.int c0), .val (.int c1), .val (.int c2), .val (.ref ob95), .val (.int ln.toInt32), .val (.int co.toInt32), .val (.ref ob117), .val (.ref s2), .val (.int d1.toInt32), .val (.int d2.toInt32), .unset] [(.int (own_chr c0.toInt8))]))
    show Goes p e below _ (Tt136.setTop (mkF m 232 #[.val (.long p0), .second, .val (.int p1), .val (.int p2), .val (.int (2 : Int32)), .val (.int c0), .val (.int c1), .val (.int c2), .val (.ref ob95), .val (.int ln.toInt32), .val (.int co.toInt32), .val (.ref ob117), .val (.ref s2), .val (.int d1.toInt32), .val (.int d2.toInt32), .unset] [(.int (own_chr c0.toInt8))]))
    rw [own_lc qa0 qb0]
    show Goes p e below _ (Tt136.setTop (mkF m 232 #[.val (.long p0), .second, .val (.int p1), .val (.int p2), .val (.int (2 : Int32)), .val (.int c0), .val (.int c1), .val (.int c2), .val (.ref ob95), .val (.int ln.toInt32), .val (.int co.toInt32), .val (.ref ob117), .val (.ref s2), .val (.int d1.toInt32), .val (.int d2.toInt32), .unset] [(.int c0)]))
    refine gIload Xt136 hx (hb hby at_232) rfl ?_
    refine gIcmpN Xt136 hx (hb hby at_234) (XT.ii_ne_f rfl) ?_
    show Goes p e below _ (Tt136.setTop (mkF m 237 #[.val (.long p0), .second, .val (.int p1), .val (.int p2), .val (.int (2 : Int32)), .val (.int c0), .val (.int c1), .val (.int c2), .val (.ref ob95), .val (.int ln.toInt32), .val (.int co.toInt32), .val (.ref ob117), .val (.ref s2), .val (.int d1.toInt32), .val (.int d2.toInt32), .unset] []))
    refine gIload Xt136 hx (hb hby at_237) rfl ?_
    refine gIconst Xt136 hx (hb hby at_239) (v := (2 : Int32)) rfl ?_
    refine gIcmpN Xt136 hx (hb hby at_240) (XT.ii_lt_f (by decide)) ?_
    show Goes p e below _ (Tt136.setTop (mkF m 243 #[.val (.long p0), .second, .val (.int p1), .val (.int p2), .val (.int (2 : Int32)), .val (.int c0), .val (.int c1), .val (.int c2), .val (.ref ob95), .val (.int ln.toInt32), .val (.int co.toInt32), .val (.ref ob117), .val (.ref s2), .val (.int d1.toInt32), .val (.int d2.toInt32), .unset] []))
    refine gAload Xt136 hx (hb hby at_243) rfl rfl ?_
    refine gIconst Xt136 hx (hb hby at_245) (v := (1 : Int32)) rfl ?_
    show Goes p e below _ (Tt136.setTop (mkF m 246 #[.val (.long p0), .second, .val (.int p1), .val (.int p2), .val (.int (2 : Int32)), .val (.int c0), .val (.int c1), .val (.int c2), .val (.ref ob95), .val (.int ln.toInt32), .val (.int co.toInt32), .val (.ref ob117), .val (.ref s2), .val (.int d1.toInt32), .val (.int d2.toInt32), .unset] [(.int (1 : Nat).toInt32), (.ref s2)]))
    refine goCallV Xt136 hx hZ hown (hw _ (List.mem_of_getElem? (i := 200) rfl)) (hw _ (List.mem_of_getElem? (i := 201) rfl)) (hw _ (List.mem_of_getElem? (i := 203) rfl)) (hw _ (List.mem_of_getElem? (i := 202) rfl)) (hw _ (List.mem_of_getElem? (i := 4) rfl)) (hw _ (List.mem_of_getElem? (i := 204) rfl)) (by decide) (rmCa l Z a0 hw fm u9 sb 1 c1.toInt8 cs s2 ht123 O126 S_cs hcs S_fm rf Es2 Sv2 Sc2 Sy2 hlb (hpre 1 _ rfl)) 0 (by decide) (by decide) et136 Es2 (hsz rfl) [(.int (1 : Nat).toInt32)] [] pd_28 rfl rfl rfl (Nat.le_of_eq rfl) (hb hby at_246) (by decide) (by decide) (fun Tt139 vt139 Lt139 Xt139 qt139 => ?_)
    obtain ⟨rfl, N140, et139⟩ := qt139
    have N141 := Fr.app N138 N140
    show Goes p e below _ (Tt139.setTop (mkF m 249 #[.val (.long p0), .second, .val (.int p1), .val (.int p2), .val (.int (2 : Int32)), .val (.int c0), .val (.int c1), .val (.int c2), .val (.ref ob95), .val (.int ln.toInt32), .val (.int co.toInt32), .val (.ref ob117), .val (.ref s2), .val (.int d1.toInt32), .val (.int d2.toInt32), .unset] [(.int (own_chr c1.toInt8))]))
    show Goes p e below _ (Tt139.setTop (mkF m 249 #[.val (.long p0), .second, .val (.int p1), .val (.int p2), .val (.int (2 : Int32)), .val (.int c0), .val (.int c1), .val (.int c2), .val (.ref ob95), .val (.int ln.toInt32), .val (.int co.toInt32), .val (.ref ob117), .val (.ref s2), .val (.int d1.toInt32), .val (.int d2.toInt32), .unset] [(.int (own_chr c1.toInt8))]))
    rw [own_lc qa1 qb1]
    show Goes p e below _ (Tt139.setTop (mkF m 249 #[.val (.long p0), .second, .val (.int p1), .val (.int p2), .val (.int (2 : Int32)), .val (.int c0), .val (.int c1), .val (.int c2), .val (.ref ob95), .val (.int ln.toInt32), .val (.int co.toInt32), .val (.ref ob117), .val (.ref s2), .val (.int d1.toInt32), .val (.int d2.toInt32), .unset] [(.int c1)]))
    refine gIload Xt139 hx (hb hby at_249) rfl ?_
    refine gIcmpN Xt139 hx (hb hby at_251) (XT.ii_ne_f rfl) ?_
    show Goes p e below _ (Tt139.setTop (mkF m 254 #[.val (.long p0), .second, .val (.int p1), .val (.int p2), .val (.int (2 : Int32)), .val (.int c0), .val (.int c1), .val (.int c2), .val (.ref ob95), .val (.int ln.toInt32), .val (.int co.toInt32), .val (.ref ob117), .val (.ref s2), .val (.int d1.toInt32), .val (.int d2.toInt32), .unset] []))
    refine gIload Xt139 hx (hb hby at_254) rfl ?_
    refine gIconst Xt139 hx (hb hby at_256) (v := (3 : Int32)) rfl ?_
    refine gIcmpY Xt139 hx (hb hby at_257) (pc' := 271) (XT.ii_lt_t (by decide)) (by decide) (by decide) ?_
    show Goes p e below _ (Tt139.setTop (mkF m 271 #[.val (.long p0), .second, .val (.int p1), .val (.int p2), .val (.int (2 : Int32)), .val (.int c0), .val (.int c1), .val (.int c2), .val (.ref ob95), .val (.int ln.toInt32), .val (.int co.toInt32), .val (.ref ob117), .val (.ref s2), .val (.int d1.toInt32), .val (.int d2.toInt32), .unset] []))
    refine gIconst Xt139 hx (hb hby at_271) (v := (1 : Int32)) rfl ?_
    refine gGoto Xt139 hx (hb hby at_272) (pc' := 276) (by decide) (by decide) ?_
    show Goes p e below _ (Tt139.setTop (mkF m 276 #[.val (.long p0), .second, .val (.int p1), .val (.int p2), .val (.int (2 : Int32)), .val (.int c0), .val (.int c1), .val (.int c2), .val (.ref ob95), .val (.int ln.toInt32), .val (.int co.toInt32), .val (.ref ob117), .val (.ref s2), .val (.int d1.toInt32), .val (.int d2.toInt32), .unset] [(.int (1 : Int32))]))
    refine gIstore Xt139 hx (hb hby at_276) (l' := #[.val (.long p0), .second, .val (.int p1), .val (.int p2), .val (.int (2 : Int32)), .val (.int c0), .val (.int c1), .val (.int c2), .val (.ref ob95), .val (.int ln.toInt32), .val (.int co.toInt32), .val (.ref ob117), .val (.ref s2), .val (.int d1.toInt32), .val (.int d2.toInt32), .val (.int (1 : Int32))]) rfl ?_
    refine gIload Xt139 hx (hb hby at_278) rfl ?_
    refine gIfN Xt139 hx (hb hby at_280) (XT.i0_eq_f (by decide)) ?_
    show Goes p e below _ (Tt139.setTop (mkF m 283 #[.val (.long p0), .second, .val (.int p1), .val (.int p2), .val (.int (2 : Int32)), .val (.int c0), .val (.int c1), .val (.int c2), .val (.ref ob95), .val (.int ln.toInt32), .val (.int co.toInt32), .val (.ref ob117), .val (.ref s2), .val (.int d1.toInt32), .val (.int d2.toInt32), .val (.int (1 : Int32))] []))
    refine gAload Xt139 hx (hb hby at_283) rfl rfl ?_
    refine gIload Xt139 hx (hb hby at_285) rfl ?_
    show Goes p e below _ (Tt139.setTop (mkF m 287 #[.val (.long p0), .second, .val (.int p1), .val (.int p2), .val (.int (2 : Int32)), .val (.int c0), .val (.int c1), .val (.int c2), .val (.ref ob95), .val (.int ln.toInt32), .val (.int co.toInt32), .val (.ref ob117), .val (.ref s2), .val (.int d1.toInt32), .val (.int d2.toInt32), .val (.int (1 : Int32))] [(.int (2 : Nat).toInt32), (.ref s2)]))
    refine goCallV Xt139 hx hZ hown (hw _ (List.mem_of_getElem? (i := 200) rfl)) (hw _ (List.mem_of_getElem? (i := 201) rfl)) (hw _ (List.mem_of_getElem? (i := 203) rfl)) (hw _ (List.mem_of_getElem? (i := 202) rfl)) (hw _ (List.mem_of_getElem? (i := 4) rfl)) (hw _ (List.mem_of_getElem? (i := 204) rfl)) (by decide) (rmCa l Z a0 hw fm u9 sb 2 (58 : Int8) cs s2 ht123 O126 S_cs hcs S_fm rf Es2 Sv2 Sc2 Sy2 hlb hk1) 0 (by decide) (by decide) et139 Es2 (hsz rfl) [(.int (2 : Nat).toInt32)] [] pd_28 rfl rfl rfl (Nat.le_of_eq rfl) (hb hby at_287) (by decide) (by decide) (fun Tt142 vt142 Lt142 Xt142 qt142 => ?_)
    obtain ⟨rfl, N143, et142⟩ := qt142
    have N144 := Fr.app N141 N143
    show Goes p e below _ (Tt142.setTop (mkF m 290 #[.val (.long p0), .second, .val (.int p1), .val (.int p2), .val (.int (2 : Int32)), .val (.int c0), .val (.int c1), .val (.int c2), .val (.ref ob95), .val (.int ln.toInt32), .val (.int co.toInt32), .val (.ref ob117), .val (.ref s2), .val (.int d1.toInt32), .val (.int d2.toInt32), .val (.int (1 : Int32))] [(.int (own_chr (58 : Int8)))]))
    refine gBipush Xt142 hx (hb hby at_290) (v := (58 : Int32)) rfl ?_
    refine gIcmpN Xt142 hx (hb hby at_292) (XT.ii_ne_f (by decide)) ?_
    show Goes p e below _ (Tt142.setTop (mkF m 295 #[.val (.long p0), .second, .val (.int p1), .val (.int p2), .val (.int (2 : Int32)), .val (.int c0), .val (.int c1), .val (.int c2), .val (.ref ob95), .val (.int ln.toInt32), .val (.int co.toInt32), .val (.ref ob117), .val (.ref s2), .val (.int d1.toInt32), .val (.int d2.toInt32), .val (.int (1 : Int32))] []))
    refine gAload Xt142 hx (hb hby at_295) rfl rfl ?_
    refine gIload Xt142 hx (hb hby at_297) rfl ?_
    refine gIconst Xt142 hx (hb hby at_299) (v := (1 : Int32)) rfl ?_
    refine gIadd Xt142 hx (hb hby at_300) ?_
    show Goes p e below _ (Tt142.setTop (mkF m 301 #[.val (.long p0), .second, .val (.int p1), .val (.int p2), .val (.int (2 : Int32)), .val (.int c0), .val (.int c1), .val (.int c2), .val (.ref ob95), .val (.int ln.toInt32), .val (.int co.toInt32), .val (.ref ob117), .val (.ref s2), .val (.int d1.toInt32), .val (.int d2.toInt32), .val (.int (1 : Int32))] [(.int (3 : Nat).toInt32), (.ref s2)]))
    refine gIload Xt142 hx (hb hby at_301) rfl ?_
    refine gIload Xt142 hx (hb hby at_303) rfl ?_
    refine goCallS Xt142 hx hZ hown (hw _ (List.mem_of_getElem? (i := 222) rfl)) (hw _ (List.mem_of_getElem? (i := 223) rfl)) (hw _ (List.mem_of_getElem? (i := 197) rfl)) (hw _ (List.mem_of_getElem? (i := 224) rfl)) (by decide) (rmNu l Z a0 hw fm s2 u9 sb ln d1 3 cs ht123 O126 S_cs hcs S_fm rf Es2 Sv2 Sc2 Sy2 hlb hl2 h110 (by omega) hdA) 0 (by decide) (by decide) et142 (hsz rfl) [(.ref s2), (.int (3 : Nat).toInt32), (.int ln.toInt32), (.int d1.toInt32)] [] pd_37 rfl rfl rfl (Nat.le_of_eq rfl) (hb hby at_305) (by decide) (by decide) (fun Tt145 vt145 Lt145 Xt145 qt145 => ?_)
    obtain ⟨rfl, N146, et145⟩ := qt145
    have N147 := Fr.app N144 N146
    show Goes p e below _ (Tt145.setTop (mkF m 308 #[.val (.long p0), .second, .val (.int p1), .val (.int p2), .val (.int (2 : Int32)), .val (.int c0), .val (.int c1), .val (.int c2), .val (.ref ob95), .val (.int ln.toInt32), .val (.int co.toInt32), .val (.ref ob117), .val (.ref s2), .val (.int d1.toInt32), .val (.int d2.toInt32), .val (.int (1 : Int32))] [(.int (1 : Int32))]))
    refine gIfN Xt145 hx (hb hby at_308) (XT.i0_eq_f (by decide)) ?_
    show Goes p e below _ (Tt145.setTop (mkF m 311 #[.val (.long p0), .second, .val (.int p1), .val (.int p2), .val (.int (2 : Int32)), .val (.int c0), .val (.int c1), .val (.int c2), .val (.ref ob95), .val (.int ln.toInt32), .val (.int co.toInt32), .val (.ref ob117), .val (.ref s2), .val (.int d1.toInt32), .val (.int d2.toInt32), .val (.int (1 : Int32))] []))
    refine gAload Xt145 hx (hb hby at_311) rfl rfl ?_
    refine gIload Xt145 hx (hb hby at_313) rfl ?_
    refine gIconst Xt145 hx (hb hby at_315) (v := (1 : Int32)) rfl ?_
    refine gIadd Xt145 hx (hb hby at_316) ?_
    show Goes p e below _ (Tt145.setTop (mkF m 317 #[.val (.long p0), .second, .val (.int p1), .val (.int p2), .val (.int (2 : Int32)), .val (.int c0), .val (.int c1), .val (.int c2), .val (.ref ob95), .val (.int ln.toInt32), .val (.int co.toInt32), .val (.ref ob117), .val (.ref s2), .val (.int d1.toInt32), .val (.int d2.toInt32), .val (.int (1 : Int32))] [(.int (3 : Nat).toInt32), (.ref s2)]))
    refine gIload Xt145 hx (hb hby at_317) rfl ?_
    refine gIadd Xt145 hx (hb hby at_319) ?_
    show Goes p e below _ (Tt145.setTop (mkF m 320 #[.val (.long p0), .second, .val (.int p1), .val (.int p2), .val (.int (2 : Int32)), .val (.int c0), .val (.int c1), .val (.int c2), .val (.ref ob95), .val (.int ln.toInt32), .val (.int co.toInt32), .val (.ref ob117), .val (.ref s2), .val (.int d1.toInt32), .val (.int d2.toInt32), .val (.int (1 : Int32))] [(.int ((3 : Nat).toInt32 + d1.toInt32)), (.ref s2)]))
    rw [own_addn (by omega)]
    show Goes p e below _ (Tt145.setTop (mkF m 320 #[.val (.long p0), .second, .val (.int p1), .val (.int p2), .val (.int (2 : Int32)), .val (.int c0), .val (.int c1), .val (.int c2), .val (.ref ob95), .val (.int ln.toInt32), .val (.int co.toInt32), .val (.ref ob117), .val (.ref s2), .val (.int d1.toInt32), .val (.int d2.toInt32), .val (.int (1 : Int32))] [(.int (3 + d1).toInt32), (.ref s2)]))
    refine goCallV Xt145 hx hZ hown (hw _ (List.mem_of_getElem? (i := 200) rfl)) (hw _ (List.mem_of_getElem? (i := 201) rfl)) (hw _ (List.mem_of_getElem? (i := 203) rfl)) (hw _ (List.mem_of_getElem? (i := 202) rfl)) (hw _ (List.mem_of_getElem? (i := 4) rfl)) (hw _ (List.mem_of_getElem? (i := 204) rfl)) (by decide) (rmCa l Z a0 hw fm u9 sb (3 + d1) (58 : Int8) cs s2 ht123 O126 S_cs hcs S_fm rf Es2 Sv2 Sc2 Sy2 hlb hk2) 0 (by decide) (by decide) et145 Es2 (hsz rfl) [(.int (3 + d1).toInt32)] [] pd_28 rfl rfl rfl (Nat.le_of_eq rfl) (hb hby at_320) (by decide) (by decide) (fun Tt148 vt148 Lt148 Xt148 qt148 => ?_)
    obtain ⟨rfl, N149, et148⟩ := qt148
    have N150 := Fr.app N147 N149
    show Goes p e below _ (Tt148.setTop (mkF m 323 #[.val (.long p0), .second, .val (.int p1), .val (.int p2), .val (.int (2 : Int32)), .val (.int c0), .val (.int c1), .val (.int c2), .val (.ref ob95), .val (.int ln.toInt32), .val (.int co.toInt32), .val (.ref ob117), .val (.ref s2), .val (.int d1.toInt32), .val (.int d2.toInt32), .val (.int (1 : Int32))] [(.int (own_chr (58 : Int8)))]))
    refine gBipush Xt148 hx (hb hby at_323) (v := (58 : Int32)) rfl ?_
    refine gIcmpN Xt148 hx (hb hby at_325) (XT.ii_ne_f (by decide)) ?_
    show Goes p e below _ (Tt148.setTop (mkF m 328 #[.val (.long p0), .second, .val (.int p1), .val (.int p2), .val (.int (2 : Int32)), .val (.int c0), .val (.int c1), .val (.int c2), .val (.ref ob95), .val (.int ln.toInt32), .val (.int co.toInt32), .val (.ref ob117), .val (.ref s2), .val (.int d1.toInt32), .val (.int d2.toInt32), .val (.int (1 : Int32))] []))
    refine gAload Xt148 hx (hb hby at_328) rfl rfl ?_
    refine gIload Xt148 hx (hb hby at_330) rfl ?_
    refine gIconst Xt148 hx (hb hby at_332) (v := (2 : Int32)) rfl ?_
    refine gIadd Xt148 hx (hb hby at_333) ?_
    show Goes p e below _ (Tt148.setTop (mkF m 334 #[.val (.long p0), .second, .val (.int p1), .val (.int p2), .val (.int (2 : Int32)), .val (.int c0), .val (.int c1), .val (.int c2), .val (.ref ob95), .val (.int ln.toInt32), .val (.int co.toInt32), .val (.ref ob117), .val (.ref s2), .val (.int d1.toInt32), .val (.int d2.toInt32), .val (.int (1 : Int32))] [(.int (4 : Nat).toInt32), (.ref s2)]))
    refine gIload Xt148 hx (hb hby at_334) rfl ?_
    refine gIadd Xt148 hx (hb hby at_336) ?_
    show Goes p e below _ (Tt148.setTop (mkF m 337 #[.val (.long p0), .second, .val (.int p1), .val (.int p2), .val (.int (2 : Int32)), .val (.int c0), .val (.int c1), .val (.int c2), .val (.ref ob95), .val (.int ln.toInt32), .val (.int co.toInt32), .val (.ref ob117), .val (.ref s2), .val (.int d1.toInt32), .val (.int d2.toInt32), .val (.int (1 : Int32))] [(.int ((4 : Nat).toInt32 + d1.toInt32)), (.ref s2)]))
    rw [own_addn (by omega)]
    show Goes p e below _ (Tt148.setTop (mkF m 337 #[.val (.long p0), .second, .val (.int p1), .val (.int p2), .val (.int (2 : Int32)), .val (.int c0), .val (.int c1), .val (.int c2), .val (.ref ob95), .val (.int ln.toInt32), .val (.int co.toInt32), .val (.ref ob117), .val (.ref s2), .val (.int d1.toInt32), .val (.int d2.toInt32), .val (.int (1 : Int32))] [(.int (4 + d1).toInt32), (.ref s2)]))
    refine gIload Xt148 hx (hb hby at_337) rfl ?_
    refine gIload Xt148 hx (hb hby at_339) rfl ?_
    refine goCallS Xt148 hx hZ hown (hw _ (List.mem_of_getElem? (i := 222) rfl)) (hw _ (List.mem_of_getElem? (i := 223) rfl)) (hw _ (List.mem_of_getElem? (i := 197) rfl)) (hw _ (List.mem_of_getElem? (i := 224) rfl)) (by decide) (rmNu l Z a0 hw fm s2 u9 sb co d2 (4 + d1) cs ht123 O126 S_cs hcs S_fm rf Es2 Sv2 Sc2 Sy2 hlb hc2 h210 (by omega) hdB) 0 (by decide) (by decide) et148 (hsz rfl) [(.ref s2), (.int (4 + d1).toInt32), (.int co.toInt32), (.int d2.toInt32)] [] pd_37 rfl rfl rfl (Nat.le_of_eq rfl) (hb hby at_341) (by decide) (by decide) (fun Tt151 vt151 Lt151 Xt151 qt151 => ?_)
    obtain ⟨rfl, N152, et151⟩ := qt151
    have N153 := Fr.app N150 N152
    show Goes p e below _ (Tt151.setTop (mkF m 344 #[.val (.long p0), .second, .val (.int p1), .val (.int p2), .val (.int (2 : Int32)), .val (.int c0), .val (.int c1), .val (.int c2), .val (.ref ob95), .val (.int ln.toInt32), .val (.int co.toInt32), .val (.ref ob117), .val (.ref s2), .val (.int d1.toInt32), .val (.int d2.toInt32), .val (.int (1 : Int32))] [(.int (1 : Int32))]))
    refine gIfN Xt151 hx (hb hby at_344) (XT.i0_eq_f (by decide)) ?_
    show Goes p e below _ (Tt151.setTop (mkF m 347 #[.val (.long p0), .second, .val (.int p1), .val (.int p2), .val (.int (2 : Int32)), .val (.int c0), .val (.int c1), .val (.int c2), .val (.ref ob95), .val (.int ln.toInt32), .val (.int co.toInt32), .val (.ref ob117), .val (.ref s2), .val (.int d1.toInt32), .val (.int d2.toInt32), .val (.int (1 : Int32))] []))
    refine gIconst Xt151 hx (hb hby at_347) (v := (1 : Int32)) rfl ?_
    refine gGoto Xt151 hx (hb hby at_348) (pc' := 352) (by decide) (by decide) ?_
    show Goes p e below _ (Tt151.setTop (mkF m 352 #[.val (.long p0), .second, .val (.int p1), .val (.int p2), .val (.int (2 : Int32)), .val (.int c0), .val (.int c1), .val (.int c2), .val (.ref ob95), .val (.int ln.toInt32), .val (.int co.toInt32), .val (.ref ob117), .val (.ref s2), .val (.int d1.toInt32), .val (.int d2.toInt32), .val (.int (1 : Int32))] [(.int (1 : Int32))]))
    exact goRetNW Xt151 hx hS (t := .boolean) hret hlocks (by simp) (hb hby at_352) (z' := (1 : Int32)) rfl (by decide) (by decide) et151 (⟨rfl, N153⟩)
  · rw [hl]
    show Goes p e below _ (s₁.setTop (mkF m 43 #[.val (.long p0), .second, .val (.int p1), .val (.int p2), .val (.int (3 : Int32)), .val (.int c0), .val (.int c1), .val (.int c2), .unset, .unset, .unset, .unset, .unset, .unset, .unset, .unset] []))
    refine gIload X0 hx (hb hby at_43) rfl ?_
    refine gIfY X0 hx (hb hby at_45) (pc' := 63) (XT.i0_ne_t (by decide)) (by decide) (by decide) ?_
    show Goes p e below _ (s₁.setTop (mkF m 63 #[.val (.long p0), .second, .val (.int p1), .val (.int p2), .val (.int (3 : Int32)), .val (.int c0), .val (.int c1), .val (.int c2), .unset, .unset, .unset, .unset, .unset, .unset, .unset, .unset] []))
    refine gIload X0 hx (hb hby at_63) rfl ?_
    refine gIconst X0 hx (hb hby at_65) (v := (1 : Int32)) rfl ?_
    refine gIcmpY X0 hx (hb hby at_66) (pc' := 79) (XT.ii_ne_t (by decide)) (by decide) (by decide) ?_
    show Goes p e below _ (s₁.setTop (mkF m 79 #[.val (.long p0), .second, .val (.int p1), .val (.int p2), .val (.int (3 : Int32)), .val (.int c0), .val (.int c1), .val (.int c2), .unset, .unset, .unset, .unset, .unset, .unset, .unset, .unset] []))
    refine gIload X0 hx (hb hby at_79) rfl ?_
    refine gIconst X0 hx (hb hby at_81) (v := (2 : Int32)) rfl ?_
    refine gIcmpY X0 hx (hb hby at_82) (pc' := 110) (XT.ii_ne_t (by decide)) (by decide) (by decide) ?_
    show Goes p e below _ (s₁.setTop (mkF m 110 #[.val (.long p0), .second, .val (.int p1), .val (.int p2), .val (.int (3 : Int32)), .val (.int c0), .val (.int c1), .val (.int c2), .unset, .unset, .unset, .unset, .unset, .unset, .unset, .unset] []))
    obtain ⟨Tt154, ht154, Xt154, et154, Et154, At154, Dt154, -, stt154⟩ := newO X0 hx hZ hown (hw _ (List.mem_of_getElem? (i := 2) rfl)) (hw _ (List.mem_of_getElem? (i := 3) rfl)) (hw _ (List.mem_of_getElem? (i := 4) rfl)) e0 (g := (mkF m 110 #[.val (.long p0), .second, .val (.int p1), .val (.int p2), .val (.int (3 : Int32)), .val (.int c0), .val (.int c1), .val (.int c2), .unset, .unset, .unset, .unset, .unset, .unset, .unset, .unset] [])) rfl (hb hby at_110) (by decide) (by decide)
    obtain ⟨ob155, gob155⟩ : ∃ z, z = h0.size := ⟨_, rfl⟩
    rw [← gob155] at At154 Dt154 stt154
    refine go stt154 ?_
    have ne_o1_ob155 : o1 ≠ ob155 := Nat.ne_of_lt (gob155 ▸ Yo.lt)
    have ne_o2_ob155 : o2 ≠ ob155 := Nat.ne_of_lt (gob155 ▸ Yt.lt)
    have fr_ob155 : Z.heap.size ≤ ob155 := gob155 ▸ O0.1
    replace Yo := Yo.ext Et154
    replace Yt := Yt.ext Et154
    have O156 : Ext Z.heap ht154 := extT O0 Et154
    replace hS := hS.ext Et154
    have F_coder_ob155 : Fld Z ht154 ob155 "java/lang/String" "coder" "B" (.int (0 : Int32)) := Dt154 (Or.inr (hw _ (List.mem_of_getElem? (i := 29) rfl))) (ty := .byte) (by decide)
    have F_value_ob155 : Fld Z ht154 ob155 "java/lang/String" "value" "[B" .null := Dt154 (Or.inr (hw _ (List.mem_of_getElem? (i := 31) rfl))) (ty := (.array .byte)) (by decide)
    show Goes p e below _ (Tt154.setTop (mkF m 113 #[.val (.long p0), .second, .val (.int p1), .val (.int p2), .val (.int (3 : Int32)), .val (.int c0), .val (.int c1), .val (.int c2), .unset, .unset, .unset, .unset, .unset, .unset, .unset, .unset] [(.ref ob155)]))
    refine gDup Xt154 hx (hb hby at_113) rfl ?_
    refine gIconst Xt154 hx (hb hby at_114) (v := (3 : Int32)) rfl ?_
    obtain ⟨Tt157, ht157, kt157, Xt157, et157, Et157, At157, stt157⟩ := newP Xt154 hx hZ (hw _ (List.mem_of_getElem? (i := 5) rfl)) et154 (g := (mkF m 115 #[.val (.long p0), .second, .val (.int p1), .val (.int p2), .val (.int (3 : Int32)), .val (.int c0), .val (.int c1), .val (.int c2), .unset, .unset, .unset, .unset, .unset, .unset, .unset, .unset] [(.int (3 : Int32)), (.ref ob155), (.ref ob155)])) rfl (hb hby at_115) rfl (by decide) (cap := 3) (by decide) (by decide) (by decide) (by decide)
    obtain ⟨ob158, gob158⟩ : ∃ z, z = ht154.size := ⟨_, rfl⟩
    rw [← gob158] at At157 stt157
    refine go stt157 ?_
    have ne_o1_ob158 : o1 ≠ ob158 := Nat.ne_of_lt (gob158 ▸ Yo.lt)
    have ne_o2_ob158 : o2 ≠ ob158 := Nat.ne_of_lt (gob158 ▸ Yt.lt)
    have ne_ob155_ob158 : ob155 ≠ ob158 := Nat.ne_of_lt (gob158 ▸ At154.lt)
    have fr_ob158 : Z.heap.size ≤ ob158 := gob158 ▸ O156.1
    replace Yo := Yo.ext Et157
    replace Yt := Yt.ext Et157
    replace At154 := At154.ext Et157
    replace F_coder_ob155 := F_coder_ob155.ext Et157
    replace F_value_ob155 := F_value_ob155.ext Et157
    have O159 : Ext Z.heap ht157 := extT O156 Et157
    replace hS := hS.ext Et157
    have Y_ob158 : Ary Z ht157 ob158 .char [(.int (0 : Int32)), (.int (0 : Int32)), (.int (0 : Int32))] := Ary.new At157 rfl (by decide)
    show Goes p e below _ (Tt157.setTop (mkF m 117 #[.val (.long p0), .second, .val (.int p1), .val (.int p2), .val (.int (3 : Int32)), .val (.int c0), .val (.int c1), .val (.int c2), .unset, .unset, .unset, .unset, .unset, .unset, .unset, .unset] [(.ref ob158), (.ref ob155), (.ref ob155)]))
    refine gDup Xt157 hx (hb hby at_117) rfl ?_
    refine gIconst Xt157 hx (hb hby at_118) (v := (0 : Int32)) rfl ?_
    refine gIload Xt157 hx (hb hby at_119) rfl ?_
    refine goCastore Xt157 hx hZ et157 Y_ob158 (hb hby at_121) (by decide) rfl (fun Tt160 ht160 Xt160 et160 Wt160 => ?_)
    have N161 := Fr.snoc Xt160 N0 fr_ob158
    replace Y_ob158 : Ary Z ht160 ob158 .char [(.int c0), (.int (0 : Int32)), (.int (0 : Int32))] := Y_ob158.set Wt160 (by rw [nc0]; rfl)
    replace Yo := Yo.other Wt160 ne_o1_ob158
    replace Yt := Yt.other Wt160 ne_o2_ob158
    replace At154 := At154.wr Wt160
    replace F_coder_ob155 := F_coder_ob155.other Wt160 (Or.inl ne_ob155_ob158)
    replace F_value_ob155 := F_value_ob155.other Wt160 (Or.inl ne_ob155_ob158)
    have O162 : Ext Z.heap ht160 := extW O159 Wt160 fr_ob158
    replace hS := hS.wr Wt160
    show Goes p e below _ (Tt160.setTop (mkF m 122 #[.val (.long p0), .second, .val (.int p1), .val (.int p2), .val (.int (3 : Int32)), .val (.int c0), .val (.int c1), .val (.int c2), .unset, .unset, .unset, .unset, .unset, .unset, .unset, .unset] [(.ref ob158), (.ref ob155), (.ref ob155)]))
    refine gDup Xt160 hx (hb hby at_122) rfl ?_
    refine gIconst Xt160 hx (hb hby at_123) (v := (1 : Int32)) rfl ?_
    refine gIload Xt160 hx (hb hby at_124) rfl ?_
    refine goCastore Xt160 hx hZ et160 Y_ob158 (hb hby at_126) (by decide) rfl (fun Tt163 ht163 Xt163 et163 Wt163 => ?_)
    have N164 := Fr.snoc Xt163 N161 fr_ob158
    replace Y_ob158 : Ary Z ht163 ob158 .char [(.int c0), (.int c1), (.int (0 : Int32))] := Y_ob158.set Wt163 (by rw [nc1]; rfl)
    replace Yo := Yo.other Wt163 ne_o1_ob158
    replace Yt := Yt.other Wt163 ne_o2_ob158
    replace At154 := At154.wr Wt163
    replace F_coder_ob155 := F_coder_ob155.other Wt163 (Or.inl ne_ob155_ob158)
    replace F_value_ob155 := F_value_ob155.other Wt163 (Or.inl ne_ob155_ob158)
    have O165 : Ext Z.heap ht163 := extW O162 Wt163 fr_ob158
    replace hS := hS.wr Wt163
    show Goes p e below _ (Tt163.setTop (mkF m 127 #[.val (.long p0), .second, .val (.int p1), .val (.int p2), .val (.int (3 : Int32)), .val (.int c0), .val (.int c1), .val (.int c2), .unset, .unset, .unset, .unset, .unset, .unset, .unset, .unset] [(.ref ob158), (.ref ob155), (.ref ob155)]))
    refine gDup Xt163 hx (hb hby at_127) rfl ?_
    refine gIconst Xt163 hx (hb hby at_128) (v := (2 : Int32)) rfl ?_
    refine gIload Xt163 hx (hb hby at_129) rfl ?_
    refine goCastore Xt163 hx hZ et163 Y_ob158 (hb hby at_131) (by decide) rfl (fun Tt166 ht166 Xt166 et166 Wt166 => ?_)
    have N167 := Fr.snoc Xt166 N164 fr_ob158
    replace Y_ob158 : Ary Z ht166 ob158 .char [(.int c0), (.int c1), (.int c2)] := Y_ob158.set Wt166 (by rw [nc2]; rfl)
    replace Yo := Yo.other Wt166 ne_o1_ob158
    replace Yt := Yt.other Wt166 ne_o2_ob158
    replace At154 := At154.wr Wt166
    replace F_coder_ob155 := F_coder_ob155.other Wt166 (Or.inl ne_ob155_ob158)
    replace F_value_ob155 := F_value_ob155.other Wt166 (Or.inl ne_ob155_ob158)
    have O168 : Ext Z.heap ht166 := extW O165 Wt166 fr_ob158
    replace hS := hS.wr Wt166
    show Goes p e below _ (Tt166.setTop (mkF m 132 #[.val (.long p0), .second, .val (.int p1), .val (.int p2), .val (.int (3 : Int32)), .val (.int c0), .val (.int c1), .val (.int c2), .unset, .unset, .unset, .unset, .unset, .unset, .unset, .unset] [(.ref ob158), (.ref ob155), (.ref ob155)]))
    refine goCallI Xt166 hx hZ rfl hown (hw _ (List.mem_of_getElem? (i := 6) rfl)) (hw _ (List.mem_of_getElem? (i := 7) rfl)) (hw _ (List.mem_of_getElem? (i := 4) rfl)) (hw _ (List.mem_of_getElem? (i := 8) rfl)) (by decide) (rmS3 l Z a0 hw cs c0 c1 c2 ob155 ob158 ht166 O168 S_cs hcs At154 F_value_ob155 F_coder_ob155 Y_ob158 ne_ob155_ob158 fr_ob155 qb0 qb1 qb2) 1 (by decide) (by decide) et166 (hsz rfl) ob155 [(.ref ob158)] [(.ref ob155)] pd_35 rfl rfl rfl (Nat.le_of_eq rfl) (hb hby at_132) (by decide) (by decide) (fun Tt169 vt169 Lt169 Xt169 qt169 => ?_)
    obtain ⟨ht169, et169⟩ : ∃ z, Tt169.heap = z := ⟨_, rfl⟩
    rw [et169] at qt169
    obtain ⟨rfl, N170, Kct169, us, pus, Sv1, Sc1, Sy0⟩ := qt169
    have N171 := Fr.app N167 N170
    replace Yo := Yo.keep Kct169 (ninS ne_o1_ob155 nin0)
    replace Yt := Yt.keep Kct169 (ninS ne_o2_ob155 nin0)
    replace At154 := At154.keep Kct169
    replace Y_ob158 := Y_ob158.keep Kct169 (ninS (Ne.symm ne_ob155_ob158) nin0)
    have O172 : Ext Z.heap ht169 := extK O168 Kct169 (allS fr_ob155 all0)
    replace hS := hS.keep Kct169
    show Goes p e below _ (Tt169.setTop (mkF m 135 #[.val (.long p0), .second, .val (.int p1), .val (.int p2), .val (.int (3 : Int32)), .val (.int c0), .val (.int c1), .val (.int c2), .unset, .unset, .unset, .unset, .unset, .unset, .unset, .unset] [(.ref ob155)]))
    have Sy1 : Ary Z ht169 us .byte (own_bv [c0.toInt8, c1.toInt8, c2.toInt8]) := Sy0
    refine gAstore Xt169 hx (hb hby at_135) rfl (l' := #[.val (.long p0), .second, .val (.int p1), .val (.int p2), .val (.int (3 : Int32)), .val (.int c0), .val (.int c1), .val (.int c2), .val (.ref ob155), .unset, .unset, .unset, .unset, .unset, .unset, .unset]) rfl ?_
    refine gIconst Xt169 hx (hb hby at_137) (v := (1 : Int32)) rfl ?_
    refine gIloadN Xt169 hx (hb hby at_138) rfl ?_
    refine gLdcI Xt169 hx hZ hown (hw _ (List.mem_of_getElem? (i := 32) rfl)) (hb hby at_139) ?_
    refine gIand Xt169 hx (hb hby at_141) ?_
    obtain ⟨ln, hl1, hl2, hl3⟩ := own_line p1
    refine goCallS Xt169 hx hZ hown (hw _ (List.mem_of_getElem? (i := 33) rfl)) (hw _ (List.mem_of_getElem? (i := 34) rfl)) (hw _ (List.mem_of_getElem? (i := 35) rfl)) (hw _ (List.mem_of_getElem? (i := 36) rfl)) (by decide) (rmMx l Z a0 hw ln.toInt32 (1 : Int32) (p1 &&& (2147483647 : Int32)) ht169 O172 hl3) 0 (by decide) (by decide) et169 (hsz rfl) [(.int (1 : Int32)), (.int (p1 &&& (2147483647 : Int32)))] [] pd_1 rfl rfl rfl (Nat.le_of_eq rfl) (hb hby at_142) (by decide) (by decide) (fun Tt173 vt173 Lt173 Xt173 qt173 => ?_)
    obtain ⟨rfl, N174, et173⟩ := qt173
    have N175 := Fr.app N171 N174
    show Goes p e below _ (Tt173.setTop (mkF m 145 #[.val (.long p0), .second, .val (.int p1), .val (.int p2), .val (.int (3 : Int32)), .val (.int c0), .val (.int c1), .val (.int c2), .val (.ref ob155), .unset, .unset, .unset, .unset, .unset, .unset, .unset] [(.int ln.toInt32)]))
    refine gIstore Xt173 hx (hb hby at_145) (l' := #[.val (.long p0), .second, .val (.int p1), .val (.int p2), .val (.int (3 : Int32)), .val (.int c0), .val (.int c1), .val (.int c2), .val (.ref ob155), .val (.int ln.toInt32), .unset, .unset, .unset, .unset, .unset, .unset]) rfl ?_
    refine gIconst Xt173 hx (hb hby at_147) (v := (1 : Int32)) rfl ?_
    refine gIloadN Xt173 hx (hb hby at_148) rfl ?_
    refine gLdcI Xt173 hx hZ hown (hw _ (List.mem_of_getElem? (i := 32) rfl)) (hb hby at_149) ?_
    refine gIand Xt173 hx (hb hby at_151) ?_
    obtain ⟨co, hc1, hc2, hc3⟩ := own_line p2
    refine goCallS Xt173 hx hZ hown (hw _ (List.mem_of_getElem? (i := 33) rfl)) (hw _ (List.mem_of_getElem? (i := 34) rfl)) (hw _ (List.mem_of_getElem? (i := 35) rfl)) (hw _ (List.mem_of_getElem? (i := 36) rfl)) (by decide) (rmMx l Z a0 hw co.toInt32 (1 : Int32) (p2 &&& (2147483647 : Int32)) ht169 O172 hc3) 0 (by decide) (by decide) et173 (hsz rfl) [(.int (1 : Int32)), (.int (p2 &&& (2147483647 : Int32)))] [] pd_1 rfl rfl rfl (Nat.le_of_eq rfl) (hb hby at_152) (by decide) (by decide) (fun Tt176 vt176 Lt176 Xt176 qt176 => ?_)
    obtain ⟨rfl, N177, et176⟩ := qt176
    have N178 := Fr.app N175 N177
    show Goes p e below _ (Tt176.setTop (mkF m 155 #[.val (.long p0), .second, .val (.int p1), .val (.int p2), .val (.int (3 : Int32)), .val (.int c0), .val (.int c1), .val (.int c2), .val (.ref ob155), .val (.int ln.toInt32), .unset, .unset, .unset, .unset, .unset, .unset] [(.int co.toInt32)]))
    refine gIstore Xt176 hx (hb hby at_155) (l' := #[.val (.long p0), .second, .val (.int p1), .val (.int p2), .val (.int (3 : Int32)), .val (.int c0), .val (.int c1), .val (.int c2), .val (.ref ob155), .val (.int ln.toInt32), .val (.int co.toInt32), .unset, .unset, .unset, .unset, .unset]) rfl ?_
    obtain ⟨Tt179, ht179, Xt179, et179, Et179, At179, Dt179, -, stt179⟩ := newO Xt176 hx hZ hown (hw _ (List.mem_of_getElem? (i := 37) rfl)) (hw _ (List.mem_of_getElem? (i := 38) rfl)) (hw _ (List.mem_of_getElem? (i := 39) rfl)) et176 (g := (mkF m 157 #[.val (.long p0), .second, .val (.int p1), .val (.int p2), .val (.int (3 : Int32)), .val (.int c0), .val (.int c1), .val (.int c2), .val (.ref ob155), .val (.int ln.toInt32), .val (.int co.toInt32), .unset, .unset, .unset, .unset, .unset] [])) rfl (hb hby at_157) (by decide) (by decide)
    obtain ⟨ob180, gob180⟩ : ∃ z, z = ht169.size := ⟨_, rfl⟩
    rw [← gob180] at At179 Dt179 stt179
    refine go stt179 ?_
    have ne_o1_ob180 : o1 ≠ ob180 := Nat.ne_of_lt (gob180 ▸ Yo.lt)
    have ne_o2_ob180 : o2 ≠ ob180 := Nat.ne_of_lt (gob180 ▸ Yt.lt)
    have ne_ob155_ob180 : ob155 ≠ ob180 := Nat.ne_of_lt (gob180 ▸ At154.lt)
    have ne_us_ob180 : us ≠ ob180 := Nat.ne_of_lt (gob180 ▸ Sy1.lt)
    have fr_ob180 : Z.heap.size ≤ ob180 := gob180 ▸ O172.1
    replace Yo := Yo.ext Et179
    replace Yt := Yt.ext Et179
    replace At154 := At154.ext Et179
    replace Sv1 := Sv1.ext Et179
    replace Sc1 := Sc1.ext Et179
    replace Sy1 := Sy1.ext Et179
    have O181 : Ext Z.heap ht179 := extT O172 Et179
    replace hS := hS.ext Et179
    have F_source_ob180 : Fld Z ht179 ob180 "com/example/phal/phal/model/SourcePosition" "source" "Ljava/lang/String;" .null := Dt179 (Or.inr (hw _ (List.mem_of_getElem? (i := 57) rfl))) (ty := (.object "java/lang/String")) (by decide)
    have F_line_ob180 : Fld Z ht179 ob180 "com/example/phal/phal/model/SourcePosition" "line" "I" (.int (0 : Int32)) := Dt179 (Or.inr (hw _ (List.mem_of_getElem? (i := 59) rfl))) (ty := .int) (by decide)
    have F_column_ob180 : Fld Z ht179 ob180 "com/example/phal/phal/model/SourcePosition" "column" "I" (.int (0 : Int32)) := Dt179 (Or.inr (hw _ (List.mem_of_getElem? (i := 61) rfl))) (ty := .int) (by decide)
    show Goes p e below _ (Tt179.setTop (mkF m 160 #[.val (.long p0), .second, .val (.int p1), .val (.int p2), .val (.int (3 : Int32)), .val (.int c0), .val (.int c1), .val (.int c2), .val (.ref ob155), .val (.int ln.toInt32), .val (.int co.toInt32), .unset, .unset, .unset, .unset, .unset] [(.ref ob180)]))
    refine gDup Xt179 hx (hb hby at_160) rfl ?_
    refine gAload Xt179 hx (hb hby at_161) rfl rfl ?_
    refine gIload Xt179 hx (hb hby at_163) rfl ?_
    refine gIload Xt179 hx (hb hby at_165) rfl ?_
    refine goCallIW Xt179 hx hZ hS rfl hown (hw _ (List.mem_of_getElem? (i := 40) rfl)) (hw _ (List.mem_of_getElem? (i := 41) rfl)) (hw _ (List.mem_of_getElem? (i := 39) rfl)) (hw _ (List.mem_of_getElem? (i := 42) rfl)) (by decide) (rmPi l Z a0 hw [] ln co ob180 ob155 ht179 O181 hh7 hcw (by simp) At179 F_source_ob180 F_line_ob180 F_column_ob180 fr_ob180 hl1 hl2 hc1 hc2) (fun _ w_ => IB.warm hPv w_) 1 (by decide) (by decide) et179 (hsz rfl) ob180 [(.ref ob155), (.int ln.toInt32), (.int co.toInt32)] [(.ref ob180)] pd_36 rfl rfl rfl (Nat.le_of_eq rfl) (hb hby at_167) (by decide) (by decide) (fun Tt182 vt182 Lt182 Xt182 hZ hown hS wm_t182 qt182 => ?_)
    obtain ⟨ht182, et182⟩ : ∃ z, Tt182.heap = z := ⟨_, rfl⟩
    rw [et182] at qt182 hS
    obtain ⟨rfl, N183, Kct182, P1, P2, P3, Ib2⟩ := qt182
    have N184 := Fr.app N178 N183
    replace Yo := Yo.keep Kct182 (ninS ne_o1_ob180 nin0)
    replace Yt := Yt.keep Kct182 (ninS ne_o2_ob180 nin0)
    replace At154 := At154.keep Kct182
    replace Sv1 := Sv1.keep Kct182 (ninS ne_ob155_ob180 nin0)
    replace Sc1 := Sc1.keep Kct182 (ninS ne_ob155_ob180 nin0)
    replace Sy1 := Sy1.keep Kct182 (ninS ne_us_ob180 nin0)
    replace At179 := At179.keep Kct182
    have O185 : Ext Z.heap ht182 := extK O181 Kct182 (allS fr_ob180 all0)
    show Goes p e below _ (Tt182.setTop (mkF m 170 #[.val (.long p0), .second, .val (.int p1), .val (.int p2), .val (.int (3 : Int32)), .val (.int c0), .val (.int c1), .val (.int c2), .val (.ref ob155), .val (.int ln.toInt32), .val (.int co.toInt32), .unset, .unset, .unset, .unset, .unset] [(.ref ob180)]))
    refine gAstore Xt182 hx (hb hby at_170) rfl (l' := #[.val (.long p0), .second, .val (.int p1), .val (.int p2), .val (.int (3 : Int32)), .val (.int c0), .val (.int c1), .val (.int c2), .val (.ref ob155), .val (.int ln.toInt32), .val (.int co.toInt32), .val (.ref ob180), .unset, .unset, .unset, .unset]) rfl ?_
    refine gAload Xt182 hx (hb hby at_172) rfl rfl ?_
    refine goCallVW Xt182 hx hZ hS hown (hw _ (List.mem_of_getElem? (i := 62) rfl)) (hw _ (List.mem_of_getElem? (i := 63) rfl)) (hw _ (List.mem_of_getElem? (i := 65) rfl)) (hw _ (List.mem_of_getElem? (i := 64) rfl)) (hw _ (List.mem_of_getElem? (i := 39) rfl)) (hw _ (List.mem_of_getElem? (i := 66) rfl)) (by decide) (rmPt l Z a0 hw ("source" :: []) ln co ob155 us o1 o2 [c0.toInt8, c1.toInt8, c2.toInt8] cs ob180 ht182 O185 S_cs hcs S_o S_t Yo Yt lo1 lo2 hh29 hcw (by simp) At179 P1 P2 P3 At154 Sv1 Sc1 Sy1 hl1 hl2 hc1 hc2 (by simp)) (fun _ w_ => IB.warm Ib2 w_) 0 (by decide) (by decide) et182 At179 (hsz rfl) [] [] pd_34 rfl rfl rfl (Nat.le_of_eq rfl) (hb hby at_174) (by decide) (by decide) (fun Tt186 vt186 Lt186 Xt186 hZ hown hS wm_t186 qt186 => ?_)
    obtain ⟨ht186, et186⟩ : ∃ z, Tt186.heap = z := ⟨_, rfl⟩
    rw [et186] at qt186 hS
    obtain ⟨s2, rfl, N187, Kct186, Es2, u9, d1, d2, h110, hD1, h210, hD2, Sv2, Sc2, Sy9⟩ := qt186
    have N188 := Fr.app N184 N187
    replace Yo := Yo.keep Kct186 nin0
    replace Yt := Yt.keep Kct186 nin0
    replace At154 := At154.keep Kct186
    replace Sv1 := Sv1.keep Kct186 nin0
    replace Sc1 := Sc1.keep Kct186 nin0
    replace Sy1 := Sy1.keep Kct186 nin0
    replace At179 := At179.keep Kct186
    replace P1 := P1.keep Kct186 nin0
    replace P2 := P2.keep Kct186 nin0
    replace P3 := P3.keep Kct186 nin0
    have O189 : Ext Z.heap ht186 := extK O185 Kct186 all0
    show Goes p e below _ (Tt186.setTop (mkF m 177 #[.val (.long p0), .second, .val (.int p1), .val (.int p2), .val (.int (3 : Int32)), .val (.int c0), .val (.int c1), .val (.int c2), .val (.ref ob155), .val (.int ln.toInt32), .val (.int co.toInt32), .val (.ref ob180), .unset, .unset, .unset, .unset] [(.ref s2)]))
    obtain ⟨sb, hsb, hlen, hpre, hk1, hdA, hk2, hdB⟩ := own_txt [c0.toInt8, c1.toInt8, c2.toInt8] 3 d1 d2 ln co rfl
    have Sy2 : Ary Z ht186 u9 .byte (own_bv sb) := by rw [hsb]; exact Sy9
    clear Sy9 hsb
    have hlb : sb.length < 1000 := by omega
    refine gAstore Xt186 hx (hb hby at_177) rfl (l' := #[.val (.long p0), .second, .val (.int p1), .val (.int p2), .val (.int (3 : Int32)), .val (.int c0), .val (.int c1), .val (.int c2), .val (.ref ob155), .val (.int ln.toInt32), .val (.int co.toInt32), .val (.ref ob180), .val (.ref s2), .unset, .unset, .unset]) rfl ?_
    refine gAload Xt186 hx (hb hby at_179) rfl rfl ?_
    refine gNonnullY Xt186 hx (hb hby at_181) (pc' := 186) (by decide) (by decide) ?_
    show Goes p e below _ (Tt186.setTop (mkF m 186 #[.val (.long p0), .second, .val (.int p1), .val (.int p2), .val (.int (3 : Int32)), .val (.int c0), .val (.int c1), .val (.int c2), .val (.ref ob155), .val (.int ln.toInt32), .val (.int co.toInt32), .val (.ref ob180), .val (.ref s2), .unset, .unset, .unset] []))
    refine gIload Xt186 hx (hb hby at_186) rfl ?_
    refine goCallS Xt186 hx hZ hown (hw _ (List.mem_of_getElem? (i := 195) rfl)) (hw _ (List.mem_of_getElem? (i := 196) rfl)) (hw _ (List.mem_of_getElem? (i := 197) rfl)) (hw _ (List.mem_of_getElem? (i := 198) rfl)) (by decide) (rmDi l Z a0 hw ln ht186 O189 hl1 hl2) 0 (by decide) (by decide) et186 (hsz rfl) [(.int ln.toInt32)] [] pd_3 rfl rfl rfl (Nat.le_of_eq rfl) (hb hby at_188) (by decide) (by decide) (fun Tt190 vt190 Lt190 Xt190 qt190 => ?_)
    obtain ⟨ed1, rfl, N191, et190, ed110, ed1D⟩ := qt190
    have N192 := Fr.app N188 N191
    show Goes p e below _ (Tt190.setTop (mkF m 191 #[.val (.long p0), .second, .val (.int p1), .val (.int p2), .val (.int (3 : Int32)), .val (.int c0), .val (.int c1), .val (.int c2), .val (.ref ob155), .val (.int ln.toInt32), .val (.int co.toInt32), .val (.ref ob180), .val (.ref s2), .unset, .unset, .unset] [(.int ed1.toInt32)]))
    show Goes p e below _ (Tt190.setTop (mkF m 191 #[.val (.long p0), .second, .val (.int p1), .val (.int p2), .val (.int (3 : Int32)), .val (.int c0), .val (.int c1), .val (.int c2), .val (.ref ob155), .val (.int ln.toInt32), .val (.int co.toInt32), .val (.ref ob180), .val (.ref s2), .unset, .unset, .unset] [(.int ed1.toInt32)]))
    rw [own_Duniq ed1D hD1]
    show Goes p e below _ (Tt190.setTop (mkF m 191 #[.val (.long p0), .second, .val (.int p1), .val (.int p2), .val (.int (3 : Int32)), .val (.int c0), .val (.int c1), .val (.int c2), .val (.ref ob155), .val (.int ln.toInt32), .val (.int co.toInt32), .val (.ref ob180), .val (.ref s2), .unset, .unset, .unset] [(.int d1.toInt32)]))
    refine gIstore Xt190 hx (hb hby at_191) (l' := #[.val (.long p0), .second, .val (.int p1), .val (.int p2), .val (.int (3 : Int32)), .val (.int c0), .val (.int c1), .val (.int c2), .val (.ref ob155), .val (.int ln.toInt32), .val (.int co.toInt32), .val (.ref ob180), .val (.ref s2), .val (.int d1.toInt32), .unset, .unset]) rfl ?_
    refine gIload Xt190 hx (hb hby at_193) rfl ?_
    refine goCallS Xt190 hx hZ hown (hw _ (List.mem_of_getElem? (i := 195) rfl)) (hw _ (List.mem_of_getElem? (i := 196) rfl)) (hw _ (List.mem_of_getElem? (i := 197) rfl)) (hw _ (List.mem_of_getElem? (i := 198) rfl)) (by decide) (rmDi l Z a0 hw co ht186 O189 hc1 hc2) 0 (by decide) (by decide) et190 (hsz rfl) [(.int co.toInt32)] [] pd_3 rfl rfl rfl (Nat.le_of_eq rfl) (hb hby at_195) (by decide) (by decide) (fun Tt193 vt193 Lt193 Xt193 qt193 => ?_)
    obtain ⟨ed2, rfl, N194, et193, ed210, ed2D⟩ := qt193
    have N195 := Fr.app N192 N194
    show Goes p e below _ (Tt193.setTop (mkF m 198 #[.val (.long p0), .second, .val (.int p1), .val (.int p2), .val (.int (3 : Int32)), .val (.int c0), .val (.int c1), .val (.int c2), .val (.ref ob155), .val (.int ln.toInt32), .val (.int co.toInt32), .val (.ref ob180), .val (.ref s2), .val (.int d1.toInt32), .unset, .unset] [(.int ed2.toInt32)]))
    show Goes p e below _ (Tt193.setTop (mkF m 198 #[.val (.long p0), .second, .val (.int p1), .val (.int p2), .val (.int (3 : Int32)), .val (.int c0), .val (.int c1), .val (.int c2), .val (.ref ob155), .val (.int ln.toInt32), .val (.int co.toInt32), .val (.ref ob180), .val (.ref s2), .val (.int d1.toInt32), .unset, .unset] [(.int ed2.toInt32)]))
    rw [own_Duniq ed2D hD2]
    show Goes p e below _ (Tt193.setTop (mkF m 198 #[.val (.long p0), .second, .val (.int p1), .val (.int p2), .val (.int (3 : Int32)), .val (.int c0), .val (.int c1), .val (.int c2), .val (.ref ob155), .val (.int ln.toInt32), .val (.int co.toInt32), .val (.ref ob180), .val (.ref s2), .val (.int d1.toInt32), .unset, .unset] [(.int d2.toInt32)]))
    refine gIstore Xt193 hx (hb hby at_198) (l' := #[.val (.long p0), .second, .val (.int p1), .val (.int p2), .val (.int (3 : Int32)), .val (.int c0), .val (.int c1), .val (.int c2), .val (.ref ob155), .val (.int ln.toInt32), .val (.int co.toInt32), .val (.ref ob180), .val (.ref s2), .val (.int d1.toInt32), .val (.int d2.toInt32), .unset]) rfl ?_
    refine gAload Xt193 hx (hb hby at_200) rfl rfl ?_
    refine goCallV Xt193 hx hZ hown (hw _ (List.mem_of_getElem? (i := 199) rfl)) (hw _ (List.mem_of_getElem? (i := 96) rfl)) (hw _ (List.mem_of_getElem? (i := 98) rfl)) (hw _ (List.mem_of_getElem? (i := 97) rfl)) (hw _ (List.mem_of_getElem? (i := 4) rfl)) (hw _ (List.mem_of_getElem? (i := 99) rfl)) (by decide) (rmLe l Z a0 hw u9 sb cs s2 ht186 O189 S_cs hcs Es2 Sv2 Sc2 Sy2) 0 (by decide) (by decide) et193 Es2 (hsz rfl) [] [] pd_8 rfl rfl rfl (Nat.le_of_eq rfl) (hb hby at_202) (by decide) (by decide) (fun Tt196 vt196 Lt196 Xt196 qt196 => ?_)
    obtain ⟨rfl, N197, et196⟩ := qt196
    have N198 := Fr.app N195 N197
    show Goes p e below _ (Tt196.setTop (mkF m 205 #[.val (.long p0), .second, .val (.int p1), .val (.int p2), .val (.int (3 : Int32)), .val (.int c0), .val (.int c1), .val (.int c2), .val (.ref ob155), .val (.int ln.toInt32), .val (.int co.toInt32), .val (.ref ob180), .val (.ref s2), .val (.int d1.toInt32), .val (.int d2.toInt32), .unset] [(.int sb.length.toInt32)]))
    refine gIload Xt196 hx (hb hby at_205) rfl ?_
    refine gIconst Xt196 hx (hb hby at_207) (v := (2 : Int32)) rfl ?_
    refine gIadd Xt196 hx (hb hby at_208) ?_
    show Goes p e below _ (Tt196.setTop (mkF m 209 #[.val (.long p0), .second, .val (.int p1), .val (.int p2), .val (.int (3 : Int32)), .val (.int c0), .val (.int c1), .val (.int c2), .val (.ref ob155), .val (.int ln.toInt32), .val (.int co.toInt32), .val (.ref ob180), .val (.ref s2), .val (.int d1.toInt32), .val (.int d2.toInt32), .unset] [(.int (5 : Nat).toInt32), (.int sb.length.toInt32)]))
    refine gIload Xt196 hx (hb hby at_209) rfl ?_
    refine gIadd Xt196 hx (hb hby at_211) ?_
    show Goes p e below _ (Tt196.setTop (mkF m 212 #[.val (.long p0), .second, .val (.int p1), .val (.int p2), .val (.int (3 : Int32)), .val (.int c0), .val (.int c1), .val (.int c2), .val (.ref ob155), .val (.int ln.toInt32), .val (.int co.toInt32), .val (.ref ob180), .val (.ref s2), .val (.int d1.toInt32), .val (.int d2.toInt32), .unset] [(.int ((5 : Nat).toInt32 + d1.toInt32)), (.int sb.length.toInt32)]))
    rw [own_addn (by omega)]
    show Goes p e below _ (Tt196.setTop (mkF m 212 #[.val (.long p0), .second, .val (.int p1), .val (.int p2), .val (.int (3 : Int32)), .val (.int c0), .val (.int c1), .val (.int c2), .val (.ref ob155), .val (.int ln.toInt32), .val (.int co.toInt32), .val (.ref ob180), .val (.ref s2), .val (.int d1.toInt32), .val (.int d2.toInt32), .unset] [(.int (5 + d1).toInt32), (.int sb.length.toInt32)]))
    refine gIload Xt196 hx (hb hby at_212) rfl ?_
    refine gIadd Xt196 hx (hb hby at_214) ?_
    show Goes p e below _ (Tt196.setTop (mkF m 215 #[.val (.long p0), .second, .val (.int p1), .val (.int p2), .val (.int (3 : Int32)), .val (.int c0), .val (.int c1), .val (.int c2), .val (.ref ob155), .val (.int ln.toInt32), .val (.int co.toInt32), .val (.ref ob180), .val (.ref s2), .val (.int d1.toInt32), .val (.int d2.toInt32), .unset] [(.int ((5 + d1).toInt32 + d2.toInt32)), (.int sb.length.toInt32)]))
    rw [own_addn (by omega)]
    show Goes p e below _ (Tt196.setTop (mkF m 215 #[.val (.long p0), .second, .val (.int p1), .val (.int p2), .val (.int (3 : Int32)), .val (.int c0), .val (.int c1), .val (.int c2), .val (.ref ob155), .val (.int ln.toInt32), .val (.int co.toInt32), .val (.ref ob180), .val (.ref s2), .val (.int d1.toInt32), .val (.int d2.toInt32), .unset] [(.int (5 + d1 + d2).toInt32), (.int sb.length.toInt32)]))
    refine gIcmpY Xt196 hx (hb hby at_215) (pc' := 220) (XT.ii_eq_t (congrArg Nat.toInt32 hlen)) (by decide) (by decide) ?_
    show Goes p e below _ (Tt196.setTop (mkF m 220 #[.val (.long p0), .second, .val (.int p1), .val (.int p2), .val (.int (3 : Int32)), .val (.int c0), .val (.int c1), .val (.int c2), .val (.ref ob155), .val (.int ln.toInt32), .val (.int co.toInt32), .val (.ref ob180), .val (.ref s2), .val (.int d1.toInt32), .val (.int d2.toInt32), .unset] []))
    refine gIload Xt196 hx (hb hby at_220) rfl ?_
    refine gIconst Xt196 hx (hb hby at_222) (v := (1 : Int32)) rfl ?_
    refine gIcmpN Xt196 hx (hb hby at_223) (XT.ii_lt_f (by decide)) ?_
    show Goes p e below _ (Tt196.setTop (mkF m 226 #[.val (.long p0), .second, .val (.int p1), .val (.int p2), .val (.int (3 : Int32)), .val (.int c0), .val (.int c1), .val (.int c2), .val (.ref ob155), .val (.int ln.toInt32), .val (.int co.toInt32), .val (.ref ob180), .val (.ref s2), .val (.int d1.toInt32), .val (.int d2.toInt32), .unset] []))
    refine gAload Xt196 hx (hb hby at_226) rfl rfl ?_
    refine gIconst Xt196 hx (hb hby at_228) (v := (0 : Int32)) rfl ?_
    show Goes p e below _ (Tt196.setTop (mkF m 229 #[.val (.long p0), .second, .val (.int p1), .val (.int p2), .val (.int (3 : Int32)), .val (.int c0), .val (.int c1), .val (.int c2), .val (.ref ob155), .val (.int ln.toInt32), .val (.int co.toInt32), .val (.ref ob180), .val (.ref s2), .val (.int d1.toInt32), .val (.int d2.toInt32), .unset] [(.int (0 : Nat).toInt32), (.ref s2)]))
    refine goCallV Xt196 hx hZ hown (hw _ (List.mem_of_getElem? (i := 200) rfl)) (hw _ (List.mem_of_getElem? (i := 201) rfl)) (hw _ (List.mem_of_getElem? (i := 203) rfl)) (hw _ (List.mem_of_getElem? (i := 202) rfl)) (hw _ (List.mem_of_getElem? (i := 4) rfl)) (hw _ (List.mem_of_getElem? (i := 204) rfl)) (by decide) (rmCa l Z a0 hw fm u9 sb 0 c0.toInt8 cs s2 ht186 O189 S_cs hcs S_fm rf Es2 Sv2 Sc2 Sy2 hlb (hpre 0 _ rfl)) 0 (by decide) (by decide) et196 Es2 (hsz rfl) [(.int (0 : Nat).toInt32)] [] pd_28 rfl rfl rfl (Nat.le_of_eq rfl) (hb hby at_229) (by decide) (by decide) (fun Tt199 vt199 Lt199 Xt199 qt199 => ?_)
    obtain ⟨rfl, N200, et199⟩ := qt199
    have N201 := Fr.app N198 N200
    show Goes p e below _ (Tt199.setTop (mkF m 232 #[.val (.long p0), .second, .val (.int p1), .val (.int p2), .val (.int (3 : Int32)), .val (.int c0), .val (.int c1), .val (.int c2), .val (.ref ob155), .val (.int ln.toInt32), .val (.int co.toInt32), .val (.ref ob180), .val (.ref s2), .val (.int d1.toInt32), .val (.int d2.toInt32), .unset] [(.int (own_chr c0.toInt8))]))
    show Goes p e below _ (Tt199.setTop (mkF m 232 #[.val (.long p0), .second, .val (.int p1), .val (.int p2), .val (.int (3 : Int32)), .val (.int c0), .val (.int c1), .val (.int c2), .val (.ref ob155), .val (.int ln.toInt32), .val (.int co.toInt32), .val (.ref ob180), .val (.ref s2), .val (.int d1.toInt32), .val (.int d2.toInt32), .unset] [(.int (own_chr c0.toInt8))]))
    rw [own_lc qa0 qb0]
    show Goes p e below _ (Tt199.setTop (mkF m 232 #[.val (.long p0), .second, .val (.int p1), .val (.int p2), .val (.int (3 : Int32)), .val (.int c0), .val (.int c1), .val (.int c2), .val (.ref ob155), .val (.int ln.toInt32), .val (.int co.toInt32), .val (.ref ob180), .val (.ref s2), .val (.int d1.toInt32), .val (.int d2.toInt32), .unset] [(.int c0)]))
    refine gIload Xt199 hx (hb hby at_232) rfl ?_
    refine gIcmpN Xt199 hx (hb hby at_234) (XT.ii_ne_f rfl) ?_
    show Goes p e below _ (Tt199.setTop (mkF m 237 #[.val (.long p0), .second, .val (.int p1), .val (.int p2), .val (.int (3 : Int32)), .val (.int c0), .val (.int c1), .val (.int c2), .val (.ref ob155), .val (.int ln.toInt32), .val (.int co.toInt32), .val (.ref ob180), .val (.ref s2), .val (.int d1.toInt32), .val (.int d2.toInt32), .unset] []))
    refine gIload Xt199 hx (hb hby at_237) rfl ?_
    refine gIconst Xt199 hx (hb hby at_239) (v := (2 : Int32)) rfl ?_
    refine gIcmpN Xt199 hx (hb hby at_240) (XT.ii_lt_f (by decide)) ?_
    show Goes p e below _ (Tt199.setTop (mkF m 243 #[.val (.long p0), .second, .val (.int p1), .val (.int p2), .val (.int (3 : Int32)), .val (.int c0), .val (.int c1), .val (.int c2), .val (.ref ob155), .val (.int ln.toInt32), .val (.int co.toInt32), .val (.ref ob180), .val (.ref s2), .val (.int d1.toInt32), .val (.int d2.toInt32), .unset] []))
    refine gAload Xt199 hx (hb hby at_243) rfl rfl ?_
    refine gIconst Xt199 hx (hb hby at_245) (v := (1 : Int32)) rfl ?_
    show Goes p e below _ (Tt199.setTop (mkF m 246 #[.val (.long p0), .second, .val (.int p1), .val (.int p2), .val (.int (3 : Int32)), .val (.int c0), .val (.int c1), .val (.int c2), .val (.ref ob155), .val (.int ln.toInt32), .val (.int co.toInt32), .val (.ref ob180), .val (.ref s2), .val (.int d1.toInt32), .val (.int d2.toInt32), .unset] [(.int (1 : Nat).toInt32), (.ref s2)]))
    refine goCallV Xt199 hx hZ hown (hw _ (List.mem_of_getElem? (i := 200) rfl)) (hw _ (List.mem_of_getElem? (i := 201) rfl)) (hw _ (List.mem_of_getElem? (i := 203) rfl)) (hw _ (List.mem_of_getElem? (i := 202) rfl)) (hw _ (List.mem_of_getElem? (i := 4) rfl)) (hw _ (List.mem_of_getElem? (i := 204) rfl)) (by decide) (rmCa l Z a0 hw fm u9 sb 1 c1.toInt8 cs s2 ht186 O189 S_cs hcs S_fm rf Es2 Sv2 Sc2 Sy2 hlb (hpre 1 _ rfl)) 0 (by decide) (by decide) et199 Es2 (hsz rfl) [(.int (1 : Nat).toInt32)] [] pd_28 rfl rfl rfl (Nat.le_of_eq rfl) (hb hby at_246) (by decide) (by decide) (fun Tt202 vt202 Lt202 Xt202 qt202 => ?_)
    obtain ⟨rfl, N203, et202⟩ := qt202
    have N204 := Fr.app N201 N203
    show Goes p e below _ (Tt202.setTop (mkF m 249 #[.val (.long p0), .second, .val (.int p1), .val (.int p2), .val (.int (3 : Int32)), .val (.int c0), .val (.int c1), .val (.int c2), .val (.ref ob155), .val (.int ln.toInt32), .val (.int co.toInt32), .val (.ref ob180), .val (.ref s2), .val (.int d1.toInt32), .val (.int d2.toInt32), .unset] [(.int (own_chr c1.toInt8))]))
    show Goes p e below _ (Tt202.setTop (mkF m 249 #[.val (.long p0), .second, .val (.int p1), .val (.int p2), .val (.int (3 : Int32)), .val (.int c0), .val (.int c1), .val (.int c2), .val (.ref ob155), .val (.int ln.toInt32), .val (.int co.toInt32), .val (.ref ob180), .val (.ref s2), .val (.int d1.toInt32), .val (.int d2.toInt32), .unset] [(.int (own_chr c1.toInt8))]))
    rw [own_lc qa1 qb1]
    show Goes p e below _ (Tt202.setTop (mkF m 249 #[.val (.long p0), .second, .val (.int p1), .val (.int p2), .val (.int (3 : Int32)), .val (.int c0), .val (.int c1), .val (.int c2), .val (.ref ob155), .val (.int ln.toInt32), .val (.int co.toInt32), .val (.ref ob180), .val (.ref s2), .val (.int d1.toInt32), .val (.int d2.toInt32), .unset] [(.int c1)]))
    refine gIload Xt202 hx (hb hby at_249) rfl ?_
    refine gIcmpN Xt202 hx (hb hby at_251) (XT.ii_ne_f rfl) ?_
    show Goes p e below _ (Tt202.setTop (mkF m 254 #[.val (.long p0), .second, .val (.int p1), .val (.int p2), .val (.int (3 : Int32)), .val (.int c0), .val (.int c1), .val (.int c2), .val (.ref ob155), .val (.int ln.toInt32), .val (.int co.toInt32), .val (.ref ob180), .val (.ref s2), .val (.int d1.toInt32), .val (.int d2.toInt32), .unset] []))
    refine gIload Xt202 hx (hb hby at_254) rfl ?_
    refine gIconst Xt202 hx (hb hby at_256) (v := (3 : Int32)) rfl ?_
    refine gIcmpN Xt202 hx (hb hby at_257) (XT.ii_lt_f (by decide)) ?_
    show Goes p e below _ (Tt202.setTop (mkF m 260 #[.val (.long p0), .second, .val (.int p1), .val (.int p2), .val (.int (3 : Int32)), .val (.int c0), .val (.int c1), .val (.int c2), .val (.ref ob155), .val (.int ln.toInt32), .val (.int co.toInt32), .val (.ref ob180), .val (.ref s2), .val (.int d1.toInt32), .val (.int d2.toInt32), .unset] []))
    refine gAload Xt202 hx (hb hby at_260) rfl rfl ?_
    refine gIconst Xt202 hx (hb hby at_262) (v := (2 : Int32)) rfl ?_
    show Goes p e below _ (Tt202.setTop (mkF m 263 #[.val (.long p0), .second, .val (.int p1), .val (.int p2), .val (.int (3 : Int32)), .val (.int c0), .val (.int c1), .val (.int c2), .val (.ref ob155), .val (.int ln.toInt32), .val (.int co.toInt32), .val (.ref ob180), .val (.ref s2), .val (.int d1.toInt32), .val (.int d2.toInt32), .unset] [(.int (2 : Nat).toInt32), (.ref s2)]))
    refine goCallV Xt202 hx hZ hown (hw _ (List.mem_of_getElem? (i := 200) rfl)) (hw _ (List.mem_of_getElem? (i := 201) rfl)) (hw _ (List.mem_of_getElem? (i := 203) rfl)) (hw _ (List.mem_of_getElem? (i := 202) rfl)) (hw _ (List.mem_of_getElem? (i := 4) rfl)) (hw _ (List.mem_of_getElem? (i := 204) rfl)) (by decide) (rmCa l Z a0 hw fm u9 sb 2 c2.toInt8 cs s2 ht186 O189 S_cs hcs S_fm rf Es2 Sv2 Sc2 Sy2 hlb (hpre 2 _ rfl)) 0 (by decide) (by decide) et202 Es2 (hsz rfl) [(.int (2 : Nat).toInt32)] [] pd_28 rfl rfl rfl (Nat.le_of_eq rfl) (hb hby at_263) (by decide) (by decide) (fun Tt205 vt205 Lt205 Xt205 qt205 => ?_)
    obtain ⟨rfl, N206, et205⟩ := qt205
    have N207 := Fr.app N204 N206
    show Goes p e below _ (Tt205.setTop (mkF m 266 #[.val (.long p0), .second, .val (.int p1), .val (.int p2), .val (.int (3 : Int32)), .val (.int c0), .val (.int c1), .val (.int c2), .val (.ref ob155), .val (.int ln.toInt32), .val (.int co.toInt32), .val (.ref ob180), .val (.ref s2), .val (.int d1.toInt32), .val (.int d2.toInt32), .unset] [(.int (own_chr c2.toInt8))]))
    show Goes p e below _ (Tt205.setTop (mkF m 266 #[.val (.long p0), .second, .val (.int p1), .val (.int p2), .val (.int (3 : Int32)), .val (.int c0), .val (.int c1), .val (.int c2), .val (.ref ob155), .val (.int ln.toInt32), .val (.int co.toInt32), .val (.ref ob180), .val (.ref s2), .val (.int d1.toInt32), .val (.int d2.toInt32), .unset] [(.int (own_chr c2.toInt8))]))
    rw [own_lc qa2 qb2]
    show Goes p e below _ (Tt205.setTop (mkF m 266 #[.val (.long p0), .second, .val (.int p1), .val (.int p2), .val (.int (3 : Int32)), .val (.int c0), .val (.int c1), .val (.int c2), .val (.ref ob155), .val (.int ln.toInt32), .val (.int co.toInt32), .val (.ref ob180), .val (.ref s2), .val (.int d1.toInt32), .val (.int d2.toInt32), .unset] [(.int c2)]))
    refine gIload Xt205 hx (hb hby at_266) rfl ?_
    refine gIcmpN Xt205 hx (hb hby at_268) (XT.ii_ne_f rfl) ?_
    show Goes p e below _ (Tt205.setTop (mkF m 271 #[.val (.long p0), .second, .val (.int p1), .val (.int p2), .val (.int (3 : Int32)), .val (.int c0), .val (.int c1), .val (.int c2), .val (.ref ob155), .val (.int ln.toInt32), .val (.int co.toInt32), .val (.ref ob180), .val (.ref s2), .val (.int d1.toInt32), .val (.int d2.toInt32), .unset] []))
    refine gIconst Xt205 hx (hb hby at_271) (v := (1 : Int32)) rfl ?_
    refine gGoto Xt205 hx (hb hby at_272) (pc' := 276) (by decide) (by decide) ?_
    show Goes p e below _ (Tt205.setTop (mkF m 276 #[.val (.long p0), .second, .val (.int p1), .val (.int p2), .val (.int (3 : Int32)), .val (.int c0), .val (.int c1), .val (.int c2), .val (.ref ob155), .val (.int ln.toInt32), .val (.int co.toInt32), .val (.ref ob180), .val (.ref s2), .val (.int d1.toInt32), .val (.int d2.toInt32), .unset] [(.int (1 : Int32))]))
    refine gIstore Xt205 hx (hb hby at_276) (l' := #[.val (.long p0), .second, .val (.int p1), .val (.int p2), .val (.int (3 : Int32)), .val (.int c0), .val (.int c1), .val (.int c2), .val (.ref ob155), .val (.int ln.toInt32), .val (.int co.toInt32), .val (.ref ob180), .val (.ref s2), .val (.int d1.toInt32), .val (.int d2.toInt32), .val (.int (1 : Int32))]) rfl ?_
    refine gIload Xt205 hx (hb hby at_278) rfl ?_
    refine gIfN Xt205 hx (hb hby at_280) (XT.i0_eq_f (by decide)) ?_
    show Goes p e below _ (Tt205.setTop (mkF m 283 #[.val (.long p0), .second, .val (.int p1), .val (.int p2), .val (.int (3 : Int32)), .val (.int c0), .val (.int c1), .val (.int c2), .val (.ref ob155), .val (.int ln.toInt32), .val (.int co.toInt32), .val (.ref ob180), .val (.ref s2), .val (.int d1.toInt32), .val (.int d2.toInt32), .val (.int (1 : Int32))] []))
    refine gAload Xt205 hx (hb hby at_283) rfl rfl ?_
    refine gIload Xt205 hx (hb hby at_285) rfl ?_
    show Goes p e below _ (Tt205.setTop (mkF m 287 #[.val (.long p0), .second, .val (.int p1), .val (.int p2), .val (.int (3 : Int32)), .val (.int c0), .val (.int c1), .val (.int c2), .val (.ref ob155), .val (.int ln.toInt32), .val (.int co.toInt32), .val (.ref ob180), .val (.ref s2), .val (.int d1.toInt32), .val (.int d2.toInt32), .val (.int (1 : Int32))] [(.int (3 : Nat).toInt32), (.ref s2)]))
    refine goCallV Xt205 hx hZ hown (hw _ (List.mem_of_getElem? (i := 200) rfl)) (hw _ (List.mem_of_getElem? (i := 201) rfl)) (hw _ (List.mem_of_getElem? (i := 203) rfl)) (hw _ (List.mem_of_getElem? (i := 202) rfl)) (hw _ (List.mem_of_getElem? (i := 4) rfl)) (hw _ (List.mem_of_getElem? (i := 204) rfl)) (by decide) (rmCa l Z a0 hw fm u9 sb 3 (58 : Int8) cs s2 ht186 O189 S_cs hcs S_fm rf Es2 Sv2 Sc2 Sy2 hlb hk1) 0 (by decide) (by decide) et205 Es2 (hsz rfl) [(.int (3 : Nat).toInt32)] [] pd_28 rfl rfl rfl (Nat.le_of_eq rfl) (hb hby at_287) (by decide) (by decide) (fun Tt208 vt208 Lt208 Xt208 qt208 => ?_)
    obtain ⟨rfl, N209, et208⟩ := qt208
    have N210 := Fr.app N207 N209
    show Goes p e below _ (Tt208.setTop (mkF m 290 #[.val (.long p0), .second, .val (.int p1), .val (.int p2), .val (.int (3 : Int32)), .val (.int c0), .val (.int c1), .val (.int c2), .val (.ref ob155), .val (.int ln.toInt32), .val (.int co.toInt32), .val (.ref ob180), .val (.ref s2), .val (.int d1.toInt32), .val (.int d2.toInt32), .val (.int (1 : Int32))] [(.int (own_chr (58 : Int8)))]))
    refine gBipush Xt208 hx (hb hby at_290) (v := (58 : Int32)) rfl ?_
    refine gIcmpN Xt208 hx (hb hby at_292) (XT.ii_ne_f (by decide)) ?_
    show Goes p e below _ (Tt208.setTop (mkF m 295 #[.val (.long p0), .second, .val (.int p1), .val (.int p2), .val (.int (3 : Int32)), .val (.int c0), .val (.int c1), .val (.int c2), .val (.ref ob155), .val (.int ln.toInt32), .val (.int co.toInt32), .val (.ref ob180), .val (.ref s2), .val (.int d1.toInt32), .val (.int d2.toInt32), .val (.int (1 : Int32))] []))
    refine gAload Xt208 hx (hb hby at_295) rfl rfl ?_
    refine gIload Xt208 hx (hb hby at_297) rfl ?_
    refine gIconst Xt208 hx (hb hby at_299) (v := (1 : Int32)) rfl ?_
    refine gIadd Xt208 hx (hb hby at_300) ?_
    show Goes p e below _ (Tt208.setTop (mkF m 301 #[.val (.long p0), .second, .val (.int p1), .val (.int p2), .val (.int (3 : Int32)), .val (.int c0), .val (.int c1), .val (.int c2), .val (.ref ob155), .val (.int ln.toInt32), .val (.int co.toInt32), .val (.ref ob180), .val (.ref s2), .val (.int d1.toInt32), .val (.int d2.toInt32), .val (.int (1 : Int32))] [(.int (4 : Nat).toInt32), (.ref s2)]))
    refine gIload Xt208 hx (hb hby at_301) rfl ?_
    refine gIload Xt208 hx (hb hby at_303) rfl ?_
    refine goCallS Xt208 hx hZ hown (hw _ (List.mem_of_getElem? (i := 222) rfl)) (hw _ (List.mem_of_getElem? (i := 223) rfl)) (hw _ (List.mem_of_getElem? (i := 197) rfl)) (hw _ (List.mem_of_getElem? (i := 224) rfl)) (by decide) (rmNu l Z a0 hw fm s2 u9 sb ln d1 4 cs ht186 O189 S_cs hcs S_fm rf Es2 Sv2 Sc2 Sy2 hlb hl2 h110 (by omega) hdA) 0 (by decide) (by decide) et208 (hsz rfl) [(.ref s2), (.int (4 : Nat).toInt32), (.int ln.toInt32), (.int d1.toInt32)] [] pd_37 rfl rfl rfl (Nat.le_of_eq rfl) (hb hby at_305) (by decide) (by decide) (fun Tt211 vt211 Lt211 Xt211 qt211 => ?_)
    obtain ⟨rfl, N212, et211⟩ := qt211
    have N213 := Fr.app N210 N212
    show Goes p e below _ (Tt211.setTop (mkF m 308 #[.val (.long p0), .second, .val (.int p1), .val (.int p2), .val (.int (3 : Int32)), .val (.int c0), .val (.int c1), .val (.int c2), .val (.ref ob155), .val (.int ln.toInt32), .val (.int co.toInt32), .val (.ref ob180), .val (.ref s2), .val (.int d1.toInt32), .val (.int d2.toInt32), .val (.int (1 : Int32))] [(.int (1 : Int32))]))
    refine gIfN Xt211 hx (hb hby at_308) (XT.i0_eq_f (by decide)) ?_
    show Goes p e below _ (Tt211.setTop (mkF m 311 #[.val (.long p0), .second, .val (.int p1), .val (.int p2), .val (.int (3 : Int32)), .val (.int c0), .val (.int c1), .val (.int c2), .val (.ref ob155), .val (.int ln.toInt32), .val (.int co.toInt32), .val (.ref ob180), .val (.ref s2), .val (.int d1.toInt32), .val (.int d2.toInt32), .val (.int (1 : Int32))] []))
    refine gAload Xt211 hx (hb hby at_311) rfl rfl ?_
    refine gIload Xt211 hx (hb hby at_313) rfl ?_
    refine gIconst Xt211 hx (hb hby at_315) (v := (1 : Int32)) rfl ?_
    refine gIadd Xt211 hx (hb hby at_316) ?_
    show Goes p e below _ (Tt211.setTop (mkF m 317 #[.val (.long p0), .second, .val (.int p1), .val (.int p2), .val (.int (3 : Int32)), .val (.int c0), .val (.int c1), .val (.int c2), .val (.ref ob155), .val (.int ln.toInt32), .val (.int co.toInt32), .val (.ref ob180), .val (.ref s2), .val (.int d1.toInt32), .val (.int d2.toInt32), .val (.int (1 : Int32))] [(.int (4 : Nat).toInt32), (.ref s2)]))
    refine gIload Xt211 hx (hb hby at_317) rfl ?_
    refine gIadd Xt211 hx (hb hby at_319) ?_
    show Goes p e below _ (Tt211.setTop (mkF m 320 #[.val (.long p0), .second, .val (.int p1), .val (.int p2), .val (.int (3 : Int32)), .val (.int c0), .val (.int c1), .val (.int c2), .val (.ref ob155), .val (.int ln.toInt32), .val (.int co.toInt32), .val (.ref ob180), .val (.ref s2), .val (.int d1.toInt32), .val (.int d2.toInt32), .val (.int (1 : Int32))] [(.int ((4 : Nat).toInt32 + d1.toInt32)), (.ref s2)]))
    rw [own_addn (by omega)]
    show Goes p e below _ (Tt211.setTop (mkF m 320 #[.val (.long p0), .second, .val (.int p1), .val (.int p2), .val (.int (3 : Int32)), .val (.int c0), .val (.int c1), .val (.int c2), .val (.ref ob155), .val (.int ln.toInt32), .val (.int co.toInt32), .val (.ref ob180), .val (.ref s2), .val (.int d1.toInt32), .val (.int d2.toInt32), .val (.int (1 : Int32))] [(.int (4 + d1).toInt32), (.ref s2)]))
    refine goCallV Xt211 hx hZ hown (hw _ (List.mem_of_getElem? (i := 200) rfl)) (hw _ (List.mem_of_getElem? (i := 201) rfl)) (hw _ (List.mem_of_getElem? (i := 203) rfl)) (hw _ (List.mem_of_getElem? (i := 202) rfl)) (hw _ (List.mem_of_getElem? (i := 4) rfl)) (hw _ (List.mem_of_getElem? (i := 204) rfl)) (by decide) (rmCa l Z a0 hw fm u9 sb (4 + d1) (58 : Int8) cs s2 ht186 O189 S_cs hcs S_fm rf Es2 Sv2 Sc2 Sy2 hlb hk2) 0 (by decide) (by decide) et211 Es2 (hsz rfl) [(.int (4 + d1).toInt32)] [] pd_28 rfl rfl rfl (Nat.le_of_eq rfl) (hb hby at_320) (by decide) (by decide) (fun Tt214 vt214 Lt214 Xt214 qt214 => ?_)
    obtain ⟨rfl, N215, et214⟩ := qt214
    have N216 := Fr.app N213 N215
    show Goes p e below _ (Tt214.setTop (mkF m 323 #[.val (.long p0), .second, .val (.int p1), .val (.int p2), .val (.int (3 : Int32)), .val (.int c0), .val (.int c1), .val (.int c2), .val (.ref ob155), .val (.int ln.toInt32), .val (.int co.toInt32), .val (.ref ob180), .val (.ref s2), .val (.int d1.toInt32), .val (.int d2.toInt32), .val (.int (1 : Int32))] [(.int (own_chr (58 : Int8)))]))
    refine gBipush Xt214 hx (hb hby at_323) (v := (58 : Int32)) rfl ?_
    refine gIcmpN Xt214 hx (hb hby at_325) (XT.ii_ne_f (by decide)) ?_
    show Goes p e below _ (Tt214.setTop (mkF m 328 #[.val (.long p0), .second, .val (.int p1), .val (.int p2), .val (.int (3 : Int32)), .val (.int c0), .val (.int c1), .val (.int c2), .val (.ref ob155), .val (.int ln.toInt32), .val (.int co.toInt32), .val (.ref ob180), .val (.ref s2), .val (.int d1.toInt32), .val (.int d2.toInt32), .val (.int (1 : Int32))] []))
    refine gAload Xt214 hx (hb hby at_328) rfl rfl ?_
    refine gIload Xt214 hx (hb hby at_330) rfl ?_
    refine gIconst Xt214 hx (hb hby at_332) (v := (2 : Int32)) rfl ?_
    refine gIadd Xt214 hx (hb hby at_333) ?_
    show Goes p e below _ (Tt214.setTop (mkF m 334 #[.val (.long p0), .second, .val (.int p1), .val (.int p2), .val (.int (3 : Int32)), .val (.int c0), .val (.int c1), .val (.int c2), .val (.ref ob155), .val (.int ln.toInt32), .val (.int co.toInt32), .val (.ref ob180), .val (.ref s2), .val (.int d1.toInt32), .val (.int d2.toInt32), .val (.int (1 : Int32))] [(.int (5 : Nat).toInt32), (.ref s2)]))
    refine gIload Xt214 hx (hb hby at_334) rfl ?_
    refine gIadd Xt214 hx (hb hby at_336) ?_
    show Goes p e below _ (Tt214.setTop (mkF m 337 #[.val (.long p0), .second, .val (.int p1), .val (.int p2), .val (.int (3 : Int32)), .val (.int c0), .val (.int c1), .val (.int c2), .val (.ref ob155), .val (.int ln.toInt32), .val (.int co.toInt32), .val (.ref ob180), .val (.ref s2), .val (.int d1.toInt32), .val (.int d2.toInt32), .val (.int (1 : Int32))] [(.int ((5 : Nat).toInt32 + d1.toInt32)), (.ref s2)]))
    rw [own_addn (by omega)]
    show Goes p e below _ (Tt214.setTop (mkF m 337 #[.val (.long p0), .second, .val (.int p1), .val (.int p2), .val (.int (3 : Int32)), .val (.int c0), .val (.int c1), .val (.int c2), .val (.ref ob155), .val (.int ln.toInt32), .val (.int co.toInt32), .val (.ref ob180), .val (.ref s2), .val (.int d1.toInt32), .val (.int d2.toInt32), .val (.int (1 : Int32))] [(.int (5 + d1).toInt32), (.ref s2)]))
    refine gIload Xt214 hx (hb hby at_337) rfl ?_
    refine gIload Xt214 hx (hb hby at_339) rfl ?_
    refine goCallS Xt214 hx hZ hown (hw _ (List.mem_of_getElem? (i := 222) rfl)) (hw _ (List.mem_of_getElem? (i := 223) rfl)) (hw _ (List.mem_of_getElem? (i := 197) rfl)) (hw _ (List.mem_of_getElem? (i := 224) rfl)) (by decide) (rmNu l Z a0 hw fm s2 u9 sb co d2 (5 + d1) cs ht186 O189 S_cs hcs S_fm rf Es2 Sv2 Sc2 Sy2 hlb hc2 h210 (by omega) hdB) 0 (by decide) (by decide) et214 (hsz rfl) [(.ref s2), (.int (5 + d1).toInt32), (.int co.toInt32), (.int d2.toInt32)] [] pd_37 rfl rfl rfl (Nat.le_of_eq rfl) (hb hby at_341) (by decide) (by decide) (fun Tt217 vt217 Lt217 Xt217 qt217 => ?_)
    obtain ⟨rfl, N218, et217⟩ := qt217
    have N219 := Fr.app N216 N218
    show Goes p e below _ (Tt217.setTop (mkF m 344 #[.val (.long p0), .second, .val (.int p1), .val (.int p2), .val (.int (3 : Int32)), .val (.int c0), .val (.int c1), .val (.int c2), .val (.ref ob155), .val (.int ln.toInt32), .val (.int co.toInt32), .val (.ref ob180), .val (.ref s2), .val (.int d1.toInt32), .val (.int d2.toInt32), .val (.int (1 : Int32))] [(.int (1 : Int32))]))
    refine gIfN Xt217 hx (hb hby at_344) (XT.i0_eq_f (by decide)) ?_
    show Goes p e below _ (Tt217.setTop (mkF m 347 #[.val (.long p0), .second, .val (.int p1), .val (.int p2), .val (.int (3 : Int32)), .val (.int c0), .val (.int c1), .val (.int c2), .val (.ref ob155), .val (.int ln.toInt32), .val (.int co.toInt32), .val (.ref ob180), .val (.ref s2), .val (.int d1.toInt32), .val (.int d2.toInt32), .val (.int (1 : Int32))] []))
    refine gIconst Xt217 hx (hb hby at_347) (v := (1 : Int32)) rfl ?_
    refine gGoto Xt217 hx (hb hby at_348) (pc' := 352) (by decide) (by decide) ?_
    show Goes p e below _ (Tt217.setTop (mkF m 352 #[.val (.long p0), .second, .val (.int p1), .val (.int p2), .val (.int (3 : Int32)), .val (.int c0), .val (.int c1), .val (.int c2), .val (.ref ob155), .val (.int ln.toInt32), .val (.int co.toInt32), .val (.ref ob180), .val (.ref s2), .val (.int d1.toInt32), .val (.int d2.toInt32), .val (.int (1 : Int32))] [(.int (1 : Int32))]))
    exact goRetNW Xt217 hx hS (t := .boolean) hret hlocks (by simp) (hb hby at_352) (z' := (1 : Int32)) rfl (by decide) (by decide) et217 (⟨rfl, N219⟩)
set_option maxRecDepth 65536 in
set_option maxHeartbeats 40000000 in
theorem comes_1 {Post : Tables → Env → Array Value → State → Outcome → State → Prop} (hpost : ∀ tb e args s v u, (limb_1_1.after args s (.returned v) u = true ∧ limb_1_2.after args s (.returned v) u = true ∧ True) → ReturnedEndW s (.returned v) u (Jvm.fieldLocs frame_1_writes args s ++ Jvm.arrayLocs frame_1_arrays args s ++ Jvm.staticLocs frame_1_statics s) 32 3392 → Post tb e args s (.returned v) u) :
    ArmFor flags0 classFile x code maxLocals ret World_1 tables_1 room_1 Calls_1 rest_1 Pre_1 Post := by
  intro l hfl _ _ p e ha hc hk s m args below hf hA hF happ hP
  obtain ⟨hcalls, hrest, hpre⟩ := hP
  obtain ⟨-, -, -, hnamed, -, -, -, hat⟩ := (Spec.applies_iff hf).mp happ
  obtain ⟨hg, hn⟩ := and_e (Cond.before_iff.mp (show (Jvm.Cond.and given_1 narrow_1).before args s = true from hpre))
  obtain ⟨hc0, r0⟩ := and_e hg
  obtain ⟨c0, r1⟩ := and_e r0
  obtain ⟨c1, r2⟩ := and_e r1
  have c2 := r2
  obtain ⟨w0, w1, w2, rfl⟩ : ∃ w0 w1 w2 : Value, args = #[w0, w1, w2] := by
    have hs : args.size = 3 := by simpa [Cond.value, given_1] using hc0
    obtain ⟨L⟩ := args
    match L, hs with
    | [w0, w1, w2], _ => exact ⟨w0, w1, w2, rfl⟩
  have hw := fun d (hd : d ∈ tables_1) => atoms_spec (ws := Jvm.Cond.code x code maxLocals ret :: tables_1) hat d (List.mem_cons_of_mem _ hd)
  obtain ⟨hsets, hown0⟩ := atoms_of _ (rest_1_c_eq ▸ (show rest_1_c.before _ s = true from hrest))
  have hfit : Fit s := fun {y c} hc i hi => by
    obtain ⟨ha, rfl⟩ := Array.getElem?_eq_some_iff.mp hc
    have q := List.all_eq_true.mp ((Array.all_eq_true_iff_forall_mem.mp hF) _ (Array.getElem_mem ha)) i (List.mem_range.mpr hi)
    simpa [Array.getElem?_eq_getElem hi] using q
  obtain ⟨x0, y0⟩ := isL_v c0
  obtain rfl : w0 = (.long x0) := Option.some.inj y0
  obtain ⟨x1, y1⟩ := is_v c1
  obtain rfl : w1 = (.int x1) := Option.some.inj y1
  obtain ⟨x2, y2⟩ := is_v c2
  obtain rfl : w2 = (.int x2) := Option.some.inj y2
  have n5 := not_v (Cond.before_iff.mp (hsets _ (List.mem_of_getElem? (i := 2) rfl)))
  obtain ⟨cs, e10⟩ := is_v (Cond.before_iff.mp (hsets _ (List.mem_of_getElem? (i := 1) rfl)))
  have S_cs : Sta s s.heap "java/lang/String" "COMPACT_STRINGS" "Z" (.int cs) := Sta.start e10 (Or.inl (hsets _ (List.mem_of_getElem? (i := 0) rfl)))
  have hcs : ¬ (cs = (0 : Int32)) := gotF (Cond.eq_ints e10 (Term.int_eval (0))) n5
  have hcw : Jvm.Lit.compactW.before _ s = true := hsets _ (List.mem_of_getElem? (i := 2) rfl)
  obtain ⟨fm, ef, rf⟩ := isR_v (Cond.before_iff.mp (hsets _ (List.mem_of_getElem? (i := 8) rfl)))
  have S_fm : Sta s s.heap "jdk/internal/util/Preconditions" "SIOOBE_FORMATTER" "Ljava/util/function/BiFunction;" fm := Sta.start ef (Or.inl (hsets _ (List.mem_of_getElem? (i := 7) rfl)))
  obtain ⟨o1, eo1⟩ := exa_v (Cond.before_iff.mp (hsets _ (List.mem_of_getElem? (i := 12) rfl)))
  have S_o : Sta s s.heap "java/lang/Integer" "DigitOnes" "[B" (.ref o1) := Sta.start eo1 (Or.inl (hsets _ (List.mem_of_getElem? (i := 11) rfl)))
  have Yo : Ary s s.heap o1 .byte (own_bv own_on) := own_tab (fun idx => eo1) (Cond.before_iff.mp (hsets _ (List.mem_of_getElem? (i := 12) rfl))) (hw _ (List.mem_of_getElem? (i := 21) rfl)) (eqI_v (Cond.before_iff.mp (hsets _ (List.mem_of_getElem? (i := 13) rfl)))) (Cond.before_iff.mp (hsets _ (List.mem_of_getElem? (i := 14) rfl))) (fun i hi => (Term.add_int (Term.int_eval (48)) (rem_f (x := i.toInt32) (by simp [Term.eval]) (Term.int_eval (10)) (by decide))).trans (congrArg (fun z => some (Value.int z)) (own_hon i hi)))
  obtain ⟨o2, eo2⟩ := exa_v (Cond.before_iff.mp (hsets _ (List.mem_of_getElem? (i := 17) rfl)))
  have S_t : Sta s s.heap "java/lang/Integer" "DigitTens" "[B" (.ref o2) := Sta.start eo2 (Or.inl (hsets _ (List.mem_of_getElem? (i := 16) rfl)))
  have Yt : Ary s s.heap o2 .byte (own_bv own_te) := own_tab (fun idx => eo2) (Cond.before_iff.mp (hsets _ (List.mem_of_getElem? (i := 17) rfl))) (hw _ (List.mem_of_getElem? (i := 21) rfl)) (eqI_v (Cond.before_iff.mp (hsets _ (List.mem_of_getElem? (i := 18) rfl)))) (Cond.before_iff.mp (hsets _ (List.mem_of_getElem? (i := 19) rfl))) (fun i hi => (Term.add_int (Term.int_eval (48)) (div_f (x := i.toInt32) (by simp [Term.eval]) (Term.int_eval (10)) (by decide))).trans (congrArg (fun z => some (Value.int z)) (own_hte i hi)))
  have hh0 : Jvm.Lit.constHeld s "com/example/phal/phal/model/SourcePosition" 7 := hcalls.1 _ (List.mem_of_getElem? (i := 0) rfl)
  have hh1 : Jvm.Lit.constHeld s "com/example/phal/phal/model/SourcePosition" 29 := hcalls.1 _ (List.mem_of_getElem? (i := 1) rfl)
  have hh2 : Jvm.Lit.constHeld s "java/lang/String" 7 := hcalls.1 _ (List.mem_of_getElem? (i := 2) rfl)
  obtain ⟨n, o, h1, h2, h3, _, L, rfl, ⟨rfl, N⟩, hq⟩ := rm0 l s _ hw fm o1 o2 cs x0 x1 x2 s.heap ⟨Nat.le_refl _, fun _ _ q => q⟩ S_cs hcs S_fm rf S_o S_t Yo Yt Yo.lt Yt.lt hh0 hh1 hh2 hcw p e ha hc hk s m _ below hf ((Spec.applies_iff_loose hf).mp happ).1 ⟨rfl, State.Warmed39.refl s, rfl, IB.start⟩ trivial
  refine ⟨n, _, h1, h2, h3, hpost _ _ _ _ _ _ ⟨Cond.after_iff.mpr rfl, Cond.after_iff.mpr (eq_i res_at (Term.int_eval (1)) rfl), trivial⟩ ⟨hq.1, hq.2.1, hq.2.2.1, (hq.2.2.2.sift fun y hy => Or.inr (N y hy)).mono (by decide) (by decide)⟩⟩
theorem main_1_1 : Claimed_1_1 := comes_1 fun _ _ _ _ _ _ h hF => ⟨h.1, hF⟩
theorem main_1_2 : Claimed_1_2 := comes_1 fun _ _ _ _ _ _ h hF => ⟨h.2.1, hF⟩
end Jvm.Pilot.@@N@@
namespace Jvm.Pilot.@@N@@
open Jvm Jvm.ClassFile Sem Op Lib Jvm.Free Jvm.Stand Jvm.Pilot.@@N@@.Jvm.D
/-! MADE BY PROGRAM (witnessworld.py) out of the Statement's table words and the real class files: 30 classes; the members and pool entries that the words name. The judged class is class 1, her method 1. -/
namespace start1
open Jvm.ClassFile
def u (s : String) : CpInfo := .utf8 (stringToUtf16 s)
/-- a pool by its gaps: so many unusable entries, then the entry; so many at the end -/
def gap : Nat → List CpInfo → List CpInfo
  | 0, r => r
  | n + 1, r => .unusable :: gap n r
def poolList (es : List (Nat × CpInfo)) (last : Nat) : List CpInfo := es.foldr (fun e r => gap e.1 (e.2 :: r)) (gap last [])
def pool (es : List (Nat × CpInfo)) (last : Nat) : Array CpInfo := ⟨poolList es last⟩
def fileOf (pool : Array CpInfo) (this : Nat) (attrs : Array Attribute := #[]) (ms : Array MethodInfo := #[]) (fl : Nat := 33) (sup : Nat := 0) (ifs : Array Nat := #[]) (fds : Array FieldInfo := #[]) : ClassFile where
  minorVersion := 0
  majorVersion := 65
  constantPool := pool
  accessFlags := fl
  thisClass := this
  superClass := sup
  interfaces := ifs
  fields := fds
  methods := ms
  attributes := attrs
def plain (name : String) (sup : Option ClassId) : Class where
  name := name
  kind := .ordinary
  loader := none
  accessFlags := 33
  super := sup
  interfaces := #[]
  cf := none
  fields := #[]
  methods := #[]
  instanceTypes := #[]
  staticTypes := #[]
  resolved := #[]
  callSites := []
  init := .initialized
  statics := none
  mirror := none

def pool0 : Array CpInfo := pool [(5, u "<init>"), (0, u "()V"), (1, .class_ 10), (1, u "java/lang/Object"), (85, u "clone"), (0, u "()Ljava/lang/Object;")] 26

def k0c0 : Code := { maxStack := 0, maxLocals := 1, code := object_method_1_code, exceptionTable := #[], attributes := #[] }
def k0m0 : Method := { name := "<init>", desc := "()V", sig := { parameters := [], returnType := none }, accessFlags := 1, code := some k0c0 }
def k0m1 : Method := { name := "clone", desc := "()Ljava/lang/Object;", sig := { parameters := [], returnType := some (.object "java/lang/Object") }, accessFlags := 260, code := none }
/-- java/lang/Object -/
def k0 : Class := { plain "java/lang/Object" none with
  accessFlags := 33
  interfaces := #[]
  cf := some (fileOf pool0 8 #[] #[{ accessFlags := 1, nameIndex := 5, descriptorIndex := 6, attributes := #[] }, { accessFlags := 260, nameIndex := 96, descriptorIndex := 97, attributes := #[] }] 33 0 #[] #[])
  fields := #[]
  methods := #[k0m0, k0m1]
  instanceTypes := #[]
  staticTypes := #[]
  resolved := Array.replicate 124 none
  statics := none }

def pool1 : Array CpInfo := pool [(2, .class_ 4), (1, u "java/lang/Object"), (0, u "<init>"), (0, u "()V"), (0, .long 3), (1, .long 255), (1, .class_ 12), (0, u "java/lang/String"), (0, .methodref 11 14), (0, .nameAndType 5 15), (0, u "([C)V"), (0, .methodref 11 17), (0, .nameAndType 18 19), (0, u "valueOf"), (0, u "(C)Ljava/lang/String;"), (0, .integer 2147483647), (0, .methodref 22 23), (0, .class_ 24), (0, .nameAndType 25 26), (0, u "java/lang/Math"), (0, u "max"), (0, u "(II)I"), (0, .class_ 28), (0, u "com/example/phal/phal/model/SourcePosition"), (0, .methodref 27 30), (0, .nameAndType 5 31), (0, u "(Ljava/lang/String;II)V"), (0, .methodref 27 33), (0, .nameAndType 34 35), (0, u "toString"), (0, u "()Ljava/lang/String;"), (0, .methodref 37 38), (0, .class_ 39), (0, .nameAndType 40 41), (0, u "com/example/phal/phal/model/SourcePositionToStringPinLaw"), (0, u "digits"), (0, u "(I)I"), (0, .methodref 11 43), (0, .nameAndType 44 45), (0, u "length"), (0, u "()I"), (0, .methodref 11 47), (0, .nameAndType 48 49), (0, u "charAt"), (0, u "(I)C"), (0, .methodref 37 51), (0, .nameAndType 52 53), (0, u "number"), (0, u "(Ljava/lang/String;III)Z"), (0, .integer 100000), (0, .integer 1000000), (0, .integer 10000000), (0, .integer 100000000), (0, .integer 1000000000), (0, .methodref 37 60), (0, .nameAndType 61 41), (0, u "pow10"), (0, .methodref 37 63), (0, .nameAndType 64 65), (0, u "digitAt"), (0, u "(Ljava/lang/String;IIII)Z"), (2, u "law"), (0, u "(JII)Z")] 3

def k1m0 : Method := { name := "<init>", desc := "()V", sig := { parameters := [], returnType := none }, accessFlags := 1, code := none }
def k1c1 : Code := { maxStack := 6, maxLocals := 16, code := code, exceptionTable := #[], attributes := #[] }
def k1m1 : Method := { name := "law", desc := "(JII)Z", sig := { parameters := [.long, .int, .int], returnType := some .boolean }, accessFlags := 9, code := some k1c1 }
def k1c2 : Code := { maxStack := 2, maxLocals := 1, code := method_3_code, exceptionTable := #[], attributes := #[] }
def k1m2 : Method := { name := "digits", desc := "(I)I", sig := { parameters := [.int], returnType := some .int }, accessFlags := 10, code := some k1c2 }
def k1c3 : Code := { maxStack := 2, maxLocals := 1, code := method_4_code, exceptionTable := #[], attributes := #[] }
def k1m3 : Method := { name := "pow10", desc := "(I)I", sig := { parameters := [.int], returnType := some .int }, accessFlags := 10, code := some k1c3 }
def k1c4 : Code := { maxStack := 3, maxLocals := 6, code := method_5_code, exceptionTable := #[], attributes := #[] }
def k1m4 : Method := { name := "digitAt", desc := "(Ljava/lang/String;IIII)Z", sig := { parameters := [(.object "java/lang/String"), .int, .int, .int, .int], returnType := some .boolean }, accessFlags := 10, code := some k1c4 }
def k1c5 : Code := { maxStack := 5, maxLocals := 4, code := method_6_code, exceptionTable := #[], attributes := #[] }
def k1m5 : Method := { name := "number", desc := "(Ljava/lang/String;III)Z", sig := { parameters := [(.object "java/lang/String"), .int, .int, .int], returnType := some .boolean }, accessFlags := 10, code := some k1c5 }
/-- com/example/phal/phal/model/SourcePositionToStringPinLaw -/
def k1 : Class := { plain "com/example/phal/phal/model/SourcePositionToStringPinLaw" (some 0) with
  accessFlags := 49
  interfaces := #[]
  cf := some (fileOf pool1 37 #[] #[{ accessFlags := 1, nameIndex := 5, descriptorIndex := 6, attributes := #[] }, { accessFlags := 9, nameIndex := 68, descriptorIndex := 69, attributes := #[] }, { accessFlags := 10, nameIndex := 40, descriptorIndex := 41, attributes := #[] }, { accessFlags := 10, nameIndex := 61, descriptorIndex := 41, attributes := #[] }, { accessFlags := 10, nameIndex := 64, descriptorIndex := 65, attributes := #[] }, { accessFlags := 10, nameIndex := 52, descriptorIndex := 53, attributes := #[] }] 49 2 #[] #[])
  fields := #[]
  methods := #[k1m0, k1m1, k1m2, k1m3, k1m4, k1m5]
  instanceTypes := #[]
  staticTypes := #[]
  resolved := Array.replicate 73 none
  statics := none }

def pool2 : Array CpInfo := pool [(1, .class_ 2), (0, u "java/io/Serializable"), (0, .class_ 4), (0, u "java/lang/Object")] 2

/-- java/io/Serializable -/
def k2 : Class := { plain "java/io/Serializable" (some 0) with
  accessFlags := 1537
  interfaces := #[]
  cf := some (fileOf pool2 1 #[] #[] 1537 3 #[] #[])
  fields := #[]
  methods := #[]
  instanceTypes := #[]
  staticTypes := #[]
  resolved := Array.replicate 7 none
  statics := none }

def pool3 : Array CpInfo := pool [(1, .class_ 2), (0, u "java/lang/Comparable"), (0, .class_ 4), (0, u "java/lang/Object")] 7

/-- java/lang/Comparable -/
def k3 : Class := { plain "java/lang/Comparable" (some 0) with
  accessFlags := 1537
  interfaces := #[]
  cf := some (fileOf pool3 1 #[] #[] 1537 3 #[] #[])
  fields := #[]
  methods := #[]
  instanceTypes := #[]
  staticTypes := #[]
  resolved := Array.replicate 12 none
  statics := none }

def pool4 : Array CpInfo := pool [(2, .class_ 4), (1, u "java/lang/CharSequence"), (42, .class_ 48), (0, u "java/lang/CharSequence$1CodePointIterator"), (10, .class_ 60), (0, u "java/lang/CharSequence$1CharIterator"), (5, .class_ 67), (0, u "java/lang/Object")] 63

/-- java/lang/CharSequence -/
def k4 : Class := { plain "java/lang/CharSequence" (some 0) with
  accessFlags := 1537
  interfaces := #[]
  cf := some (fileOf pool4 2 #[.nestMembers #[47, 59]] #[] 1537 66 #[] #[])
  fields := #[]
  methods := #[]
  instanceTypes := #[]
  staticTypes := #[]
  resolved := Array.replicate 131 none
  statics := none }

def pool5 : Array CpInfo := pool [(1, .class_ 2), (0, u "java/lang/constant/Constable"), (0, .class_ 4), (0, u "java/lang/Object")] 6

/-- java/lang/constant/Constable -/
def k5 : Class := { plain "java/lang/constant/Constable" (some 0) with
  accessFlags := 1537
  interfaces := #[]
  cf := some (fileOf pool5 1 #[] #[] 1537 3 #[] #[])
  fields := #[]
  methods := #[]
  instanceTypes := #[]
  staticTypes := #[]
  resolved := Array.replicate 11 none
  statics := none }

def pool6 : Array CpInfo := pool [(1, .class_ 2), (0, u "java/lang/constant/ConstantDesc"), (0, .class_ 4), (0, u "java/lang/Object")] 32

/-- java/lang/constant/ConstantDesc -/
def k6 : Class := { plain "java/lang/constant/ConstantDesc" (some 0) with
  accessFlags := 1537
  interfaces := #[]
  cf := some (fileOf pool6 1 #[] #[] 1537 3 #[] #[])
  fields := #[]
  methods := #[]
  instanceTypes := #[]
  staticTypes := #[]
  resolved := Array.replicate 37 none
  statics := none }

def pool7 : Array CpInfo := pool [(1, .methodref 2 3), (0, .class_ 4), (0, .nameAndType 5 6), (0, u "java/lang/Object"), (0, u "<init>"), (0, u "()V"), (0, .string 8), (0, u ""), (0, .fieldref 10 11), (0, .class_ 12), (0, .nameAndType 13 14), (0, u "java/lang/String"), (0, u "value"), (0, u "[B"), (0, .fieldref 10 16), (0, .nameAndType 17 18), (0, u "coder"), (0, u "B"), (2, u "hash"), (0, u "I"), (2, u "hashIsZero"), (0, u "Z"), (0, .methodref 10 28), (0, .nameAndType 5 29), (0, u "([CIILjava/lang/Void;)V"), (8, .fieldref 10 39), (0, .nameAndType 40 26), (0, u "COMPACT_STRINGS"), (1, .class_ 44), (1, u "java/lang/StringUTF16"), (0, u "compress"), (1, .methodref 42 48), (0, .nameAndType 49 50), (0, u "coderFromArrayLen"), (0, u "([BI)B"), (2, u "toBytes"), (0, .methodref 55 56), (0, .class_ 57), (0, .nameAndType 58 59), (0, u "java/util/Arrays"), (0, u "copyOfRange"), (0, u "([BII)[B"), (47, .class_ 109), (1, u "java/lang/StringLatin1"), (32, u "()Z"), (34, .methodref 42 178), (0, .nameAndType 45 179), (0, u "([CII)[B"), (13, .class_ 195), (1, u "java/lang/System"), (13, .methodref 10 210), (0, .nameAndType 5 211), (0, u "([BB)V"), (0, .methodref 193 213), (0, .nameAndType 214 215), (0, u "arraycopy"), (0, u "(Ljava/lang/Object;ILjava/lang/Object;II)V"), (118, u "()I"), (0, .methodref 10 336), (0, .nameAndType 17 337), (0, u "()B"), (2, u "()[B"), (22, u "([BI)C"), (5, u "(C)Z"), (21, u "(II)V"), (35, u "(I)C"), (61, .methodref 10 490), (0, .nameAndType 5 491), (0, u "(Ljava/lang/AbstractStringBuilder;Ljava/lang/Void;)V"), (0, .methodref 10 493), (0, .nameAndType 494 142), (0, u "isLatin1"), (0, .methodref 107 496), (0, .nameAndType 497 363), (0, u "charAt"), (3, u "checkIndex"), (4, .nameAndType 507 334), (0, u "length"), (24, u "getBytes"), (16, .methodref 550 506), (0, .class_ 551), (0, u "java/lang/AbstractStringBuilder"), (0, .methodref 550 553), (0, .nameAndType 554 340), (0, u "getValue"), (20, .class_ 576), (0, u "java/lang/CharSequence"), (22, u "CASE_INSENSITIVE_ORDER"), (0, u "Ljava/util/Comparator;"), (181, u "valueOf"), (0, u "(C)Ljava/lang/String;"), (37, u "([BIB)V"), (188, u "([C)V"), (4, .methodref 107 1016), (0, .nameAndType 1017 369), (0, u "canEncode"), (0, .methodref 107 1019), (0, .nameAndType 53 1020), (0, u "(C)[B"), (26, .methodref 550 493), (5, .fieldref 1054 1055), (0, .class_ 1056), (0, .nameAndType 1057 1058), (0, u "jdk/internal/util/Preconditions"), (0, u "SIOOBE_FORMATTER"), (0, u "Ljava/util/function/BiFunction;"), (0, .methodref 1054 1060), (0, .nameAndType 501 1061), (0, u "(IILjava/util/function/BiFunction;)I"), (39, u "serialPersistentFields"), (0, u "[Ljava/io/ObjectStreamField;"), (0, .class_ 1104), (0, u "java/lang/String$CaseInsensitiveComparator"), (1, .class_ 1107), (0, u "java/io/Serializable"), (0, .class_ 1109), (0, u "java/lang/Comparable"), (0, .class_ 1111), (0, u "java/lang/constant/Constable"), (0, .class_ 1113), (0, u "java/lang/constant/ConstantDesc"), (2, u "serialVersionUID"), (0, u "J"), (3, u "REPL"), (0, u "C"), (2, u "LATIN1"), (1, u "UTF16"), (105, u "(Ljava/lang/StringBuilder;)V")] 217

def k7m0 : Method := { name := "<init>", desc := "()V", sig := { parameters := [], returnType := none }, accessFlags := 1, code := none }
def k7c1 : Code := { maxStack := 5, maxLocals := 2, code := jdk_42_method_3_code, exceptionTable := #[], attributes := #[] }
def k7m1 : Method := { name := "<init>", desc := "([C)V", sig := { parameters := [(.array .char)], returnType := none }, accessFlags := 1, code := some k7c1 }
def k7c2 : Code := { maxStack := 3, maxLocals := 2, code := jdk_42_method_53_code, exceptionTable := #[], attributes := #[] }
def k7m2 : Method := { name := "<init>", desc := "(Ljava/lang/StringBuilder;)V", sig := { parameters := [(.object "java/lang/StringBuilder")], returnType := none }, accessFlags := 1, code := some k7c2 }
def k7c3 : Code := { maxStack := 2, maxLocals := 1, code := jdk_42_method_54_code, exceptionTable := #[], attributes := #[] }
def k7m3 : Method := { name := "length", desc := "()I", sig := { parameters := [], returnType := some .int }, accessFlags := 1, code := some k7c3 }
def k7c4 : Code := { maxStack := 2, maxLocals := 2, code := jdk_42_method_56_code, exceptionTable := #[], attributes := #[] }
def k7m4 : Method := { name := "charAt", desc := "(I)C", sig := { parameters := [.int], returnType := some .char }, accessFlags := 1, code := some k7c4 }
def k7c5 : Code := { maxStack := 4, maxLocals := 1, code := jdk_42_method_139_code, exceptionTable := #[], attributes := #[] }
def k7m5 : Method := { name := "valueOf", desc := "(C)Ljava/lang/String;", sig := { parameters := [.char], returnType := some (.object "java/lang/String") }, accessFlags := 9, code := some k7c5 }
def k7c6 : Code := { maxStack := 5, maxLocals := 4, code := jdk_42_method_147_code, exceptionTable := #[], attributes := #[] }
def k7m6 : Method := { name := "getBytes", desc := "([BIB)V", sig := { parameters := [(.array .byte), .int, .byte], returnType := none }, accessFlags := 0, code := some k7c6 }
def k7c7 : Code := { maxStack := 4, maxLocals := 6, code := jdk_42_method_149_code, exceptionTable := #[], attributes := #[] }
def k7m7 : Method := { name := "<init>", desc := "([CIILjava/lang/Void;)V", sig := { parameters := [(.array .char), .int, .int, (.object "java/lang/Void")], returnType := none }, accessFlags := 2, code := some k7c7 }
def k7c8 : Code := { maxStack := 5, maxLocals := 5, code := jdk_42_method_150_code, exceptionTable := #[], attributes := #[] }
def k7m8 : Method := { name := "<init>", desc := "(Ljava/lang/AbstractStringBuilder;Ljava/lang/Void;)V", sig := { parameters := [(.object "java/lang/AbstractStringBuilder"), (.object "java/lang/Void")], returnType := none }, accessFlags := 0, code := some k7c8 }
def k7c9 : Code := { maxStack := 2, maxLocals := 3, code := jdk_42_method_151_code, exceptionTable := #[], attributes := #[] }
def k7m9 : Method := { name := "<init>", desc := "([BB)V", sig := { parameters := [(.array .byte), .byte], returnType := none }, accessFlags := 0, code := some k7c9 }
def k7c10 : Code := { maxStack := 1, maxLocals := 1, code := jdk_42_method_152_code, exceptionTable := #[], attributes := #[] }
def k7m10 : Method := { name := "coder", desc := "()B", sig := { parameters := [], returnType := some .byte }, accessFlags := 0, code := some k7c10 }
def k7c11 : Code := { maxStack := 1, maxLocals := 1, code := jdk_42_method_154_code, exceptionTable := #[], attributes := #[] }
def k7m11 : Method := { name := "isLatin1", desc := "()Z", sig := { parameters := [], returnType := some .boolean }, accessFlags := 0, code := some k7c11 }
def k7c12 : Code := { maxStack := 3, maxLocals := 2, code := jdk_42_method_155_code, exceptionTable := #[], attributes := #[] }
def k7m12 : Method := { name := "checkIndex", desc := "(II)V", sig := { parameters := [.int, .int], returnType := none }, accessFlags := 8, code := some k7c12 }
/-- java/lang/String -/
def k7 : Class := { plain "java/lang/String" (some 0) with
  accessFlags := 49
  interfaces := #[2, 3, 4, 5, 6]
  cf := some (fileOf pool7 10 #[.nestMembers #[1103]] #[{ accessFlags := 1, nameIndex := 5, descriptorIndex := 6, attributes := #[] }, { accessFlags := 1, nameIndex := 5, descriptorIndex := 1010, attributes := #[] }, { accessFlags := 1, nameIndex := 5, descriptorIndex := 1233, attributes := #[] }, { accessFlags := 1, nameIndex := 507, descriptorIndex := 334, attributes := #[] }, { accessFlags := 1, nameIndex := 497, descriptorIndex := 427, attributes := #[] }, { accessFlags := 9, nameIndex := 782, descriptorIndex := 783, attributes := #[] }, { accessFlags := 0, nameIndex := 532, descriptorIndex := 821, attributes := #[] }, { accessFlags := 2, nameIndex := 5, descriptorIndex := 29, attributes := #[] }, { accessFlags := 0, nameIndex := 5, descriptorIndex := 491, attributes := #[] }, { accessFlags := 0, nameIndex := 5, descriptorIndex := 211, attributes := #[] }, { accessFlags := 0, nameIndex := 17, descriptorIndex := 337, attributes := #[] }, { accessFlags := 0, nameIndex := 494, descriptorIndex := 142, attributes := #[] }, { accessFlags := 8, nameIndex := 501, descriptorIndex := 391, attributes := #[] }] 49 2 #[1106, 1108, 575, 1110, 1112] #[{ accessFlags := 18, nameIndex := 13, descriptorIndex := 14, attributes := #[] }, { accessFlags := 18, nameIndex := 17, descriptorIndex := 18, attributes := #[] }, { accessFlags := 2, nameIndex := 21, descriptorIndex := 22, attributes := #[] }, { accessFlags := 2, nameIndex := 25, descriptorIndex := 26, attributes := #[] }, { accessFlags := 26, nameIndex := 1116, descriptorIndex := 1117, attributes := #[] }, { accessFlags := 24, nameIndex := 40, descriptorIndex := 26, attributes := #[] }, { accessFlags := 26, nameIndex := 1101, descriptorIndex := 1102, attributes := #[] }, { accessFlags := 26, nameIndex := 1121, descriptorIndex := 1122, attributes := #[] }, { accessFlags := 25, nameIndex := 599, descriptorIndex := 600, attributes := #[] }, { accessFlags := 24, nameIndex := 1125, descriptorIndex := 18, attributes := #[] }, { accessFlags := 24, nameIndex := 1127, descriptorIndex := 18, attributes := #[] }])
  fields := #[{ name := "value", type := (.array .byte), accessFlags := 18, slot := 0, constantValue := 0 }, { name := "coder", type := .byte, accessFlags := 18, slot := 1, constantValue := 0 }, { name := "hash", type := .int, accessFlags := 2, slot := 2, constantValue := 0 }, { name := "hashIsZero", type := .boolean, accessFlags := 2, slot := 3, constantValue := 0 }, { name := "serialVersionUID", type := .long, accessFlags := 26, slot := 0, constantValue := 0 }, { name := "COMPACT_STRINGS", type := .boolean, accessFlags := 24, slot := 1, constantValue := 0 }, { name := "serialPersistentFields", type := (.array (.object "java/io/ObjectStreamField")), accessFlags := 26, slot := 2, constantValue := 0 }, { name := "REPL", type := .char, accessFlags := 26, slot := 3, constantValue := 0 }, { name := "CASE_INSENSITIVE_ORDER", type := (.object "java/util/Comparator"), accessFlags := 25, slot := 4, constantValue := 0 }, { name := "LATIN1", type := .byte, accessFlags := 24, slot := 5, constantValue := 0 }, { name := "UTF16", type := .byte, accessFlags := 24, slot := 6, constantValue := 0 }]
  methods := #[k7m0, k7m1, k7m2, k7m3, k7m4, k7m5, k7m6, k7m7, k7m8, k7m9, k7m10, k7m11, k7m12]
  instanceTypes := #[(.array .byte), .byte, .int, .boolean]
  staticTypes := #[.long, .boolean, (.array (.object "java/io/ObjectStreamField")), .char, (.object "java/util/Comparator"), .byte, .byte]
  resolved := Array.replicate 1451 none
  statics := some 0 }

def pool8 : Array CpInfo := pool [(6, .class_ 8), (1, u "java/lang/Object"), (0, u "<init>"), (0, u "()V"), (1, .class_ 14), (1, u "java/lang/StringUTF16"), (31, u "$assertionsDisabled"), (0, u "Z"), (13, u "HI_BYTE_SHIFT"), (0, u "I"), (2, u "LO_BYTE_SHIFT"), (49, .methodref 12 116), (0, .nameAndType 117 118), (0, u "compress"), (0, u "([CI[BII)I"), (3, u "([CII)[B"), (138, u "coderFromArrayLen"), (0, u "([BI)B"), (106, .class_ 371), (1, u "java/lang/StringUTF16$LinesSpliterator"), (58, u "MAX_LENGTH"), (196, .class_ 628), (0, u "java/lang/StringUTF16$CodePointsSpliterator"), (0, .class_ 630), (0, u "java/lang/StringUTF16$CharsSpliterator")] 4

def k8m0 : Method := { name := "<init>", desc := "()V", sig := { parameters := [], returnType := none }, accessFlags := 0, code := none }
def k8c1 : Code := { maxStack := 2, maxLocals := 2, code := jdk_52_method_15_code, exceptionTable := #[], attributes := #[] }
def k8m1 : Method := { name := "coderFromArrayLen", desc := "([BI)B", sig := { parameters := [(.array .byte), .int], returnType := some .byte }, accessFlags := 8, code := some k8c1 }
def k8c2 : Code := { maxStack := 5, maxLocals := 6, code := jdk_52_method_16_code, exceptionTable := #[], attributes := #[] }
def k8m2 : Method := { name := "compress", desc := "([CII)[B", sig := { parameters := [(.array .char), .int, .int], returnType := some (.array .byte) }, accessFlags := 9, code := some k8c2 }
def k8c3 : Code := { maxStack := 3, maxLocals := 7, code := jdk_52_method_21_code, exceptionTable := #[], attributes := #[] }
def k8m3 : Method := { name := "compress", desc := "([CI[BII)I", sig := { parameters := [(.array .char), .int, (.array .byte), .int, .int], returnType := some .int }, accessFlags := 9, code := some k8c3 }
/-- java/lang/StringUTF16 -/
def k8 : Class := { plain "java/lang/StringUTF16" (some 0) with
  accessFlags := 48
  interfaces := #[]
  cf := some (fileOf pool8 12 #[.nestMembers #[627, 629, 369]] #[{ accessFlags := 0, nameIndex := 9, descriptorIndex := 10, attributes := #[] }, { accessFlags := 8, nameIndex := 261, descriptorIndex := 262, attributes := #[] }, { accessFlags := 9, nameIndex := 117, descriptorIndex := 122, attributes := #[] }, { accessFlags := 9, nameIndex := 117, descriptorIndex := 118, attributes := #[] }] 48 6 #[] #[{ accessFlags := 26, nameIndex := 61, descriptorIndex := 62, attributes := #[] }, { accessFlags := 26, nameIndex := 65, descriptorIndex := 62, attributes := #[] }, { accessFlags := 24, nameIndex := 430, descriptorIndex := 62, attributes := #[] }, { accessFlags := 4120, nameIndex := 46, descriptorIndex := 47, attributes := #[] }])
  fields := #[{ name := "HI_BYTE_SHIFT", type := .int, accessFlags := 26, slot := 0, constantValue := 0 }, { name := "LO_BYTE_SHIFT", type := .int, accessFlags := 26, slot := 1, constantValue := 0 }, { name := "MAX_LENGTH", type := .int, accessFlags := 24, slot := 2, constantValue := 0 }, { name := "$assertionsDisabled", type := .boolean, accessFlags := 4120, slot := 3, constantValue := 0 }]
  methods := #[k8m0, k8m1, k8m2, k8m3]
  instanceTypes := #[]
  staticTypes := #[.int, .int, .int, .boolean]
  resolved := Array.replicate 635 none
  statics := none }

def pool9 : Array CpInfo := pool [(1, .class_ 2), (0, u "java/lang/Math"), (1, .class_ 6), (1, u "java/lang/Object"), (0, u "<init>"), (0, u "()V"), (89, .class_ 100), (1, u "java/lang/Math$RandomNumberGeneratorHolder"), (71, u "negativeZeroFloatBits"), (0, u "J"), (2, u "negativeZeroDoubleBits"), (21, u "max"), (2, u "min"), (43, u "$assertionsDisabled"), (0, u "Z"), (88, u "(II)I"), (2, u "twoToTheDoubleScaleDown"), (0, u "D"), (4, u "twoToTheDoubleScaleUp"), (9, u "E"), (3, u "PI"), (2, u "TAU"), (2, u "DEGREES_TO_RADIANS"), (0, u "RADIANS_TO_DEGREES")] 94

def k9m0 : Method := { name := "<init>", desc := "()V", sig := { parameters := [], returnType := none }, accessFlags := 2, code := none }
def k9c1 : Code := { maxStack := 2, maxLocals := 2, code := jdk_29_method_65_code, exceptionTable := #[], attributes := #[] }
def k9m1 : Method := { name := "max", desc := "(II)I", sig := { parameters := [.int, .int], returnType := some .int }, accessFlags := 9, code := some k9c1 }
def k9c2 : Code := { maxStack := 2, maxLocals := 2, code := jdk_29_method_69_code, exceptionTable := #[], attributes := #[] }
def k9m2 : Method := { name := "min", desc := "(II)I", sig := { parameters := [.int, .int], returnType := some .int }, accessFlags := 9, code := some k9c2 }
/-- java/lang/Math -/
def k9 : Class := { plain "java/lang/Math" (some 0) with
  accessFlags := 49
  interfaces := #[]
  cf := some (fileOf pool9 1 #[.nestMembers #[98]] #[{ accessFlags := 2, nameIndex := 7, descriptorIndex := 8, attributes := #[] }, { accessFlags := 9, nameIndex := 198, descriptorIndex := 335, attributes := #[] }, { accessFlags := 9, nameIndex := 201, descriptorIndex := 335, attributes := #[] }] 49 4 #[] #[{ accessFlags := 25, nameIndex := 354, descriptorIndex := 339, attributes := #[] }, { accessFlags := 25, nameIndex := 358, descriptorIndex := 339, attributes := #[] }, { accessFlags := 25, nameIndex := 361, descriptorIndex := 339, attributes := #[] }, { accessFlags := 26, nameIndex := 364, descriptorIndex := 339, attributes := #[] }, { accessFlags := 26, nameIndex := 365, descriptorIndex := 339, attributes := #[] }, { accessFlags := 26, nameIndex := 172, descriptorIndex := 173, attributes := #[] }, { accessFlags := 26, nameIndex := 176, descriptorIndex := 173, attributes := #[] }, { accessFlags := 8, nameIndex := 344, descriptorIndex := 339, attributes := #[] }, { accessFlags := 8, nameIndex := 338, descriptorIndex := 339, attributes := #[] }, { accessFlags := 4120, nameIndex := 245, descriptorIndex := 246, attributes := #[] }])
  fields := #[{ name := "E", type := .double, accessFlags := 25, slot := 0, constantValue := 0 }, { name := "PI", type := .double, accessFlags := 25, slot := 1, constantValue := 0 }, { name := "TAU", type := .double, accessFlags := 25, slot := 2, constantValue := 0 }, { name := "DEGREES_TO_RADIANS", type := .double, accessFlags := 26, slot := 3, constantValue := 0 }, { name := "RADIANS_TO_DEGREES", type := .double, accessFlags := 26, slot := 4, constantValue := 0 }, { name := "negativeZeroFloatBits", type := .long, accessFlags := 26, slot := 5, constantValue := 0 }, { name := "negativeZeroDoubleBits", type := .long, accessFlags := 26, slot := 6, constantValue := 0 }, { name := "twoToTheDoubleScaleUp", type := .double, accessFlags := 8, slot := 7, constantValue := 0 }, { name := "twoToTheDoubleScaleDown", type := .double, accessFlags := 8, slot := 8, constantValue := 0 }, { name := "$assertionsDisabled", type := .boolean, accessFlags := 4120, slot := 9, constantValue := 0 }]
  methods := #[k9m0, k9m1, k9m2]
  instanceTypes := #[]
  staticTypes := #[.double, .double, .double, .double, .double, .long, .long, .double, .double, .boolean]
  resolved := Array.replicate 460 none
  statics := none }

def pool10 : Array CpInfo := pool [(1, .methodref 2 3), (0, .class_ 4), (0, .nameAndType 5 6), (0, u "java/lang/Object"), (0, u "<init>"), (0, u "()V"), (0, .class_ 8), (0, u "java/lang/Record")] 13

def k10c0 : Code := { maxStack := 1, maxLocals := 1, code := jdk_30_method_1_code, exceptionTable := #[], attributes := #[] }
def k10m0 : Method := { name := "<init>", desc := "()V", sig := { parameters := [], returnType := none }, accessFlags := 4, code := some k10c0 }
/-- java/lang/Record -/
def k10 : Class := { plain "java/lang/Record" (some 0) with
  accessFlags := 1057
  interfaces := #[]
  cf := some (fileOf pool10 7 #[] #[{ accessFlags := 4, nameIndex := 5, descriptorIndex := 6, attributes := #[] }] 1057 2 #[] #[])
  fields := #[]
  methods := #[k10m0]
  instanceTypes := #[]
  staticTypes := #[]
  resolved := Array.replicate 22 none
  statics := none }

def pool11 : Array CpInfo := pool [(1, .methodref 2 3), (0, .class_ 4), (0, .nameAndType 5 6), (0, u "java/lang/Record"), (0, u "<init>"), (0, u "()V"), (0, .string 8), (0, u "source"), (0, .methodref 10 11), (0, .class_ 12), (0, .nameAndType 13 14), (0, u "java/util/Objects"), (0, u "requireNonNull"), (0, u "(Ljava/lang/Object;Ljava/lang/String;)Ljava/lang/Object;"), (2, .class_ 18), (0, u "java/lang/StringBuilder"), (0, .methodref 17 3), (2, .methodref 17 23), (0, .nameAndType 24 25), (0, u "append"), (0, u "(Ljava/lang/String;)Ljava/lang/StringBuilder;"), (0, .methodref 17 27), (0, .nameAndType 24 28), (0, u "(I)Ljava/lang/StringBuilder;"), (0, .string 30), (0, u ":"), (0, .methodref 17 32), (0, .nameAndType 33 34), (0, u "toString"), (0, u "()Ljava/lang/String;"), (3, .fieldref 39 40), (0, .class_ 41), (0, .nameAndType 8 42), (0, u "com/example/phal/phal/model/SourcePosition"), (0, u "Ljava/lang/String;"), (0, .fieldref 39 44), (0, .nameAndType 45 46), (0, u "line"), (0, u "I"), (0, .fieldref 39 48), (0, .nameAndType 49 46), (0, u "column"), (8, u "(Ljava/lang/String;II)V")] 30

def k11c0 : Code := { maxStack := 4, maxLocals := 4, code := prog_13_method_1_code, exceptionTable := #[], attributes := #[] }
def k11m0 : Method := { name := "<init>", desc := "(Ljava/lang/String;II)V", sig := { parameters := [(.object "java/lang/String"), .int, .int], returnType := none }, accessFlags := 1, code := some k11c0 }
def k11c1 : Code := { maxStack := 2, maxLocals := 1, code := prog_13_method_2_code, exceptionTable := #[], attributes := #[] }
def k11m1 : Method := { name := "toString", desc := "()Ljava/lang/String;", sig := { parameters := [], returnType := some (.object "java/lang/String") }, accessFlags := 1, code := some k11c1 }
/-- com/example/phal/phal/model/SourcePosition -/
def k11 : Class := { plain "com/example/phal/phal/model/SourcePosition" (some 10) with
  accessFlags := 49
  interfaces := #[]
  cf := some (fileOf pool11 39 #[] #[{ accessFlags := 1, nameIndex := 5, descriptorIndex := 58, attributes := #[] }, { accessFlags := 1, nameIndex := 33, descriptorIndex := 34, attributes := #[] }] 49 2 #[] #[{ accessFlags := 18, nameIndex := 8, descriptorIndex := 42, attributes := #[] }, { accessFlags := 18, nameIndex := 45, descriptorIndex := 46, attributes := #[] }, { accessFlags := 18, nameIndex := 49, descriptorIndex := 46, attributes := #[] }])
  fields := #[{ name := "source", type := (.object "java/lang/String"), accessFlags := 18, slot := 0, constantValue := 0 }, { name := "line", type := .int, accessFlags := 18, slot := 1, constantValue := 0 }, { name := "column", type := .int, accessFlags := 18, slot := 2, constantValue := 0 }]
  methods := #[k11m0, k11m1]
  instanceTypes := #[(.object "java/lang/String"), .int, .int]
  staticTypes := #[]
  resolved := Array.replicate 89 none
  statics := none }

def pool12 : Array CpInfo := pool [(2, .class_ 4), (1, u "java/lang/Object"), (0, u "<init>"), (0, u "()V"), (35, .class_ 44), (1, u "java/util/Objects"), (0, u "requireNonNull"), (48, u "(Ljava/lang/Object;Ljava/lang/String;)Ljava/lang/Object;")] 89

def k12m0 : Method := { name := "<init>", desc := "()V", sig := { parameters := [], returnType := none }, accessFlags := 2, code := none }
def k12c1 : Code := { maxStack := 3, maxLocals := 2, code := jdk_31_method_11_code, exceptionTable := #[], attributes := #[] }
def k12m1 : Method := { name := "requireNonNull", desc := "(Ljava/lang/Object;Ljava/lang/String;)Ljava/lang/Object;", sig := { parameters := [(.object "java/lang/Object"), (.object "java/lang/String")], returnType := some (.object "java/lang/Object") }, accessFlags := 9, code := some k12c1 }
/-- java/util/Objects -/
def k12 : Class := { plain "java/util/Objects" (some 0) with
  accessFlags := 49
  interfaces := #[]
  cf := some (fileOf pool12 42 #[] #[{ accessFlags := 2, nameIndex := 5, descriptorIndex := 6, attributes := #[] }, { accessFlags := 9, nameIndex := 45, descriptorIndex := 94, attributes := #[] }] 49 2 #[] #[])
  fields := #[]
  methods := #[k12m0, k12m1]
  instanceTypes := #[]
  staticTypes := #[]
  resolved := Array.replicate 184 none
  statics := none }

def pool13 : Array CpInfo := pool [(1, .class_ 2), (0, u "java/lang/Appendable"), (0, .class_ 4), (0, u "java/lang/Object")] 9

/-- java/lang/Appendable -/
def k13 : Class := { plain "java/lang/Appendable" (some 0) with
  accessFlags := 1537
  interfaces := #[]
  cf := some (fileOf pool13 1 #[] #[] 1537 3 #[] #[])
  fields := #[]
  methods := #[]
  instanceTypes := #[]
  staticTypes := #[]
  resolved := Array.replicate 14 none
  statics := none }

def pool14 : Array CpInfo := pool [(1, .class_ 2), (0, u "java/lang/String"), (0, .methodref 4 5), (0, .class_ 6), (0, .nameAndType 7 8), (0, u "java/lang/Object"), (0, u "<init>"), (0, u "()V"), (1, .class_ 12), (1, u "java/lang/AbstractStringBuilder"), (0, u "EMPTYVALUE"), (0, u "[B"), (0, .fieldref 10 16), (0, .nameAndType 17 14), (0, u "value"), (0, .fieldref 1 19), (0, .nameAndType 20 21), (0, u "COMPACT_STRINGS"), (0, u "Z"), (0, .fieldref 10 23), (0, .nameAndType 24 25), (0, u "coder"), (0, u "B"), (6, .methodref 1 33), (0, .nameAndType 34 35), (0, u "length"), (0, u "()I"), (0, .class_ 37), (0, u "java/lang/Integer"), (1, .integer 2147483647), (0, .methodref 1 41), (0, .nameAndType 24 42), (0, u "()B"), (2, u "append"), (0, u "(Ljava/lang/String;)Ljava/lang/AbstractStringBuilder;"), (1, .class_ 49), (0, u "java/lang/CharSequence"), (19, u "(Ljava/lang/String;)V"), (5, u "maybeLatin1"), (3, .fieldref 10 80), (0, .nameAndType 81 82), (0, u "count"), (0, u "I"), (0, .methodref 10 84), (0, .nameAndType 85 86), (0, u "isLatin1"), (0, u "()Z"), (13, .methodref 10 101), (0, .nameAndType 102 103), (0, u "ensureCapacityInternal"), (0, u "(I)V"), (0, .methodref 10 105), (0, .nameAndType 106 107), (0, u "newCapacity"), (0, u "(I)I"), (0, .methodref 109 110), (0, .class_ 111), (0, .nameAndType 112 113), (0, u "java/util/Arrays"), (0, u "copyOf"), (0, u "([BI)[B"), (0, .methodref 115 116), (0, .class_ 117), (0, .nameAndType 118 119), (0, u "jdk/internal/util/ArraysSupport"), (0, u "newLength"), (0, u "(III)I"), (68, u "getChars"), (19, .methodref 10 209), (0, .nameAndType 210 211), (0, u "putStringAt"), (0, u "(ILjava/lang/String;)V"), (5, u "inflateIfNeededFor"), (2, .nameAndType 221 222), (0, u "getBytes"), (0, u "([BIB)V"), (22, .methodref 36 246), (0, .nameAndType 247 107), (0, u "stringSize"), (0, .methodref 36 249), (0, .nameAndType 188 250), (0, u "(II[B)I"), (146, .methodref 10 398), (0, .nameAndType 217 69), (0, .methodref 1 220), (3, u "()[B"), (40, .class_ 445), (0, u "java/lang/Appendable"), (65, u "(I)Ljava/lang/AbstractStringBuilder;"), (40, u "getValue")] 56

def k14m0 : Method := { name := "<init>", desc := "()V", sig := { parameters := [], returnType := none }, accessFlags := 0, code := none }
def k14c1 : Code := { maxStack := 2, maxLocals := 2, code := jdk_68_method_2_code, exceptionTable := #[], attributes := #[] }
def k14m1 : Method := { name := "<init>", desc := "(I)V", sig := { parameters := [.int], returnType := none }, accessFlags := 0, code := some k14c1 }
def k14c2 : Code := { maxStack := 1, maxLocals := 1, code := jdk_68_method_6_code, exceptionTable := #[], attributes := #[] }
def k14m2 : Method := { name := "length", desc := "()I", sig := { parameters := [], returnType := some .int }, accessFlags := 1, code := some k14c2 }
def k14c3 : Code := { maxStack := 4, maxLocals := 3, code := jdk_68_method_9_code, exceptionTable := #[], attributes := #[] }
def k14m3 : Method := { name := "ensureCapacityInternal", desc := "(I)V", sig := { parameters := [.int], returnType := none }, accessFlags := 2, code := some k14c3 }
def k14c4 : Code := { maxStack := 5, maxLocals := 6, code := jdk_68_method_10_code, exceptionTable := #[], attributes := #[] }
def k14m4 : Method := { name := "newCapacity", desc := "(I)I", sig := { parameters := [.int], returnType := some .int }, accessFlags := 2, code := some k14c4 }
def k14c5 : Code := { maxStack := 3, maxLocals := 3, code := jdk_68_method_22_code, exceptionTable := #[], attributes := #[] }
def k14m5 : Method := { name := "append", desc := "(Ljava/lang/String;)Ljava/lang/AbstractStringBuilder;", sig := { parameters := [(.object "java/lang/String")], returnType := some (.object "java/lang/AbstractStringBuilder") }, accessFlags := 1, code := some k14c5 }
def k14c6 : Code := { maxStack := 4, maxLocals := 4, code := jdk_68_method_32_code, exceptionTable := #[], attributes := #[] }
def k14m6 : Method := { name := "append", desc := "(I)Ljava/lang/AbstractStringBuilder;", sig := { parameters := [.int], returnType := some (.object "java/lang/AbstractStringBuilder") }, accessFlags := 1, code := some k14c6 }
def k14c7 : Code := { maxStack := 1, maxLocals := 1, code := jdk_68_method_64_code, exceptionTable := #[], attributes := #[] }
def k14m7 : Method := { name := "getValue", desc := "()[B", sig := { parameters := [], returnType := some (.array .byte) }, accessFlags := 16, code := some k14c7 }
def k14c8 : Code := { maxStack := 1, maxLocals := 1, code := jdk_68_method_68_code, exceptionTable := #[], attributes := #[] }
def k14m8 : Method := { name := "isLatin1", desc := "()Z", sig := { parameters := [], returnType := some .boolean }, accessFlags := 16, code := some k14c8 }
def k14c9 : Code := { maxStack := 2, maxLocals := 2, code := jdk_68_method_71_code, exceptionTable := #[], attributes := #[] }
def k14m9 : Method := { name := "inflateIfNeededFor", desc := "(Ljava/lang/String;)V", sig := { parameters := [(.object "java/lang/String")], returnType := none }, accessFlags := 2, code := some k14c9 }
def k14c10 : Code := { maxStack := 4, maxLocals := 3, code := jdk_68_method_73_code, exceptionTable := #[], attributes := #[] }
def k14m10 : Method := { name := "putStringAt", desc := "(ILjava/lang/String;)V", sig := { parameters := [.int, (.object "java/lang/String")], returnType := none }, accessFlags := 2, code := some k14c10 }
/-- java/lang/AbstractStringBuilder -/
def k14 : Class := { plain "java/lang/AbstractStringBuilder" (some 0) with
  accessFlags := 1056
  interfaces := #[13, 4]
  cf := some (fileOf pool14 10 #[] #[{ accessFlags := 0, nameIndex := 7, descriptorIndex := 8, attributes := #[] }, { accessFlags := 0, nameIndex := 7, descriptorIndex := 103, attributes := #[] }, { accessFlags := 1, nameIndex := 34, descriptorIndex := 35, attributes := #[] }, { accessFlags := 2, nameIndex := 102, descriptorIndex := 103, attributes := #[] }, { accessFlags := 2, nameIndex := 106, descriptorIndex := 107, attributes := #[] }, { accessFlags := 1, nameIndex := 45, descriptorIndex := 46, attributes := #[] }, { accessFlags := 1, nameIndex := 45, descriptorIndex := 511, attributes := #[] }, { accessFlags := 16, nameIndex := 552, descriptorIndex := 403, attributes := #[] }, { accessFlags := 16, nameIndex := 85, descriptorIndex := 86, attributes := #[] }, { accessFlags := 2, nameIndex := 217, descriptorIndex := 69, attributes := #[] }, { accessFlags := 2, nameIndex := 210, descriptorIndex := 211, attributes := #[] }] 1056 4 #[444, 48] #[{ accessFlags := 0, nameIndex := 17, descriptorIndex := 14, attributes := #[] }, { accessFlags := 0, nameIndex := 24, descriptorIndex := 25, attributes := #[] }, { accessFlags := 0, nameIndex := 75, descriptorIndex := 21, attributes := #[] }, { accessFlags := 0, nameIndex := 81, descriptorIndex := 82, attributes := #[] }, { accessFlags := 26, nameIndex := 13, descriptorIndex := 14, attributes := #[] }])
  fields := #[{ name := "value", type := (.array .byte), accessFlags := 0, slot := 0, constantValue := 0 }, { name := "coder", type := .byte, accessFlags := 0, slot := 1, constantValue := 0 }, { name := "maybeLatin1", type := .boolean, accessFlags := 0, slot := 2, constantValue := 0 }, { name := "count", type := .int, accessFlags := 0, slot := 3, constantValue := 0 }, { name := "EMPTYVALUE", type := (.array .byte), accessFlags := 26, slot := 0, constantValue := 0 }]
  methods := #[k14m0, k14m1, k14m2, k14m3, k14m4, k14m5, k14m6, k14m7, k14m8, k14m9, k14m10]
  instanceTypes := #[(.array .byte), .byte, .boolean, .int]
  staticTypes := #[(.array .byte)]
  resolved := Array.replicate 609 none
  statics := none }

def pool15 : Array CpInfo := pool [(1, .methodref 2 3), (0, .class_ 4), (0, .nameAndType 5 6), (0, u "java/lang/AbstractStringBuilder"), (0, u "<init>"), (0, u "(I)V"), (11, .class_ 20), (1, u "java/lang/String"), (3, .class_ 26), (1, u "java/lang/StringBuilder"), (0, u "append"), (0, u "(Ljava/lang/String;)Ljava/lang/StringBuilder;"), (0, .methodref 2 30), (0, .nameAndType 27 31), (0, u "(Ljava/lang/String;)Ljava/lang/AbstractStringBuilder;"), (21, .methodref 2 54), (0, .nameAndType 27 55), (0, u "(I)Ljava/lang/AbstractStringBuilder;"), (81, .methodref 18 138), (0, .nameAndType 5 139), (0, u "(Ljava/lang/StringBuilder;)V"), (5, u "()V"), (10, u "()I"), (111, u "(I)Ljava/lang/StringBuilder;"), (74, .methodref 2 344), (0, .nameAndType 345 156), (0, u "length"), (3, .class_ 350), (0, u "java/lang/Appendable"), (0, .class_ 352), (0, u "java/io/Serializable"), (0, .class_ 354), (0, u "java/lang/Comparable"), (0, .class_ 356), (0, u "java/lang/CharSequence"), (0, u "serialVersionUID"), (0, u "J"), (40, u "toString"), (0, u "()Ljava/lang/String;")] 21

def k15c0 : Code := { maxStack := 2, maxLocals := 1, code := jdk_67_method_1_code, exceptionTable := #[], attributes := #[] }
def k15m0 : Method := { name := "<init>", desc := "()V", sig := { parameters := [], returnType := none }, accessFlags := 1, code := some k15c0 }
def k15c1 : Code := { maxStack := 2, maxLocals := 2, code := jdk_67_method_7_code, exceptionTable := #[], attributes := #[] }
def k15m1 : Method := { name := "append", desc := "(Ljava/lang/String;)Ljava/lang/StringBuilder;", sig := { parameters := [(.object "java/lang/String")], returnType := some (.object "java/lang/StringBuilder") }, accessFlags := 1, code := some k15c1 }
def k15c2 : Code := { maxStack := 2, maxLocals := 2, code := jdk_67_method_15_code, exceptionTable := #[], attributes := #[] }
def k15m2 : Method := { name := "append", desc := "(I)Ljava/lang/StringBuilder;", sig := { parameters := [.int], returnType := some (.object "java/lang/StringBuilder") }, accessFlags := 1, code := some k15c2 }
def k15c3 : Code := { maxStack := 3, maxLocals := 1, code := jdk_67_method_42_code, exceptionTable := #[], attributes := #[] }
def k15m3 : Method := { name := "toString", desc := "()Ljava/lang/String;", sig := { parameters := [], returnType := some (.object "java/lang/String") }, accessFlags := 1, code := some k15c3 }
def k15c4 : Code := { maxStack := 1, maxLocals := 1, code := jdk_67_method_93_code, exceptionTable := #[], attributes := #[] }
def k15m4 : Method := { name := "length", desc := "()I", sig := { parameters := [], returnType := some .int }, accessFlags := 4161, code := some k15c4 }
/-- java/lang/StringBuilder -/
def k15 : Class := { plain "java/lang/StringBuilder" (some 14) with
  accessFlags := 49
  interfaces := #[13, 2, 3, 4]
  cf := some (fileOf pool15 24 #[] #[{ accessFlags := 1, nameIndex := 5, descriptorIndex := 145, attributes := #[] }, { accessFlags := 1, nameIndex := 27, descriptorIndex := 28, attributes := #[] }, { accessFlags := 1, nameIndex := 27, descriptorIndex := 268, attributes := #[] }, { accessFlags := 1, nameIndex := 399, descriptorIndex := 400, attributes := #[] }, { accessFlags := 4161, nameIndex := 345, descriptorIndex := 156, attributes := #[] }] 49 2 #[349, 351, 353, 355] #[{ accessFlags := 24, nameIndex := 357, descriptorIndex := 358, attributes := #[] }])
  fields := #[{ name := "serialVersionUID", type := .long, accessFlags := 24, slot := 0, constantValue := 0 }]
  methods := #[k15m0, k15m1, k15m2, k15m3, k15m4]
  instanceTypes := #[(.array .byte), .byte, .boolean, .int]
  staticTypes := #[.long]
  resolved := Array.replicate 422 none
  statics := none }

def pool16 : Array CpInfo := pool [(2, .class_ 4), (1, u "java/lang/Object"), (0, u "<init>"), (0, u "()V"), (1, .class_ 10), (1, u "java/lang/System"), (0, u "allowSecurityManager"), (0, u "I"), (16, u "cons"), (0, u "Ljava/io/Console;"), (77, .class_ 110), (1, u "java/lang/System$CallersHolder"), (43, u "initialErrStream"), (0, u "Ljava/io/PrintStream;"), (19, u "security"), (0, u "Ljava/lang/SecurityManager;"), (31, .class_ 209), (0, u "java/lang/System$1"), (7, u "props"), (0, u "Ljava/util/Properties;"), (2, u "lineSeparator"), (0, u "Ljava/lang/String;"), (96, .class_ 321), (1, u "java/lang/System$LoggerFinder"), (5, .class_ 328), (0, u "java/lang/System$Logger"), (67, u "err"), (2, u "out"), (91, u "notSupportedJnuEncoding"), (15, u "in"), (17, u "initialIn"), (0, u "Ljava/io/InputStream;"), (35, u "bootLayer"), (0, u "Ljava/lang/ModuleLayer;"), (99, .class_ 664), (0, u "java/lang/System$2"), (9, u "NEVER"), (2, u "MAYBE"), (49, u "arraycopy"), (0, u "(Ljava/lang/Object;ILjava/lang/Object;II)V"), (72, .class_ 802), (0, u "java/lang/System$Logger$Level")] 31

def k16m0 : Method := { name := "<init>", desc := "()V", sig := { parameters := [], returnType := none }, accessFlags := 2, code := none }
def k16m1 : Method := { name := "arraycopy", desc := "(Ljava/lang/Object;ILjava/lang/Object;II)V", sig := { parameters := [(.object "java/lang/Object"), .int, (.object "java/lang/Object"), .int, .int], returnType := none }, accessFlags := 265, code := none }
/-- java/lang/System -/
def k16 : Class := { plain "java/lang/System" (some 0) with
  accessFlags := 49
  interfaces := #[]
  cf := some (fileOf pool16 8 #[.nestMembers #[319, 327, 801, 108, 663, 208]] #[{ accessFlags := 2, nameIndex := 5, descriptorIndex := 6, attributes := #[] }, { accessFlags := 265, nameIndex := 727, descriptorIndex := 728, attributes := #[] }] 49 2 #[] #[{ accessFlags := 25, nameIndex := 507, descriptorIndex := 526, attributes := #[] }, { accessFlags := 25, nameIndex := 399, descriptorIndex := 155, attributes := #[] }, { accessFlags := 25, nameIndex := 396, descriptorIndex := 155, attributes := #[] }, { accessFlags := 10, nameIndex := 525, descriptorIndex := 526, attributes := #[] }, { accessFlags := 26, nameIndex := 674, descriptorIndex := 12, attributes := #[] }, { accessFlags := 26, nameIndex := 677, descriptorIndex := 12, attributes := #[] }, { accessFlags := 10, nameIndex := 11, descriptorIndex := 12, attributes := #[] }, { accessFlags := 74, nameIndex := 175, descriptorIndex := 176, attributes := #[] }, { accessFlags := 10, nameIndex := 491, descriptorIndex := 222, attributes := #[] }, { accessFlags := 74, nameIndex := 29, descriptorIndex := 30, attributes := #[] }, { accessFlags := 74, nameIndex := 154, descriptorIndex := 155, attributes := #[] }, { accessFlags := 10, nameIndex := 217, descriptorIndex := 218, attributes := #[] }, { accessFlags := 10, nameIndex := 221, descriptorIndex := 222, attributes := #[] }, { accessFlags := 8, nameIndex := 562, descriptorIndex := 563, attributes := #[] }])
  fields := #[{ name := "in", type := (.object "java/io/InputStream"), accessFlags := 25, slot := 0, constantValue := 0 }, { name := "out", type := (.object "java/io/PrintStream"), accessFlags := 25, slot := 1, constantValue := 0 }, { name := "err", type := (.object "java/io/PrintStream"), accessFlags := 25, slot := 2, constantValue := 0 }, { name := "initialIn", type := (.object "java/io/InputStream"), accessFlags := 10, slot := 3, constantValue := 0 }, { name := "NEVER", type := .int, accessFlags := 26, slot := 4, constantValue := 0 }, { name := "MAYBE", type := .int, accessFlags := 26, slot := 5, constantValue := 0 }, { name := "allowSecurityManager", type := .int, accessFlags := 10, slot := 6, constantValue := 0 }, { name := "security", type := (.object "java/lang/SecurityManager"), accessFlags := 74, slot := 7, constantValue := 0 }, { name := "notSupportedJnuEncoding", type := (.object "java/lang/String"), accessFlags := 10, slot := 8, constantValue := 0 }, { name := "cons", type := (.object "java/io/Console"), accessFlags := 74, slot := 9, constantValue := 0 }, { name := "initialErrStream", type := (.object "java/io/PrintStream"), accessFlags := 74, slot := 10, constantValue := 0 }, { name := "props", type := (.object "java/util/Properties"), accessFlags := 10, slot := 11, constantValue := 0 }, { name := "lineSeparator", type := (.object "java/lang/String"), accessFlags := 10, slot := 12, constantValue := 0 }, { name := "bootLayer", type := (.object "java/lang/ModuleLayer"), accessFlags := 8, slot := 13, constantValue := 0 }]
  methods := #[k16m0, k16m1]
  instanceTypes := #[]
  staticTypes := #[(.object "java/io/InputStream"), (.object "java/io/PrintStream"), (.object "java/io/PrintStream"), (.object "java/io/InputStream"), .int, .int, .int, (.object "java/lang/SecurityManager"), (.object "java/lang/String"), (.object "java/io/Console"), (.object "java/io/PrintStream"), (.object "java/util/Properties"), (.object "java/lang/String"), (.object "java/lang/ModuleLayer")]
  resolved := Array.replicate 834 none
  statics := none }

def pool17 : Array CpInfo := pool [(2, .class_ 4), (1, u "java/lang/Object"), (0, u "<init>"), (0, u "()V"), (1, .class_ 10), (1, u "java/lang/Number"), (2, .class_ 14), (0, u "java/io/Serializable"), (0, u "serialVersionUID"), (0, u "J")] 20

def k17m0 : Method := { name := "<init>", desc := "()V", sig := { parameters := [], returnType := none }, accessFlags := 1, code := none }
/-- java/lang/Number -/
def k17 : Class := { plain "java/lang/Number" (some 0) with
  accessFlags := 1057
  interfaces := #[2]
  cf := some (fileOf pool17 8 #[] #[{ accessFlags := 1, nameIndex := 5, descriptorIndex := 6, attributes := #[] }] 1057 2 #[13] #[{ accessFlags := 26, nameIndex := 15, descriptorIndex := 16, attributes := #[] }])
  fields := #[{ name := "serialVersionUID", type := .long, accessFlags := 26, slot := 0, constantValue := 0 }]
  methods := #[k17m0]
  instanceTypes := #[]
  staticTypes := #[.long]
  resolved := Array.replicate 37 none
  statics := none }

def pool18 : Array CpInfo := pool [(1, .class_ 2), (0, u "java/lang/Integer"), (16, u "digits"), (0, u "[C"), (33, u "(I)I"), (19, u "stringSize"), (2, u "getChars"), (0, u "(II[B)I"), (4, .fieldref 1 84), (0, .nameAndType 85 86), (0, u "DigitOnes"), (0, u "[B"), (0, .fieldref 1 88), (0, .nameAndType 89 86), (0, u "DigitTens"), (99, .class_ 190), (0, u "java/lang/Integer$IntegerCache"), (3, u "I"), (8, .class_ 204), (0, u "java/lang/Number"), (2, u "value"), (94, u "TYPE"), (0, u "Ljava/lang/Class;"), (0, .class_ 305), (0, u "java/lang/Comparable"), (0, .class_ 307), (0, u "java/lang/constant/Constable"), (0, .class_ 309), (0, u "java/lang/constant/ConstantDesc"), (0, u "MIN_VALUE"), (1, u "MAX_VALUE"), (3, u "SIZE"), (1, u "BYTES"), (1, u "serialVersionUID"), (0, u "J")] 131

def k18c0 : Code := { maxStack := 4, maxLocals := 7, code := jdk_33_method_12_code, exceptionTable := #[], attributes := #[] }
def k18m0 : Method := { name := "getChars", desc := "(II[B)I", sig := { parameters := [.int, .int, (.array .byte)], returnType := some .int }, accessFlags := 8, code := some k18c0 }
def k18c1 : Code := { maxStack := 2, maxLocals := 4, code := jdk_33_method_13_code, exceptionTable := #[], attributes := #[] }
def k18m1 : Method := { name := "stringSize", desc := "(I)I", sig := { parameters := [.int], returnType := some .int }, accessFlags := 8, code := some k18c1 }
/-- java/lang/Integer -/
def k18 : Class := { plain "java/lang/Integer" (some 17) with
  accessFlags := 49
  interfaces := #[3, 5, 6]
  cf := some (fileOf pool18 1 #[.nestMembers #[189]] #[{ accessFlags := 8, nameIndex := 77, descriptorIndex := 78, attributes := #[] }, { accessFlags := 8, nameIndex := 74, descriptorIndex := 54, attributes := #[] }] 49 203 #[304, 306, 308] #[{ accessFlags := 25, nameIndex := 310, descriptorIndex := 194, attributes := #[] }, { accessFlags := 25, nameIndex := 312, descriptorIndex := 194, attributes := #[] }, { accessFlags := 25, nameIndex := 302, descriptorIndex := 303, attributes := #[] }, { accessFlags := 24, nameIndex := 19, descriptorIndex := 20, attributes := #[] }, { accessFlags := 24, nameIndex := 89, descriptorIndex := 86, attributes := #[] }, { accessFlags := 24, nameIndex := 85, descriptorIndex := 86, attributes := #[] }, { accessFlags := 18, nameIndex := 207, descriptorIndex := 194, attributes := #[] }, { accessFlags := 25, nameIndex := 316, descriptorIndex := 194, attributes := #[] }, { accessFlags := 25, nameIndex := 318, descriptorIndex := 194, attributes := #[] }, { accessFlags := 26, nameIndex := 320, descriptorIndex := 321, attributes := #[] }])
  fields := #[{ name := "MIN_VALUE", type := .int, accessFlags := 25, slot := 0, constantValue := 0 }, { name := "MAX_VALUE", type := .int, accessFlags := 25, slot := 1, constantValue := 0 }, { name := "TYPE", type := (.object "java/lang/Class"), accessFlags := 25, slot := 2, constantValue := 0 }, { name := "digits", type := (.array .char), accessFlags := 24, slot := 3, constantValue := 0 }, { name := "DigitTens", type := (.array .byte), accessFlags := 24, slot := 4, constantValue := 0 }, { name := "DigitOnes", type := (.array .byte), accessFlags := 24, slot := 5, constantValue := 0 }, { name := "value", type := .int, accessFlags := 18, slot := 0, constantValue := 0 }, { name := "SIZE", type := .int, accessFlags := 25, slot := 6, constantValue := 0 }, { name := "BYTES", type := .int, accessFlags := 25, slot := 7, constantValue := 0 }, { name := "serialVersionUID", type := .long, accessFlags := 26, slot := 8, constantValue := 0 }]
  methods := #[k18m0, k18m1]
  instanceTypes := #[.int]
  staticTypes := #[.int, .int, (.object "java/lang/Class"), (.array .char), (.array .byte), (.array .byte), .int, .int, .long]
  resolved := Array.replicate 453 none
  statics := some 1 }

def pool19 : Array CpInfo := pool [(2, .class_ 4), (1, u "java/lang/Object"), (0, u "<init>"), (0, u "()V"), (7, .class_ 16), (1, u "java/util/Arrays"), (57, .class_ 76), (1, u "java/util/Arrays$NaturalOrder"), (32, u "()Ljava/lang/Object;"), (3, .class_ 115), (1, u "java/util/Arrays$LegacyMergeSort"), (1, u "Z"), (10, .nameAndType 129 109), (0, u "clone"), (9, u "copyOfRange"), (10, .methodref 151 152), (0, .class_ 153), (0, .nameAndType 154 155), (0, u "java/lang/System"), (0, u "arraycopy"), (0, u "(Ljava/lang/Object;ILjava/lang/Object;II)V"), (146, u "copyOf"), (1, .methodref 305 306), (0, .class_ 307), (0, .nameAndType 308 309), (0, u "java/lang/Math"), (0, u "min"), (0, u "(II)I"), (0, .methodref 311 128), (0, .class_ 312), (0, u "[B"), (26, .methodref 14 340), (0, .nameAndType 341 342), (0, u "copyOfRangeByte"), (0, u "([BII)[B"), (0, .methodref 14 344), (0, .nameAndType 345 346), (0, u "checkLength"), (0, u "(II)V"), (28, .class_ 376), (0, u "java/util/Arrays$ArrayList"), (68, u "$assertionsDisabled"), (269, u "MIN_ARRAY_SORT_GRAN"), (0, u "I"), (2, u "INSERTIONSORT_THRESHOLD"), (149, u "([BI)[B"), (105, .class_ 976), (0, u "java/util/Arrays$ArrayItr")] 52

def k19m0 : Method := { name := "<init>", desc := "()V", sig := { parameters := [], returnType := none }, accessFlags := 2, code := none }
def k19c1 : Code := { maxStack := 6, maxLocals := 3, code := jdk_65_method_121_code, exceptionTable := #[], attributes := #[] }
def k19m1 : Method := { name := "copyOf", desc := "([BI)[B", sig := { parameters := [(.array .byte), .int], returnType := some (.array .byte) }, accessFlags := 9, code := some k19c1 }
def k19c2 : Code := { maxStack := 4, maxLocals := 2, code := jdk_65_method_131_code, exceptionTable := #[], attributes := #[] }
def k19m2 : Method := { name := "checkLength", desc := "(II)V", sig := { parameters := [.int, .int], returnType := none }, accessFlags := 10, code := some k19c2 }
def k19c3 : Code := { maxStack := 3, maxLocals := 3, code := jdk_65_method_132_code, exceptionTable := #[], attributes := #[] }
def k19m3 : Method := { name := "copyOfRange", desc := "([BII)[B", sig := { parameters := [(.array .byte), .int, .int], returnType := some (.array .byte) }, accessFlags := 9, code := some k19c3 }
def k19c4 : Code := { maxStack := 6, maxLocals := 5, code := jdk_65_method_133_code, exceptionTable := #[], attributes := #[] }
def k19m4 : Method := { name := "copyOfRangeByte", desc := "([BII)[B", sig := { parameters := [(.array .byte), .int, .int], returnType := some (.array .byte) }, accessFlags := 10, code := some k19c4 }
/-- java/util/Arrays -/
def k19 : Class := { plain "java/util/Arrays" (some 0) with
  accessFlags := 49
  interfaces := #[]
  cf := some (fileOf pool19 14 #[.nestMembers #[975, 375, 113, 74]] #[{ accessFlags := 2, nameIndex := 5, descriptorIndex := 6, attributes := #[] }, { accessFlags := 9, nameIndex := 302, descriptorIndex := 869, attributes := #[] }, { accessFlags := 10, nameIndex := 345, descriptorIndex := 346, attributes := #[] }, { accessFlags := 9, nameIndex := 139, descriptorIndex := 342, attributes := #[] }, { accessFlags := 10, nameIndex := 341, descriptorIndex := 342, attributes := #[] }] 49 2 #[] #[{ accessFlags := 26, nameIndex := 715, descriptorIndex := 716, attributes := #[] }, { accessFlags := 26, nameIndex := 719, descriptorIndex := 716, attributes := #[] }, { accessFlags := 4120, nameIndex := 445, descriptorIndex := 117, attributes := #[] }])
  fields := #[{ name := "MIN_ARRAY_SORT_GRAN", type := .int, accessFlags := 26, slot := 0, constantValue := 0 }, { name := "INSERTIONSORT_THRESHOLD", type := .int, accessFlags := 26, slot := 1, constantValue := 0 }, { name := "$assertionsDisabled", type := .boolean, accessFlags := 4120, slot := 2, constantValue := 0 }]
  methods := #[k19m0, k19m1, k19m2, k19m3, k19m4]
  instanceTypes := #[]
  staticTypes := #[.int, .int, .boolean]
  resolved := Array.replicate 1029 none
  statics := none }

def pool20 : Array CpInfo := pool [(1, .class_ 2), (0, u "java/lang/String"), (1, .class_ 6), (1, u "java/lang/Object"), (0, u "<init>"), (0, u "()V"), (0, .methodref 1 10), (0, .nameAndType 11 12), (0, u "checkIndex"), (0, u "(II)V"), (1, .class_ 16), (1, u "java/lang/StringLatin1"), (36, u "([BI)C"), (36, u "canEncode"), (14, u "(C)Z"), (15, u "$assertionsDisabled"), (0, u "Z"), (98, .class_ 223), (1, u "java/lang/StringLatin1$LinesSpliterator"), (28, u "charAt"), (127, u "toBytes"), (1, u "(C)[B"), (7, .class_ 391), (0, u "java/lang/StringLatin1$CharsSpliterator")] 3

def k20m0 : Method := { name := "<init>", desc := "()V", sig := { parameters := [], returnType := none }, accessFlags := 0, code := none }
def k20c1 : Code := { maxStack := 2, maxLocals := 2, code := jdk_43_method_2_code, exceptionTable := #[], attributes := #[] }
def k20m1 : Method := { name := "charAt", desc := "([BI)C", sig := { parameters := [(.array .byte), .int], returnType := some .char }, accessFlags := 9, code := some k20c1 }
def k20c2 : Code := { maxStack := 2, maxLocals := 1, code := jdk_43_method_3_code, exceptionTable := #[], attributes := #[] }
def k20m2 : Method := { name := "canEncode", desc := "(C)Z", sig := { parameters := [.char], returnType := some .boolean }, accessFlags := 9, code := some k20c2 }
def k20c3 : Code := { maxStack := 4, maxLocals := 1, code := jdk_43_method_46_code, exceptionTable := #[], attributes := #[] }
def k20m3 : Method := { name := "toBytes", desc := "(C)[B", sig := { parameters := [.char], returnType := some (.array .byte) }, accessFlags := 9, code := some k20c3 }
/-- java/lang/StringLatin1 -/
def k20 : Class := { plain "java/lang/StringLatin1" (some 0) with
  accessFlags := 48
  interfaces := #[]
  cf := some (fileOf pool20 14 #[.nestMembers #[390, 221]] #[{ accessFlags := 0, nameIndex := 7, descriptorIndex := 8, attributes := #[] }, { accessFlags := 9, nameIndex := 252, descriptorIndex := 53, attributes := #[] }, { accessFlags := 9, nameIndex := 90, descriptorIndex := 105, attributes := #[] }, { accessFlags := 9, nameIndex := 380, descriptorIndex := 382, attributes := #[] }] 48 4 #[] #[{ accessFlags := 4120, nameIndex := 121, descriptorIndex := 122, attributes := #[] }])
  fields := #[{ name := "$assertionsDisabled", type := .boolean, accessFlags := 4120, slot := 0, constantValue := 0 }]
  methods := #[k20m0, k20m1, k20m2, k20m3]
  instanceTypes := #[]
  staticTypes := #[.boolean]
  resolved := Array.replicate 395 none
  statics := none }

def pool21 : Array CpInfo := pool [(2, .class_ 4), (1, u "java/lang/Object"), (0, u "<init>"), (0, u "()V"), (17, .class_ 26), (1, u "jdk/internal/util/Preconditions"), (6, u "checkIndex"), (21, .class_ 56), (0, u "jdk/internal/util/Preconditions$4"), (57, .class_ 115), (0, u "jdk/internal/util/Preconditions$1"), (7, u "SIOOBE_FORMATTER"), (0, u "Ljava/util/function/BiFunction;"), (0, .class_ 126), (0, u "jdk/internal/util/Preconditions$2"), (3, u "AIOOBE_FORMATTER"), (0, .class_ 132), (0, u "jdk/internal/util/Preconditions$3"), (3, u "IOOBE_FORMATTER"), (41, u "(IILjava/util/function/BiFunction;)I")] 15

def k21m0 : Method := { name := "<init>", desc := "()V", sig := { parameters := [], returnType := none }, accessFlags := 1, code := none }
def k21c1 : Code := { maxStack := 3, maxLocals := 3, code := jdk_41_method_11_code, exceptionTable := #[], attributes := #[] }
def k21m1 : Method := { name := "checkIndex", desc := "(IILjava/util/function/BiFunction;)I", sig := { parameters := [.int, .int, (.object "java/util/function/BiFunction")], returnType := some .int }, accessFlags := 9, code := some k21c1 }
/-- jdk/internal/util/Preconditions -/
def k21 : Class := { plain "jdk/internal/util/Preconditions" (some 0) with
  accessFlags := 33
  interfaces := #[]
  cf := some (fileOf pool21 24 #[.nestMembers #[55, 131, 125, 114]] #[{ accessFlags := 1, nameIndex := 5, descriptorIndex := 6, attributes := #[] }, { accessFlags := 9, nameIndex := 33, descriptorIndex := 178, attributes := #[] }] 33 2 #[] #[{ accessFlags := 25, nameIndex := 123, descriptorIndex := 124, attributes := #[] }, { accessFlags := 25, nameIndex := 130, descriptorIndex := 124, attributes := #[] }, { accessFlags := 25, nameIndex := 136, descriptorIndex := 124, attributes := #[] }])
  fields := #[{ name := "SIOOBE_FORMATTER", type := (.object "java/util/function/BiFunction"), accessFlags := 25, slot := 0, constantValue := 0 }, { name := "AIOOBE_FORMATTER", type := (.object "java/util/function/BiFunction"), accessFlags := 25, slot := 1, constantValue := 0 }, { name := "IOOBE_FORMATTER", type := (.object "java/util/function/BiFunction"), accessFlags := 25, slot := 2, constantValue := 0 }]
  methods := #[k21m0, k21m1]
  instanceTypes := #[]
  staticTypes := #[(.object "java/util/function/BiFunction"), (.object "java/util/function/BiFunction"), (.object "java/util/function/BiFunction")]
  resolved := Array.replicate 194 none
  statics := some 2 }

def pool22 : Array CpInfo := pool [(9, u "<init>"), (6, .class_ 18), (1, u "java/lang/Object"), (0, u "()V"), (1, .class_ 23), (1, u "jdk/internal/util/ArraysSupport"), (0, u "LOG2_ARRAY_LONG_INDEX_SCALE"), (0, u "I"), (2, u "U"), (0, u "Ljdk/internal/misc/Unsafe;"), (8, u "BIG_ENDIAN"), (0, u "Z"), (8, u "LOG2_BYTE_BIT_SIZE"), (4, u "LOG2_ARRAY_INT_INDEX_SCALE"), (54, u "JLA"), (0, u "Ljdk/internal/access/JavaLangAccess;"), (11, u "LOG2_ARRAY_BOOLEAN_INDEX_SCALE"), (9, u "LOG2_ARRAY_BYTE_INDEX_SCALE"), (5, u "LOG2_ARRAY_CHAR_INDEX_SCALE"), (5, u "LOG2_ARRAY_SHORT_INDEX_SCALE"), (18, u "LOG2_ARRAY_FLOAT_INDEX_SCALE"), (24, u "LOG2_ARRAY_DOUBLE_INDEX_SCALE"), (6, .methodref 195 196), (0, .class_ 197), (0, .nameAndType 198 199), (0, u "java/lang/Math"), (0, u "max"), (0, u "(II)I"), (0, .integer 2147483639), (76, u "T_BOOLEAN"), (2, u "T_CHAR"), (1, u "T_FLOAT"), (1, u "T_DOUBLE"), (1, u "T_BYTE"), (1, u "T_SHORT"), (1, u "T_INT"), (1, u "T_LONG"), (1, u "SOFT_MAX_ARRAY_LENGTH"), (56, u "newLength"), (0, u "(III)I")] 25

def k22m0 : Method := { name := "<init>", desc := "()V", sig := { parameters := [], returnType := none }, accessFlags := 2, code := none }
def k22c1 : Code := { maxStack := 3, maxLocals := 4, code := jdk_48_method_27_code, exceptionTable := #[], attributes := #[] }
def k22m1 : Method := { name := "newLength", desc := "(III)I", sig := { parameters := [.int, .int, .int], returnType := some .int }, accessFlags := 9, code := some k22c1 }
/-- jdk/internal/util/ArraysSupport -/
def k22 : Class := { plain "jdk/internal/util/ArraysSupport" (some 0) with
  accessFlags := 33
  interfaces := #[]
  cf := some (fileOf pool22 21 #[] #[{ accessFlags := 2, nameIndex := 9, descriptorIndex := 19, attributes := #[] }, { accessFlags := 9, nameIndex := 351, descriptorIndex := 352, attributes := #[] }] 33 16 #[] #[{ accessFlags := 24, nameIndex := 28, descriptorIndex := 29, attributes := #[] }, { accessFlags := 26, nameIndex := 38, descriptorIndex := 39, attributes := #[] }, { accessFlags := 25, nameIndex := 121, descriptorIndex := 25, attributes := #[] }, { accessFlags := 25, nameIndex := 131, descriptorIndex := 25, attributes := #[] }, { accessFlags := 25, nameIndex := 137, descriptorIndex := 25, attributes := #[] }, { accessFlags := 25, nameIndex := 143, descriptorIndex := 25, attributes := #[] }, { accessFlags := 25, nameIndex := 53, descriptorIndex := 25, attributes := #[] }, { accessFlags := 25, nameIndex := 24, descriptorIndex := 25, attributes := #[] }, { accessFlags := 25, nameIndex := 162, descriptorIndex := 25, attributes := #[] }, { accessFlags := 25, nameIndex := 187, descriptorIndex := 25, attributes := #[] }, { accessFlags := 26, nameIndex := 48, descriptorIndex := 25, attributes := #[] }, { accessFlags := 25, nameIndex := 277, descriptorIndex := 25, attributes := #[] }, { accessFlags := 25, nameIndex := 280, descriptorIndex := 25, attributes := #[] }, { accessFlags := 25, nameIndex := 282, descriptorIndex := 25, attributes := #[] }, { accessFlags := 25, nameIndex := 284, descriptorIndex := 25, attributes := #[] }, { accessFlags := 25, nameIndex := 286, descriptorIndex := 25, attributes := #[] }, { accessFlags := 25, nameIndex := 288, descriptorIndex := 25, attributes := #[] }, { accessFlags := 25, nameIndex := 290, descriptorIndex := 25, attributes := #[] }, { accessFlags := 25, nameIndex := 292, descriptorIndex := 25, attributes := #[] }, { accessFlags := 26, nameIndex := 108, descriptorIndex := 109, attributes := #[] }, { accessFlags := 25, nameIndex := 294, descriptorIndex := 25, attributes := #[] }])
  fields := #[{ name := "U", type := (.object "jdk/internal/misc/Unsafe"), accessFlags := 24, slot := 0, constantValue := 0 }, { name := "BIG_ENDIAN", type := .boolean, accessFlags := 26, slot := 1, constantValue := 0 }, { name := "LOG2_ARRAY_BOOLEAN_INDEX_SCALE", type := .int, accessFlags := 25, slot := 2, constantValue := 0 }, { name := "LOG2_ARRAY_BYTE_INDEX_SCALE", type := .int, accessFlags := 25, slot := 3, constantValue := 0 }, { name := "LOG2_ARRAY_CHAR_INDEX_SCALE", type := .int, accessFlags := 25, slot := 4, constantValue := 0 }, { name := "LOG2_ARRAY_SHORT_INDEX_SCALE", type := .int, accessFlags := 25, slot := 5, constantValue := 0 }, { name := "LOG2_ARRAY_INT_INDEX_SCALE", type := .int, accessFlags := 25, slot := 6, constantValue := 0 }, { name := "LOG2_ARRAY_LONG_INDEX_SCALE", type := .int, accessFlags := 25, slot := 7, constantValue := 0 }, { name := "LOG2_ARRAY_FLOAT_INDEX_SCALE", type := .int, accessFlags := 25, slot := 8, constantValue := 0 }, { name := "LOG2_ARRAY_DOUBLE_INDEX_SCALE", type := .int, accessFlags := 25, slot := 9, constantValue := 0 }, { name := "LOG2_BYTE_BIT_SIZE", type := .int, accessFlags := 26, slot := 10, constantValue := 0 }, { name := "T_BOOLEAN", type := .int, accessFlags := 25, slot := 11, constantValue := 0 }, { name := "T_CHAR", type := .int, accessFlags := 25, slot := 12, constantValue := 0 }, { name := "T_FLOAT", type := .int, accessFlags := 25, slot := 13, constantValue := 0 }, { name := "T_DOUBLE", type := .int, accessFlags := 25, slot := 14, constantValue := 0 }, { name := "T_BYTE", type := .int, accessFlags := 25, slot := 15, constantValue := 0 }, { name := "T_SHORT", type := .int, accessFlags := 25, slot := 16, constantValue := 0 }, { name := "T_INT", type := .int, accessFlags := 25, slot := 17, constantValue := 0 }, { name := "T_LONG", type := .int, accessFlags := 25, slot := 18, constantValue := 0 }, { name := "JLA", type := (.object "jdk/internal/access/JavaLangAccess"), accessFlags := 26, slot := 19, constantValue := 0 }, { name := "SOFT_MAX_ARRAY_LENGTH", type := .int, accessFlags := 25, slot := 20, constantValue := 0 }]
  methods := #[k22m0, k22m1]
  instanceTypes := #[]
  staticTypes := #[(.object "jdk/internal/misc/Unsafe"), .boolean, .int, .int, .int, .int, .int, .int, .int, .int, .int, .int, .int, .int, .int, .int, .int, .int, .int, (.object "jdk/internal/access/JavaLangAccess"), .int]
  resolved := Array.replicate 378 none
  statics := none }

def pool23 : Array CpInfo := pool [(1, .class_ 2), (0, u "java/lang/Cloneable"), (0, .class_ 4), (0, u "java/lang/Object")] 2

/-- java/lang/Cloneable -/
def k23 : Class := { plain "java/lang/Cloneable" (some 0) with
  accessFlags := 1537
  interfaces := #[]
  cf := some (fileOf pool23 1 #[] #[] 1537 3 #[] #[])
  fields := #[]
  methods := #[]
  instanceTypes := #[]
  staticTypes := #[]
  resolved := Array.replicate 7 none
  statics := none }

/-- the primitive byte -/
def k24 : Class := { plain "byte" none with kind := .primitive 'B', accessFlags := 0x411 }
/-- [B -/
def k25 : Class := { plain "[B" (some 0) with kind := .array 24 .byte, interfaces := #[23, 2], accessFlags := 1041 }

/-- the primitive char -/
def k26 : Class := { plain "char" none with kind := .primitive 'C', accessFlags := 0x411 }
/-- [C -/
def k27 : Class := { plain "[C" (some 0) with kind := .array 26 .char, interfaces := #[23, 2], accessFlags := 1041 }

/-- the primitive int -/
def k28 : Class := { plain "int" none with kind := .primitive 'I', accessFlags := 0x411 }
/-- [I -/
def k29 : Class := { plain "[I" (some 0) with kind := .array 28 .int, interfaces := #[23, 2], accessFlags := 1041 }

def heap : Heap := #[{ cls := 7, slots := #[.long 0, .int 1, .null, .int 0, .null, .int 0, .int 0], vm := .statics 7 },
  { cls := 18, slots := #[.int 0, .int 0, .null, .null, .ref 4, .ref 3, .int 0, .int 0, .long 0], vm := .statics 18 },
  { cls := 21, slots := #[.null, .null, .null], vm := .statics 21 },
  { cls := 25, slots := #[.int 48, .int 49, .int 50, .int 51, .int 52, .int 53, .int 54, .int 55, .int 56, .int 57, .int 48, .int 49, .int 50, .int 51, .int 52, .int 53, .int 54, .int 55, .int 56, .int 57, .int 48, .int 49, .int 50, .int 51, .int 52, .int 53, .int 54, .int 55, .int 56, .int 57, .int 48, .int 49, .int 50, .int 51, .int 52, .int 53, .int 54, .int 55, .int 56, .int 57, .int 48, .int 49, .int 50, .int 51, .int 52, .int 53, .int 54, .int 55, .int 56, .int 57, .int 48, .int 49, .int 50, .int 51, .int 52, .int 53, .int 54, .int 55, .int 56, .int 57, .int 48, .int 49, .int 50, .int 51, .int 52, .int 53, .int 54, .int 55, .int 56, .int 57, .int 48, .int 49, .int 50, .int 51, .int 52, .int 53, .int 54, .int 55, .int 56, .int 57, .int 48, .int 49, .int 50, .int 51, .int 52, .int 53, .int 54, .int 55, .int 56, .int 57, .int 48, .int 49, .int 50, .int 51, .int 52, .int 53, .int 54, .int 55, .int 56, .int 57], vm := .none },
  { cls := 25, slots := #[.int 48, .int 48, .int 48, .int 48, .int 48, .int 48, .int 48, .int 48, .int 48, .int 48, .int 49, .int 49, .int 49, .int 49, .int 49, .int 49, .int 49, .int 49, .int 49, .int 49, .int 50, .int 50, .int 50, .int 50, .int 50, .int 50, .int 50, .int 50, .int 50, .int 50, .int 51, .int 51, .int 51, .int 51, .int 51, .int 51, .int 51, .int 51, .int 51, .int 51, .int 52, .int 52, .int 52, .int 52, .int 52, .int 52, .int 52, .int 52, .int 52, .int 52, .int 53, .int 53, .int 53, .int 53, .int 53, .int 53, .int 53, .int 53, .int 53, .int 53, .int 54, .int 54, .int 54, .int 54, .int 54, .int 54, .int 54, .int 54, .int 54, .int 54, .int 55, .int 55, .int 55, .int 55, .int 55, .int 55, .int 55, .int 55, .int 55, .int 55, .int 56, .int 56, .int 56, .int 56, .int 56, .int 56, .int 56, .int 56, .int 56, .int 56, .int 57, .int 57, .int 57, .int 57, .int 57, .int 57, .int 57, .int 57, .int 57, .int 57], vm := .none }]
def classes : Array Class := #[k0, k1, k2, k3, k4, k5, k6, k7, k8, k9, k10, k11, k12, k13, k14, k15, k16, k17, k18, k19, k20, k21, k22, k23, k24, k25, k26, k27, k28, k29]
def interned : List (Array UInt16 × Addr) := []
def slotsUsed : Nat := 219
def theMethod : MethodId := ⟨1, 1⟩
def args0 : Array Value := #[.long 5, .int 80, .int 3]
def aboutOver (below : List Frame) : State where
  vm := { classes := classes, interned := interned.toArray }
  heap := heap
  slotsUsed := slotsUsed
  threads := #[{ frames := .invoking theMethod args0 :: below }]
def below0 : List Frame := [.native { method := ⟨0, 0⟩, args := #[] }]
def about1 : State := aboutOver below0
def p0 : Program := .bare "" "" ""
def e0 : Env := launch0.env 0 0 0
theorem w_frames : about1.frames = Frame.invoking theMethod args0 :: below0 := rfl
set_option maxRecDepth 65536 in
theorem w_args : argsFit about1.vm theMethod args0 = true := by decide +kernel
set_option maxRecDepth 65536 in
theorem w_heap : heapFits about1 = true := by decide +kernel
set_option maxRecDepth 65536 in
theorem w_runnable : about1.curStatus? = some .runnable := by decide +kernel
set_option maxRecDepth 65536 in
theorem w_alone : about1.alone = true := by decide +kernel
set_option maxRecDepth 65536 in
theorem w_named : about1.methodNamed? x = some theMethod := by decide +kernel
set_option maxRecDepth 65536 in
theorem w_hears : about1.hears theMethod below0 = true := by decide +kernel
set_option maxRecDepth 65536 in
theorem w_ripe : about1.ripe theMethod args0 below0 = true := by decide +kernel
theorem w_running : about1.status = .running := rfl
set_option maxRecDepth 65536 in
theorem w_room : about1.hasRoom e0.platform room_1 = true :=
  launch0.hasRoom_least _ room_1 (by decide +kernel) (by decide +kernel) (by decide +kernel) (by decide +kernel) (by decide +kernel) (by decide +kernel)
theorem allAtoms_all (ts : List Jvm.Cond) (a : Array Jvm.Value) (st : Jvm.State) : (allAtoms ts).before a st = ts.all (fun c => c.before a st) := by
  induction ts with
  | nil => rfl
  | cons c t ih =>
    show (Jvm.Cond.and c (allAtoms t)).before a st = _
    rw [Jvm.Cond.before_and, ih, List.all_cons]
def words1 : List Jvm.Cond := Jvm.Cond.code x code maxLocals ret :: tables_1
/-- a 'code' word, met by the world's own term for the bytes: nothing is compared byte by byte -/
theorem code_word {y : MethodName} {bytes : ByteArray} {mx : Nat} {rt : Option FieldType} {a : Array Value} {s : State} {m : MethodId} {meth : Method} {c : Code} (h1 : s.methodNamed? y = some m) (h2 : s.vm.method? m = some meth) (h3 : meth.code = some c) (h4 : c.code = bytes)
    (h5 : (c.maxLocals == mx && c.exceptionTable.isEmpty && decide (c.maxStack ≤ mostOperands) && decide (meth.sig.returnType = rt) && !meth.locks && decide (parseMethodDescriptor y.desc = some meth.sig)) = true) : (Jvm.Cond.code y bytes mx rt).before a s = true := by
  simp only [Bool.and_eq_true, beq_iff_eq, Bool.not_eq_true', decide_eq_true_eq] at h5
  obtain ⟨⟨⟨⟨⟨g1, g2⟩, g3⟩, g4⟩, g5⟩, g6⟩ := h5
  simp [Cond.before, Cond.holds, Cond.value, h1, h2, h3, h4, g1, g2, g3, g4, g5, g6]
def isCode : Jvm.Cond → Bool
  | .code _ _ _ _ => true
  | _ => false
theorem all_split {L : List Jvm.Cond} {P : Jvm.Cond → Bool} (h1 : L.all (fun c => isCode c || P c) = true) (h2 : ∀ c ∈ L.filter isCode, P c = true) : L.all P = true := by
  refine List.all_eq_true.mpr fun c hc => ?_
  have h := List.all_eq_true.mp h1 c hc
  rcases Bool.eq_false_or_eq_true (isCode c) with hi | hi
  · exact h2 c (List.mem_filter.mpr ⟨hc, hi⟩)
  · simpa [hi] using h
set_option maxRecDepth 65536 in
theorem w_c0 : (Jvm.Cond.code x code maxLocals ret).before args0 about1 = true := code_word (m := ⟨1, 1⟩) (meth := k1m1) (c := k1c1) (by decide +kernel) rfl rfl rfl (by decide +kernel)
set_option maxRecDepth 65536 in
theorem w_c1 : (Jvm.Cond.code ({ cls := "java/lang/String", name := "<init>", desc := "([C)V" } : Jvm.MethodName) jdk_42_method_3_code (2 : Nat) (Option.none : Option Jvm.ClassFile.FieldType)).before args0 about1 = true := code_word (m := ⟨7, 1⟩) (meth := k7m1) (c := k7c1) (by decide +kernel) rfl rfl rfl (by decide +kernel)
set_option maxRecDepth 65536 in
theorem w_c2 : (Jvm.Cond.code ({ cls := "java/lang/String", name := "<init>", desc := "([CIILjava/lang/Void;)V" } : Jvm.MethodName) jdk_42_method_149_code (6 : Nat) (Option.none : Option Jvm.ClassFile.FieldType)).before args0 about1 = true := code_word (m := ⟨7, 7⟩) (meth := k7m7) (c := k7c7) (by decide +kernel) rfl rfl rfl (by decide +kernel)
set_option maxRecDepth 65536 in
theorem w_c3 : (Jvm.Cond.code ({ cls := "java/lang/Object", name := "<init>", desc := "()V" } : Jvm.MethodName) object_method_1_code (1 : Nat) (Option.none : Option Jvm.ClassFile.FieldType)).before args0 about1 = true := code_word (m := ⟨0, 0⟩) (meth := k0m0) (c := k0c0) (by decide +kernel) rfl rfl rfl (by decide +kernel)
set_option maxRecDepth 65536 in
theorem w_c4 : (Jvm.Cond.code ({ cls := "java/lang/StringUTF16", name := "compress", desc := "([CII)[B" } : Jvm.MethodName) jdk_52_method_16_code (6 : Nat) (Option.some (Jvm.ClassFile.FieldType.array Jvm.ClassFile.FieldType.byte))).before args0 about1 = true := code_word (m := ⟨8, 2⟩) (meth := k8m2) (c := k8c2) (by decide +kernel) rfl rfl rfl (by decide +kernel)
set_option maxRecDepth 65536 in
theorem w_c5 : (Jvm.Cond.code ({ cls := "java/lang/StringUTF16", name := "compress", desc := "([CI[BII)I" } : Jvm.MethodName) jdk_52_method_21_code (7 : Nat) (Option.some Jvm.ClassFile.FieldType.int)).before args0 about1 = true := code_word (m := ⟨8, 3⟩) (meth := k8m3) (c := k8c3) (by decide +kernel) rfl rfl rfl (by decide +kernel)
set_option maxRecDepth 65536 in
theorem w_c6 : (Jvm.Cond.code ({ cls := "java/lang/StringUTF16", name := "coderFromArrayLen", desc := "([BI)B" } : Jvm.MethodName) jdk_52_method_15_code (2 : Nat) (Option.some Jvm.ClassFile.FieldType.byte)).before args0 about1 = true := code_word (m := ⟨8, 1⟩) (meth := k8m1) (c := k8c1) (by decide +kernel) rfl rfl rfl (by decide +kernel)
set_option maxRecDepth 65536 in
theorem w_c7 : (Jvm.Cond.code ({ cls := "java/lang/Math", name := "max", desc := "(II)I" } : Jvm.MethodName) jdk_29_method_65_code (2 : Nat) (Option.some Jvm.ClassFile.FieldType.int)).before args0 about1 = true := code_word (m := ⟨9, 1⟩) (meth := k9m1) (c := k9c1) (by decide +kernel) rfl rfl rfl (by decide +kernel)
set_option maxRecDepth 65536 in
theorem w_c8 : (Jvm.Cond.code ({ cls := "com/example/phal/phal/model/SourcePosition", name := "<init>", desc := "(Ljava/lang/String;II)V" } : Jvm.MethodName) prog_13_method_1_code (4 : Nat) (Option.none : Option Jvm.ClassFile.FieldType)).before args0 about1 = true := code_word (m := ⟨11, 0⟩) (meth := k11m0) (c := k11c0) (by decide +kernel) rfl rfl rfl (by decide +kernel)
set_option maxRecDepth 65536 in
theorem w_c9 : (Jvm.Cond.code ({ cls := "java/lang/Record", name := "<init>", desc := "()V" } : Jvm.MethodName) jdk_30_method_1_code (1 : Nat) (Option.none : Option Jvm.ClassFile.FieldType)).before args0 about1 = true := code_word (m := ⟨10, 0⟩) (meth := k10m0) (c := k10c0) (by decide +kernel) rfl rfl rfl (by decide +kernel)
set_option maxRecDepth 65536 in
theorem w_c10 : (Jvm.Cond.code ({ cls := "java/util/Objects", name := "requireNonNull", desc := "(Ljava/lang/Object;Ljava/lang/String;)Ljava/lang/Object;" } : Jvm.MethodName) jdk_31_method_11_code (2 : Nat) (Option.some (Jvm.ClassFile.FieldType.object "java/lang/Object"))).before args0 about1 = true := code_word (m := ⟨12, 1⟩) (meth := k12m1) (c := k12c1) (by decide +kernel) rfl rfl rfl (by decide +kernel)
set_option maxRecDepth 65536 in
theorem w_c11 : (Jvm.Cond.code ({ cls := "com/example/phal/phal/model/SourcePosition", name := "toString", desc := "()Ljava/lang/String;" } : Jvm.MethodName) prog_13_method_2_code (1 : Nat) (Option.some (Jvm.ClassFile.FieldType.object "java/lang/String"))).before args0 about1 = true := code_word (m := ⟨11, 1⟩) (meth := k11m1) (c := k11c1) (by decide +kernel) rfl rfl rfl (by decide +kernel)
set_option maxRecDepth 65536 in
theorem w_c12 : (Jvm.Cond.code ({ cls := "java/lang/StringBuilder", name := "<init>", desc := "()V" } : Jvm.MethodName) jdk_67_method_1_code (1 : Nat) (Option.none : Option Jvm.ClassFile.FieldType)).before args0 about1 = true := code_word (m := ⟨15, 0⟩) (meth := k15m0) (c := k15c0) (by decide +kernel) rfl rfl rfl (by decide +kernel)
set_option maxRecDepth 65536 in
theorem w_c13 : (Jvm.Cond.code ({ cls := "java/lang/AbstractStringBuilder", name := "<init>", desc := "(I)V" } : Jvm.MethodName) jdk_68_method_2_code (2 : Nat) (Option.none : Option Jvm.ClassFile.FieldType)).before args0 about1 = true := code_word (m := ⟨14, 1⟩) (meth := k14m1) (c := k14c1) (by decide +kernel) rfl rfl rfl (by decide +kernel)
set_option maxRecDepth 65536 in
theorem w_c14 : (Jvm.Cond.code ({ cls := "java/lang/StringBuilder", name := "append", desc := "(Ljava/lang/String;)Ljava/lang/StringBuilder;" } : Jvm.MethodName) jdk_67_method_7_code (2 : Nat) (Option.some (Jvm.ClassFile.FieldType.object "java/lang/StringBuilder"))).before args0 about1 = true := code_word (m := ⟨15, 1⟩) (meth := k15m1) (c := k15c1) (by decide +kernel) rfl rfl rfl (by decide +kernel)
set_option maxRecDepth 65536 in
theorem w_c15 : (Jvm.Cond.code ({ cls := "java/lang/AbstractStringBuilder", name := "append", desc := "(Ljava/lang/String;)Ljava/lang/AbstractStringBuilder;" } : Jvm.MethodName) jdk_68_method_22_code (3 : Nat) (Option.some (Jvm.ClassFile.FieldType.object "java/lang/AbstractStringBuilder"))).before args0 about1 = true := code_word (m := ⟨14, 5⟩) (meth := k14m5) (c := k14c5) (by decide +kernel) rfl rfl rfl (by decide +kernel)
set_option maxRecDepth 65536 in
theorem w_c16 : (Jvm.Cond.code ({ cls := "java/lang/String", name := "length", desc := "()I" } : Jvm.MethodName) jdk_42_method_54_code (1 : Nat) (Option.some Jvm.ClassFile.FieldType.int)).before args0 about1 = true := code_word (m := ⟨7, 3⟩) (meth := k7m3) (c := k7c3) (by decide +kernel) rfl rfl rfl (by decide +kernel)
set_option maxRecDepth 65536 in
theorem w_c17 : (Jvm.Cond.code ({ cls := "java/lang/String", name := "coder", desc := "()B" } : Jvm.MethodName) jdk_42_method_152_code (1 : Nat) (Option.some Jvm.ClassFile.FieldType.byte)).before args0 about1 = true := code_word (m := ⟨7, 10⟩) (meth := k7m10) (c := k7c10) (by decide +kernel) rfl rfl rfl (by decide +kernel)
set_option maxRecDepth 65536 in
theorem w_c18 : (Jvm.Cond.code ({ cls := "java/lang/AbstractStringBuilder", name := "ensureCapacityInternal", desc := "(I)V" } : Jvm.MethodName) jdk_68_method_9_code (3 : Nat) (Option.none : Option Jvm.ClassFile.FieldType)).before args0 about1 = true := code_word (m := ⟨14, 3⟩) (meth := k14m3) (c := k14c3) (by decide +kernel) rfl rfl rfl (by decide +kernel)
set_option maxRecDepth 65536 in
theorem w_c19 : (Jvm.Cond.code ({ cls := "java/lang/AbstractStringBuilder", name := "putStringAt", desc := "(ILjava/lang/String;)V" } : Jvm.MethodName) jdk_68_method_73_code (3 : Nat) (Option.none : Option Jvm.ClassFile.FieldType)).before args0 about1 = true := code_word (m := ⟨14, 10⟩) (meth := k14m10) (c := k14c10) (by decide +kernel) rfl rfl rfl (by decide +kernel)
set_option maxRecDepth 65536 in
theorem w_c20 : (Jvm.Cond.code ({ cls := "java/lang/AbstractStringBuilder", name := "inflateIfNeededFor", desc := "(Ljava/lang/String;)V" } : Jvm.MethodName) jdk_68_method_71_code (2 : Nat) (Option.none : Option Jvm.ClassFile.FieldType)).before args0 about1 = true := code_word (m := ⟨14, 9⟩) (meth := k14m9) (c := k14c9) (by decide +kernel) rfl rfl rfl (by decide +kernel)
set_option maxRecDepth 65536 in
theorem w_c21 : (Jvm.Cond.code ({ cls := "java/lang/String", name := "getBytes", desc := "([BIB)V" } : Jvm.MethodName) jdk_42_method_147_code (4 : Nat) (Option.none : Option Jvm.ClassFile.FieldType)).before args0 about1 = true := code_word (m := ⟨7, 6⟩) (meth := k7m6) (c := k7c6) (by decide +kernel) rfl rfl rfl (by decide +kernel)
set_option maxRecDepth 65536 in
theorem w_c22 : (Jvm.Cond.code ({ cls := "java/lang/StringBuilder", name := "append", desc := "(I)Ljava/lang/StringBuilder;" } : Jvm.MethodName) jdk_67_method_15_code (2 : Nat) (Option.some (Jvm.ClassFile.FieldType.object "java/lang/StringBuilder"))).before args0 about1 = true := code_word (m := ⟨15, 2⟩) (meth := k15m2) (c := k15c2) (by decide +kernel) rfl rfl rfl (by decide +kernel)
set_option maxRecDepth 65536 in
theorem w_c23 : (Jvm.Cond.code ({ cls := "java/lang/AbstractStringBuilder", name := "append", desc := "(I)Ljava/lang/AbstractStringBuilder;" } : Jvm.MethodName) jdk_68_method_32_code (4 : Nat) (Option.some (Jvm.ClassFile.FieldType.object "java/lang/AbstractStringBuilder"))).before args0 about1 = true := code_word (m := ⟨14, 6⟩) (meth := k14m6) (c := k14c6) (by decide +kernel) rfl rfl rfl (by decide +kernel)
set_option maxRecDepth 65536 in
theorem w_c24 : (Jvm.Cond.code ({ cls := "java/lang/Integer", name := "stringSize", desc := "(I)I" } : Jvm.MethodName) jdk_33_method_13_code (4 : Nat) (Option.some Jvm.ClassFile.FieldType.int)).before args0 about1 = true := code_word (m := ⟨18, 1⟩) (meth := k18m1) (c := k18c1) (by decide +kernel) rfl rfl rfl (by decide +kernel)
set_option maxRecDepth 65536 in
theorem w_c25 : (Jvm.Cond.code ({ cls := "java/lang/AbstractStringBuilder", name := "isLatin1", desc := "()Z" } : Jvm.MethodName) jdk_68_method_68_code (1 : Nat) (Option.some Jvm.ClassFile.FieldType.boolean)).before args0 about1 = true := code_word (m := ⟨14, 8⟩) (meth := k14m8) (c := k14c8) (by decide +kernel) rfl rfl rfl (by decide +kernel)
set_option maxRecDepth 65536 in
theorem w_c26 : (Jvm.Cond.code ({ cls := "java/lang/Integer", name := "getChars", desc := "(II[B)I" } : Jvm.MethodName) jdk_33_method_12_code (7 : Nat) (Option.some Jvm.ClassFile.FieldType.int)).before args0 about1 = true := code_word (m := ⟨18, 0⟩) (meth := k18m0) (c := k18c0) (by decide +kernel) rfl rfl rfl (by decide +kernel)
set_option maxRecDepth 65536 in
theorem w_c27 : (Jvm.Cond.code ({ cls := "java/lang/StringBuilder", name := "toString", desc := "()Ljava/lang/String;" } : Jvm.MethodName) jdk_67_method_42_code (1 : Nat) (Option.some (Jvm.ClassFile.FieldType.object "java/lang/String"))).before args0 about1 = true := code_word (m := ⟨15, 3⟩) (meth := k15m3) (c := k15c3) (by decide +kernel) rfl rfl rfl (by decide +kernel)
set_option maxRecDepth 65536 in
theorem w_c28 : (Jvm.Cond.code ({ cls := "java/lang/String", name := "<init>", desc := "(Ljava/lang/StringBuilder;)V" } : Jvm.MethodName) jdk_42_method_53_code (2 : Nat) (Option.none : Option Jvm.ClassFile.FieldType)).before args0 about1 = true := code_word (m := ⟨7, 2⟩) (meth := k7m2) (c := k7c2) (by decide +kernel) rfl rfl rfl (by decide +kernel)
set_option maxRecDepth 65536 in
theorem w_c29 : (Jvm.Cond.code ({ cls := "java/lang/String", name := "<init>", desc := "(Ljava/lang/AbstractStringBuilder;Ljava/lang/Void;)V" } : Jvm.MethodName) jdk_42_method_150_code (5 : Nat) (Option.none : Option Jvm.ClassFile.FieldType)).before args0 about1 = true := code_word (m := ⟨7, 8⟩) (meth := k7m8) (c := k7c8) (by decide +kernel) rfl rfl rfl (by decide +kernel)
set_option maxRecDepth 65536 in
theorem w_c30 : (Jvm.Cond.code ({ cls := "java/lang/AbstractStringBuilder", name := "getValue", desc := "()[B" } : Jvm.MethodName) jdk_68_method_64_code (1 : Nat) (Option.some (Jvm.ClassFile.FieldType.array Jvm.ClassFile.FieldType.byte))).before args0 about1 = true := code_word (m := ⟨14, 7⟩) (meth := k14m7) (c := k14c7) (by decide +kernel) rfl rfl rfl (by decide +kernel)
set_option maxRecDepth 65536 in
theorem w_c31 : (Jvm.Cond.code ({ cls := "java/lang/StringBuilder", name := "length", desc := "()I" } : Jvm.MethodName) jdk_67_method_93_code (1 : Nat) (Option.some Jvm.ClassFile.FieldType.int)).before args0 about1 = true := code_word (m := ⟨15, 4⟩) (meth := k15m4) (c := k15c4) (by decide +kernel) rfl rfl rfl (by decide +kernel)
set_option maxRecDepth 65536 in
theorem w_c32 : (Jvm.Cond.code ({ cls := "java/lang/AbstractStringBuilder", name := "length", desc := "()I" } : Jvm.MethodName) jdk_68_method_6_code (1 : Nat) (Option.some Jvm.ClassFile.FieldType.int)).before args0 about1 = true := code_word (m := ⟨14, 2⟩) (meth := k14m2) (c := k14c2) (by decide +kernel) rfl rfl rfl (by decide +kernel)
set_option maxRecDepth 65536 in
theorem w_c33 : (Jvm.Cond.code ({ cls := "java/util/Arrays", name := "copyOfRange", desc := "([BII)[B" } : Jvm.MethodName) jdk_65_method_132_code (3 : Nat) (Option.some (Jvm.ClassFile.FieldType.array Jvm.ClassFile.FieldType.byte))).before args0 about1 = true := code_word (m := ⟨19, 3⟩) (meth := k19m3) (c := k19c3) (by decide +kernel) rfl rfl rfl (by decide +kernel)
set_option maxRecDepth 65536 in
theorem w_c34 : (Jvm.Cond.code ({ cls := "java/util/Arrays", name := "copyOfRangeByte", desc := "([BII)[B" } : Jvm.MethodName) jdk_65_method_133_code (5 : Nat) (Option.some (Jvm.ClassFile.FieldType.array Jvm.ClassFile.FieldType.byte))).before args0 about1 = true := code_word (m := ⟨19, 4⟩) (meth := k19m4) (c := k19c4) (by decide +kernel) rfl rfl rfl (by decide +kernel)
set_option maxRecDepth 65536 in
theorem w_c35 : (Jvm.Cond.code ({ cls := "java/util/Arrays", name := "checkLength", desc := "(II)V" } : Jvm.MethodName) jdk_65_method_131_code (2 : Nat) (Option.none : Option Jvm.ClassFile.FieldType)).before args0 about1 = true := code_word (m := ⟨19, 2⟩) (meth := k19m2) (c := k19c2) (by decide +kernel) rfl rfl rfl (by decide +kernel)
set_option maxRecDepth 65536 in
theorem w_c36 : (Jvm.Cond.code ({ cls := "java/lang/Math", name := "min", desc := "(II)I" } : Jvm.MethodName) jdk_29_method_69_code (2 : Nat) (Option.some Jvm.ClassFile.FieldType.int)).before args0 about1 = true := code_word (m := ⟨9, 2⟩) (meth := k9m2) (c := k9c2) (by decide +kernel) rfl rfl rfl (by decide +kernel)
set_option maxRecDepth 65536 in
theorem w_c37 : (Jvm.Cond.code ({ cls := "com/example/phal/phal/model/SourcePositionToStringPinLaw", name := "digits", desc := "(I)I" } : Jvm.MethodName) method_3_code (1 : Nat) (Option.some Jvm.ClassFile.FieldType.int)).before args0 about1 = true := code_word (m := ⟨1, 2⟩) (meth := k1m2) (c := k1c2) (by decide +kernel) rfl rfl rfl (by decide +kernel)
set_option maxRecDepth 65536 in
theorem w_c38 : (Jvm.Cond.code ({ cls := "java/lang/String", name := "charAt", desc := "(I)C" } : Jvm.MethodName) jdk_42_method_56_code (2 : Nat) (Option.some Jvm.ClassFile.FieldType.char)).before args0 about1 = true := code_word (m := ⟨7, 4⟩) (meth := k7m4) (c := k7c4) (by decide +kernel) rfl rfl rfl (by decide +kernel)
set_option maxRecDepth 65536 in
theorem w_c39 : (Jvm.Cond.code ({ cls := "java/lang/String", name := "isLatin1", desc := "()Z" } : Jvm.MethodName) jdk_42_method_154_code (1 : Nat) (Option.some Jvm.ClassFile.FieldType.boolean)).before args0 about1 = true := code_word (m := ⟨7, 11⟩) (meth := k7m11) (c := k7c11) (by decide +kernel) rfl rfl rfl (by decide +kernel)
set_option maxRecDepth 65536 in
theorem w_c40 : (Jvm.Cond.code ({ cls := "java/lang/StringLatin1", name := "charAt", desc := "([BI)C" } : Jvm.MethodName) jdk_43_method_2_code (2 : Nat) (Option.some Jvm.ClassFile.FieldType.char)).before args0 about1 = true := code_word (m := ⟨20, 1⟩) (meth := k20m1) (c := k20c1) (by decide +kernel) rfl rfl rfl (by decide +kernel)
set_option maxRecDepth 65536 in
theorem w_c41 : (Jvm.Cond.code ({ cls := "java/lang/String", name := "checkIndex", desc := "(II)V" } : Jvm.MethodName) jdk_42_method_155_code (2 : Nat) (Option.none : Option Jvm.ClassFile.FieldType)).before args0 about1 = true := code_word (m := ⟨7, 12⟩) (meth := k7m12) (c := k7c12) (by decide +kernel) rfl rfl rfl (by decide +kernel)
set_option maxRecDepth 65536 in
theorem w_c42 : (Jvm.Cond.code ({ cls := "jdk/internal/util/Preconditions", name := "checkIndex", desc := "(IILjava/util/function/BiFunction;)I" } : Jvm.MethodName) jdk_41_method_11_code (3 : Nat) (Option.some Jvm.ClassFile.FieldType.int)).before args0 about1 = true := code_word (m := ⟨21, 1⟩) (meth := k21m1) (c := k21c1) (by decide +kernel) rfl rfl rfl (by decide +kernel)
set_option maxRecDepth 65536 in
theorem w_c43 : (Jvm.Cond.code ({ cls := "com/example/phal/phal/model/SourcePositionToStringPinLaw", name := "number", desc := "(Ljava/lang/String;III)Z" } : Jvm.MethodName) method_6_code (4 : Nat) (Option.some Jvm.ClassFile.FieldType.boolean)).before args0 about1 = true := code_word (m := ⟨1, 5⟩) (meth := k1m5) (c := k1c5) (by decide +kernel) rfl rfl rfl (by decide +kernel)
set_option maxRecDepth 65536 in
theorem w_c44 : (Jvm.Cond.code ({ cls := "com/example/phal/phal/model/SourcePositionToStringPinLaw", name := "digitAt", desc := "(Ljava/lang/String;IIII)Z" } : Jvm.MethodName) method_5_code (6 : Nat) (Option.some Jvm.ClassFile.FieldType.boolean)).before args0 about1 = true := code_word (m := ⟨1, 4⟩) (meth := k1m4) (c := k1c4) (by decide +kernel) rfl rfl rfl (by decide +kernel)
set_option maxRecDepth 65536 in
theorem w_c45 : (Jvm.Cond.code ({ cls := "com/example/phal/phal/model/SourcePositionToStringPinLaw", name := "pow10", desc := "(I)I" } : Jvm.MethodName) method_4_code (1 : Nat) (Option.some Jvm.ClassFile.FieldType.int)).before args0 about1 = true := code_word (m := ⟨1, 3⟩) (meth := k1m3) (c := k1c3) (by decide +kernel) rfl rfl rfl (by decide +kernel)
set_option maxRecDepth 65536 in
theorem w_c46 : (Jvm.Cond.code ({ cls := "java/lang/AbstractStringBuilder", name := "newCapacity", desc := "(I)I" } : Jvm.MethodName) jdk_68_method_10_code (6 : Nat) (Option.some Jvm.ClassFile.FieldType.int)).before args0 about1 = true := code_word (m := ⟨14, 4⟩) (meth := k14m4) (c := k14c4) (by decide +kernel) rfl rfl rfl (by decide +kernel)
set_option maxRecDepth 65536 in
theorem w_c47 : (Jvm.Cond.code ({ cls := "jdk/internal/util/ArraysSupport", name := "newLength", desc := "(III)I" } : Jvm.MethodName) jdk_48_method_27_code (4 : Nat) (Option.some Jvm.ClassFile.FieldType.int)).before args0 about1 = true := code_word (m := ⟨22, 1⟩) (meth := k22m1) (c := k22c1) (by decide +kernel) rfl rfl rfl (by decide +kernel)
set_option maxRecDepth 65536 in
theorem w_c48 : (Jvm.Cond.code ({ cls := "java/util/Arrays", name := "copyOf", desc := "([BI)[B" } : Jvm.MethodName) jdk_65_method_121_code (3 : Nat) (Option.some (Jvm.ClassFile.FieldType.array Jvm.ClassFile.FieldType.byte))).before args0 about1 = true := code_word (m := ⟨19, 1⟩) (meth := k19m1) (c := k19c1) (by decide +kernel) rfl rfl rfl (by decide +kernel)
set_option maxRecDepth 65536 in
theorem w_c49 : (Jvm.Cond.code ({ cls := "java/lang/String", name := "valueOf", desc := "(C)Ljava/lang/String;" } : Jvm.MethodName) jdk_42_method_139_code (1 : Nat) (Option.some (Jvm.ClassFile.FieldType.object "java/lang/String"))).before args0 about1 = true := code_word (m := ⟨7, 5⟩) (meth := k7m5) (c := k7c5) (by decide +kernel) rfl rfl rfl (by decide +kernel)
set_option maxRecDepth 65536 in
theorem w_c50 : (Jvm.Cond.code ({ cls := "java/lang/StringLatin1", name := "canEncode", desc := "(C)Z" } : Jvm.MethodName) jdk_43_method_3_code (1 : Nat) (Option.some Jvm.ClassFile.FieldType.boolean)).before args0 about1 = true := code_word (m := ⟨20, 2⟩) (meth := k20m2) (c := k20c2) (by decide +kernel) rfl rfl rfl (by decide +kernel)
set_option maxRecDepth 65536 in
theorem w_c51 : (Jvm.Cond.code ({ cls := "java/lang/StringLatin1", name := "toBytes", desc := "(C)[B" } : Jvm.MethodName) jdk_43_method_46_code (1 : Nat) (Option.some (Jvm.ClassFile.FieldType.array Jvm.ClassFile.FieldType.byte))).before args0 about1 = true := code_word (m := ⟨20, 3⟩) (meth := k20m3) (c := k20c3) (by decide +kernel) rfl rfl rfl (by decide +kernel)
set_option maxRecDepth 65536 in
theorem w_c52 : (Jvm.Cond.code ({ cls := "java/lang/String", name := "<init>", desc := "([BB)V" } : Jvm.MethodName) jdk_42_method_151_code (3 : Nat) (Option.none : Option Jvm.ClassFile.FieldType)).before args0 about1 = true := code_word (m := ⟨7, 9⟩) (meth := k7m9) (c := k7c9) (by decide +kernel) rfl rfl rfl (by decide +kernel)
def codes1 : List Jvm.Cond := [Jvm.Cond.code x code maxLocals ret, Jvm.Cond.code ({ cls := "java/lang/String", name := "<init>", desc := "([C)V" } : Jvm.MethodName) jdk_42_method_3_code (2 : Nat) (Option.none : Option Jvm.ClassFile.FieldType), Jvm.Cond.code ({ cls := "java/lang/String", name := "<init>", desc := "([CIILjava/lang/Void;)V" } : Jvm.MethodName) jdk_42_method_149_code (6 : Nat) (Option.none : Option Jvm.ClassFile.FieldType), Jvm.Cond.code ({ cls := "java/lang/Object", name := "<init>", desc := "()V" } : Jvm.MethodName) object_method_1_code (1 : Nat) (Option.none : Option Jvm.ClassFile.FieldType), Jvm.Cond.code ({ cls := "java/lang/StringUTF16", name := "compress", desc := "([CII)[B" } : Jvm.MethodName) jdk_52_method_16_code (6 : Nat) (Option.some (Jvm.ClassFile.FieldType.array Jvm.ClassFile.FieldType.byte)), Jvm.Cond.code ({ cls := "java/lang/StringUTF16", name := "compress", desc := "([CI[BII)I" } : Jvm.MethodName) jdk_52_method_21_code (7 : Nat) (Option.some Jvm.ClassFile.FieldType.int), Jvm.Cond.code ({ cls := "java/lang/StringUTF16", name := "coderFromArrayLen", desc := "([BI)B" } : Jvm.MethodName) jdk_52_method_15_code (2 : Nat) (Option.some Jvm.ClassFile.FieldType.byte), Jvm.Cond.code ({ cls := "java/lang/Math", name := "max", desc := "(II)I" } : Jvm.MethodName) jdk_29_method_65_code (2 : Nat) (Option.some Jvm.ClassFile.FieldType.int), Jvm.Cond.code ({ cls := "com/example/phal/phal/model/SourcePosition", name := "<init>", desc := "(Ljava/lang/String;II)V" } : Jvm.MethodName) prog_13_method_1_code (4 : Nat) (Option.none : Option Jvm.ClassFile.FieldType), Jvm.Cond.code ({ cls := "java/lang/Record", name := "<init>", desc := "()V" } : Jvm.MethodName) jdk_30_method_1_code (1 : Nat) (Option.none : Option Jvm.ClassFile.FieldType), Jvm.Cond.code ({ cls := "java/util/Objects", name := "requireNonNull", desc := "(Ljava/lang/Object;Ljava/lang/String;)Ljava/lang/Object;" } : Jvm.MethodName) jdk_31_method_11_code (2 : Nat) (Option.some (Jvm.ClassFile.FieldType.object "java/lang/Object")), Jvm.Cond.code ({ cls := "com/example/phal/phal/model/SourcePosition", name := "toString", desc := "()Ljava/lang/String;" } : Jvm.MethodName) prog_13_method_2_code (1 : Nat) (Option.some (Jvm.ClassFile.FieldType.object "java/lang/String")), Jvm.Cond.code ({ cls := "java/lang/StringBuilder", name := "<init>", desc := "()V" } : Jvm.MethodName) jdk_67_method_1_code (1 : Nat) (Option.none : Option Jvm.ClassFile.FieldType), Jvm.Cond.code ({ cls := "java/lang/AbstractStringBuilder", name := "<init>", desc := "(I)V" } : Jvm.MethodName) jdk_68_method_2_code (2 : Nat) (Option.none : Option Jvm.ClassFile.FieldType), Jvm.Cond.code ({ cls := "java/lang/StringBuilder", name := "append", desc := "(Ljava/lang/String;)Ljava/lang/StringBuilder;" } : Jvm.MethodName) jdk_67_method_7_code (2 : Nat) (Option.some (Jvm.ClassFile.FieldType.object "java/lang/StringBuilder")), Jvm.Cond.code ({ cls := "java/lang/AbstractStringBuilder", name := "append", desc := "(Ljava/lang/String;)Ljava/lang/AbstractStringBuilder;" } : Jvm.MethodName) jdk_68_method_22_code (3 : Nat) (Option.some (Jvm.ClassFile.FieldType.object "java/lang/AbstractStringBuilder")), Jvm.Cond.code ({ cls := "java/lang/String", name := "length", desc := "()I" } : Jvm.MethodName) jdk_42_method_54_code (1 : Nat) (Option.some Jvm.ClassFile.FieldType.int), Jvm.Cond.code ({ cls := "java/lang/String", name := "coder", desc := "()B" } : Jvm.MethodName) jdk_42_method_152_code (1 : Nat) (Option.some Jvm.ClassFile.FieldType.byte), Jvm.Cond.code ({ cls := "java/lang/AbstractStringBuilder", name := "ensureCapacityInternal", desc := "(I)V" } : Jvm.MethodName) jdk_68_method_9_code (3 : Nat) (Option.none : Option Jvm.ClassFile.FieldType), Jvm.Cond.code ({ cls := "java/lang/AbstractStringBuilder", name := "putStringAt", desc := "(ILjava/lang/String;)V" } : Jvm.MethodName) jdk_68_method_73_code (3 : Nat) (Option.none : Option Jvm.ClassFile.FieldType), Jvm.Cond.code ({ cls := "java/lang/AbstractStringBuilder", name := "inflateIfNeededFor", desc := "(Ljava/lang/String;)V" } : Jvm.MethodName) jdk_68_method_71_code (2 : Nat) (Option.none : Option Jvm.ClassFile.FieldType), Jvm.Cond.code ({ cls := "java/lang/String", name := "getBytes", desc := "([BIB)V" } : Jvm.MethodName) jdk_42_method_147_code (4 : Nat) (Option.none : Option Jvm.ClassFile.FieldType), Jvm.Cond.code ({ cls := "java/lang/StringBuilder", name := "append", desc := "(I)Ljava/lang/StringBuilder;" } : Jvm.MethodName) jdk_67_method_15_code (2 : Nat) (Option.some (Jvm.ClassFile.FieldType.object "java/lang/StringBuilder")), Jvm.Cond.code ({ cls := "java/lang/AbstractStringBuilder", name := "append", desc := "(I)Ljava/lang/AbstractStringBuilder;" } : Jvm.MethodName) jdk_68_method_32_code (4 : Nat) (Option.some (Jvm.ClassFile.FieldType.object "java/lang/AbstractStringBuilder")), Jvm.Cond.code ({ cls := "java/lang/Integer", name := "stringSize", desc := "(I)I" } : Jvm.MethodName) jdk_33_method_13_code (4 : Nat) (Option.some Jvm.ClassFile.FieldType.int), Jvm.Cond.code ({ cls := "java/lang/AbstractStringBuilder", name := "isLatin1", desc := "()Z" } : Jvm.MethodName) jdk_68_method_68_code (1 : Nat) (Option.some Jvm.ClassFile.FieldType.boolean), Jvm.Cond.code ({ cls := "java/lang/Integer", name := "getChars", desc := "(II[B)I" } : Jvm.MethodName) jdk_33_method_12_code (7 : Nat) (Option.some Jvm.ClassFile.FieldType.int), Jvm.Cond.code ({ cls := "java/lang/StringBuilder", name := "toString", desc := "()Ljava/lang/String;" } : Jvm.MethodName) jdk_67_method_42_code (1 : Nat) (Option.some (Jvm.ClassFile.FieldType.object "java/lang/String")), Jvm.Cond.code ({ cls := "java/lang/String", name := "<init>", desc := "(Ljava/lang/StringBuilder;)V" } : Jvm.MethodName) jdk_42_method_53_code (2 : Nat) (Option.none : Option Jvm.ClassFile.FieldType), Jvm.Cond.code ({ cls := "java/lang/String", name := "<init>", desc := "(Ljava/lang/AbstractStringBuilder;Ljava/lang/Void;)V" } : Jvm.MethodName) jdk_42_method_150_code (5 : Nat) (Option.none : Option Jvm.ClassFile.FieldType), Jvm.Cond.code ({ cls := "java/lang/AbstractStringBuilder", name := "getValue", desc := "()[B" } : Jvm.MethodName) jdk_68_method_64_code (1 : Nat) (Option.some (Jvm.ClassFile.FieldType.array Jvm.ClassFile.FieldType.byte)), Jvm.Cond.code ({ cls := "java/lang/StringBuilder", name := "length", desc := "()I" } : Jvm.MethodName) jdk_67_method_93_code (1 : Nat) (Option.some Jvm.ClassFile.FieldType.int), Jvm.Cond.code ({ cls := "java/lang/AbstractStringBuilder", name := "length", desc := "()I" } : Jvm.MethodName) jdk_68_method_6_code (1 : Nat) (Option.some Jvm.ClassFile.FieldType.int), Jvm.Cond.code ({ cls := "java/util/Arrays", name := "copyOfRange", desc := "([BII)[B" } : Jvm.MethodName) jdk_65_method_132_code (3 : Nat) (Option.some (Jvm.ClassFile.FieldType.array Jvm.ClassFile.FieldType.byte)), Jvm.Cond.code ({ cls := "java/util/Arrays", name := "copyOfRangeByte", desc := "([BII)[B" } : Jvm.MethodName) jdk_65_method_133_code (5 : Nat) (Option.some (Jvm.ClassFile.FieldType.array Jvm.ClassFile.FieldType.byte)), Jvm.Cond.code ({ cls := "java/util/Arrays", name := "checkLength", desc := "(II)V" } : Jvm.MethodName) jdk_65_method_131_code (2 : Nat) (Option.none : Option Jvm.ClassFile.FieldType), Jvm.Cond.code ({ cls := "java/lang/Math", name := "min", desc := "(II)I" } : Jvm.MethodName) jdk_29_method_69_code (2 : Nat) (Option.some Jvm.ClassFile.FieldType.int), Jvm.Cond.code ({ cls := "com/example/phal/phal/model/SourcePositionToStringPinLaw", name := "digits", desc := "(I)I" } : Jvm.MethodName) method_3_code (1 : Nat) (Option.some Jvm.ClassFile.FieldType.int), Jvm.Cond.code ({ cls := "java/lang/String", name := "charAt", desc := "(I)C" } : Jvm.MethodName) jdk_42_method_56_code (2 : Nat) (Option.some Jvm.ClassFile.FieldType.char), Jvm.Cond.code ({ cls := "java/lang/String", name := "isLatin1", desc := "()Z" } : Jvm.MethodName) jdk_42_method_154_code (1 : Nat) (Option.some Jvm.ClassFile.FieldType.boolean), Jvm.Cond.code ({ cls := "java/lang/StringLatin1", name := "charAt", desc := "([BI)C" } : Jvm.MethodName) jdk_43_method_2_code (2 : Nat) (Option.some Jvm.ClassFile.FieldType.char), Jvm.Cond.code ({ cls := "java/lang/String", name := "checkIndex", desc := "(II)V" } : Jvm.MethodName) jdk_42_method_155_code (2 : Nat) (Option.none : Option Jvm.ClassFile.FieldType), Jvm.Cond.code ({ cls := "jdk/internal/util/Preconditions", name := "checkIndex", desc := "(IILjava/util/function/BiFunction;)I" } : Jvm.MethodName) jdk_41_method_11_code (3 : Nat) (Option.some Jvm.ClassFile.FieldType.int), Jvm.Cond.code ({ cls := "com/example/phal/phal/model/SourcePositionToStringPinLaw", name := "number", desc := "(Ljava/lang/String;III)Z" } : Jvm.MethodName) method_6_code (4 : Nat) (Option.some Jvm.ClassFile.FieldType.boolean), Jvm.Cond.code ({ cls := "com/example/phal/phal/model/SourcePositionToStringPinLaw", name := "digitAt", desc := "(Ljava/lang/String;IIII)Z" } : Jvm.MethodName) method_5_code (6 : Nat) (Option.some Jvm.ClassFile.FieldType.boolean), Jvm.Cond.code ({ cls := "com/example/phal/phal/model/SourcePositionToStringPinLaw", name := "pow10", desc := "(I)I" } : Jvm.MethodName) method_4_code (1 : Nat) (Option.some Jvm.ClassFile.FieldType.int), Jvm.Cond.code ({ cls := "java/lang/AbstractStringBuilder", name := "newCapacity", desc := "(I)I" } : Jvm.MethodName) jdk_68_method_10_code (6 : Nat) (Option.some Jvm.ClassFile.FieldType.int), Jvm.Cond.code ({ cls := "jdk/internal/util/ArraysSupport", name := "newLength", desc := "(III)I" } : Jvm.MethodName) jdk_48_method_27_code (4 : Nat) (Option.some Jvm.ClassFile.FieldType.int), Jvm.Cond.code ({ cls := "java/util/Arrays", name := "copyOf", desc := "([BI)[B" } : Jvm.MethodName) jdk_65_method_121_code (3 : Nat) (Option.some (Jvm.ClassFile.FieldType.array Jvm.ClassFile.FieldType.byte)), Jvm.Cond.code ({ cls := "java/lang/String", name := "valueOf", desc := "(C)Ljava/lang/String;" } : Jvm.MethodName) jdk_42_method_139_code (1 : Nat) (Option.some (Jvm.ClassFile.FieldType.object "java/lang/String")), Jvm.Cond.code ({ cls := "java/lang/StringLatin1", name := "canEncode", desc := "(C)Z" } : Jvm.MethodName) jdk_43_method_3_code (1 : Nat) (Option.some Jvm.ClassFile.FieldType.boolean), Jvm.Cond.code ({ cls := "java/lang/StringLatin1", name := "toBytes", desc := "(C)[B" } : Jvm.MethodName) jdk_43_method_46_code (1 : Nat) (Option.some (Jvm.ClassFile.FieldType.array Jvm.ClassFile.FieldType.byte)), Jvm.Cond.code ({ cls := "java/lang/String", name := "<init>", desc := "([BB)V" } : Jvm.MethodName) jdk_42_method_151_code (3 : Nat) (Option.none : Option Jvm.ClassFile.FieldType)]
set_option maxRecDepth 65536 in
theorem codes_eq : words1.filter isCode = codes1 := rfl
theorem w_codes : ∀ c ∈ words1.filter isCode, c.before args0 about1 = true := by
  rw [codes_eq]
  intro c hc
  simp only [codes1, List.mem_cons, List.not_mem_nil, or_false] at hc
  rcases hc with rfl | rfl | rfl | rfl | rfl | rfl | rfl | rfl | rfl | rfl | rfl | rfl | rfl | rfl | rfl | rfl | rfl | rfl | rfl | rfl | rfl | rfl | rfl | rfl | rfl | rfl | rfl | rfl | rfl | rfl | rfl | rfl | rfl | rfl | rfl | rfl | rfl | rfl | rfl | rfl | rfl | rfl | rfl | rfl | rfl | rfl | rfl | rfl | rfl | rfl | rfl | rfl | rfl
  · exact w_c0
  · exact w_c1
  · exact w_c2
  · exact w_c3
  · exact w_c4
  · exact w_c5
  · exact w_c6
  · exact w_c7
  · exact w_c8
  · exact w_c9
  · exact w_c10
  · exact w_c11
  · exact w_c12
  · exact w_c13
  · exact w_c14
  · exact w_c15
  · exact w_c16
  · exact w_c17
  · exact w_c18
  · exact w_c19
  · exact w_c20
  · exact w_c21
  · exact w_c22
  · exact w_c23
  · exact w_c24
  · exact w_c25
  · exact w_c26
  · exact w_c27
  · exact w_c28
  · exact w_c29
  · exact w_c30
  · exact w_c31
  · exact w_c32
  · exact w_c33
  · exact w_c34
  · exact w_c35
  · exact w_c36
  · exact w_c37
  · exact w_c38
  · exact w_c39
  · exact w_c40
  · exact w_c41
  · exact w_c42
  · exact w_c43
  · exact w_c44
  · exact w_c45
  · exact w_c46
  · exact w_c47
  · exact w_c48
  · exact w_c49
  · exact w_c50
  · exact w_c51
  · exact w_c52
set_option maxRecDepth 65536 in
theorem w_t1 : (words1.take 24).all (fun c => isCode c || c.before args0 about1) = true := by decide +kernel
set_option maxRecDepth 65536 in
theorem w_t2 : ((words1.drop 24).take 24).all (fun c => isCode c || c.before args0 about1) = true := by decide +kernel
set_option maxRecDepth 65536 in
theorem w_t3 : (((words1.drop 24).drop 24).take 24).all (fun c => isCode c || c.before args0 about1) = true := by decide +kernel
set_option maxRecDepth 65536 in
theorem w_t4 : ((((words1.drop 24).drop 24).drop 24).take 24).all (fun c => isCode c || c.before args0 about1) = true := by decide +kernel
set_option maxRecDepth 65536 in
theorem w_t5 : (((((words1.drop 24).drop 24).drop 24).drop 24).take 24).all (fun c => isCode c || c.before args0 about1) = true := by decide +kernel
set_option maxRecDepth 65536 in
theorem w_t6 : ((((((words1.drop 24).drop 24).drop 24).drop 24).drop 24).take 24).all (fun c => isCode c || c.before args0 about1) = true := by decide +kernel
set_option maxRecDepth 65536 in
theorem w_t7 : (((((((words1.drop 24).drop 24).drop 24).drop 24).drop 24).drop 24).take 24).all (fun c => isCode c || c.before args0 about1) = true := by decide +kernel
set_option maxRecDepth 65536 in
theorem w_t8 : ((((((((words1.drop 24).drop 24).drop 24).drop 24).drop 24).drop 24).drop 24).take 24).all (fun c => isCode c || c.before args0 about1) = true := by decide +kernel
set_option maxRecDepth 65536 in
theorem w_t9 : (((((((((words1.drop 24).drop 24).drop 24).drop 24).drop 24).drop 24).drop 24).drop 24).take 24).all (fun c => isCode c || c.before args0 about1) = true := by decide +kernel
set_option maxRecDepth 65536 in
theorem w_t10 : ((((((((((words1.drop 24).drop 24).drop 24).drop 24).drop 24).drop 24).drop 24).drop 24).drop 24).take 24).all (fun c => isCode c || c.before args0 about1) = true := by decide +kernel
set_option maxRecDepth 65536 in
theorem w_t11 : (((((((((((words1.drop 24).drop 24).drop 24).drop 24).drop 24).drop 24).drop 24).drop 24).drop 24).drop 24).take 24).all (fun c => isCode c || c.before args0 about1) = true := by decide +kernel
set_option maxRecDepth 65536 in
theorem w_t12 : (((((((((((words1.drop 24).drop 24).drop 24).drop 24).drop 24).drop 24).drop 24).drop 24).drop 24).drop 24).drop 24).all (fun c => isCode c || c.before args0 about1) = true := by decide +kernel
theorem w_tables : (allAtoms (Jvm.Cond.code x code maxLocals ret :: tables_1)).before args0 about1 = true := by
  rw [allAtoms_all]
  show words1.all (fun c => c.before args0 about1) = true
  refine all_split ?_ w_codes
  rw [← List.take_append_drop 24 words1, List.all_append, w_t1, ← List.take_append_drop 24 (words1.drop 24), List.all_append, w_t2, ← List.take_append_drop 24 ((words1.drop 24).drop 24), List.all_append, w_t3, ← List.take_append_drop 24 (((words1.drop 24).drop 24).drop 24), List.all_append, w_t4, ← List.take_append_drop 24 ((((words1.drop 24).drop 24).drop 24).drop 24), List.all_append, w_t5, ← List.take_append_drop 24 (((((words1.drop 24).drop 24).drop 24).drop 24).drop 24), List.all_append, w_t6, ← List.take_append_drop 24 ((((((words1.drop 24).drop 24).drop 24).drop 24).drop 24).drop 24), List.all_append, w_t7, ← List.take_append_drop 24 (((((((words1.drop 24).drop 24).drop 24).drop 24).drop 24).drop 24).drop 24), List.all_append, w_t8, ← List.take_append_drop 24 ((((((((words1.drop 24).drop 24).drop 24).drop 24).drop 24).drop 24).drop 24).drop 24), List.all_append, w_t9, ← List.take_append_drop 24 (((((((((words1.drop 24).drop 24).drop 24).drop 24).drop 24).drop 24).drop 24).drop 24).drop 24), List.all_append, w_t10, ← List.take_append_drop 24 ((((((((((words1.drop 24).drop 24).drop 24).drop 24).drop 24).drop 24).drop 24).drop 24).drop 24).drop 24), List.all_append, w_t11, w_t12]
  rfl
set_option maxRecDepth 65536 in
theorem w_rest : rest_1_c.before args0 about1 = true := by decide +kernel
set_option maxRecDepth 65536 in
theorem w_case : (Jvm.Cond.and given_1 narrow_1).before args0 about1 = true := by decide +kernel
set_option maxRecDepth 65536 in
theorem w_consts : constsHeld consts_1 about1 := Jvm.Lit.constsHeldB_iff.mp (by decide +kernel)
theorem w_applies : (headSpec (Jvm.Cond.code x code maxLocals ret :: tables_1) room_1).applies x e0.platform about1 = true :=
  (Spec.applies_iff w_frames).mpr ⟨w_running, w_runnable, w_alone, w_named, w_hears, w_ripe, w_room, w_tables⟩
theorem atStart : AtStart classFile x code maxLocals ret World_1 tables_1 room_1 Calls_1 rest_1 Pre_1 launch0 p0 e0 about1 theMethod args0 below0 :=
  ⟨lists_1, trivial, launch0.admits_env _ _ _, launch0.least_env, fairChoices_fair.cas, fairChoices_fair.clock, w_frames, w_args, w_heap, w_applies, ⟨w_consts, trivial⟩, w_rest, w_case⟩
end start1
theorem witness_1 : WitnessClaimed_1 := ⟨start1.p0, start1.e0, start1.about1, start1.theMethod, start1.args0, start1.below0, start1.atStart⟩
end Jvm.Pilot.@@N@@
