import JvmDerived
import JvmDerived.Pilot.@@N@@Statement
import JvmDerived.Pilot.@@N@@Code
set_option linter.unusedVariables false
set_option linter.unusedSimpArgs false
namespace Jvm.OwnWalk
open Sem ClassFile Op Lib Jvm.Stand Jvm.Free Jvm.LawKit Jvm.RoadKit
section Own
variable {p : Program} {l : Launch} {e : Env} {R : Room} {s : State} {m : MethodId} {args : Array Value} {below : List Frame} {meth : Method} {c : Code} {T : State} {locs : List Loc} {cells slots : Nat} {Z : State} {a0 : Array Value} {h h' : Heap} {Q : Option Value → Heap → List Loc → Prop} {kc ks : Nat} {G : Outcome → State → Prop} {A B : State}
/-- from A the invocation comes to its end, and Q holds of what it returns, of the heap and of the places written -/
def Goes (p : Program) (e : Env) (below : List Frame) (G : Outcome → State → Prop) (A : State) : Prop :=
  ∃ s₂ o, Steps p.tables e below A s₂ ∧ s₂.status = .running ∧ Ended s₂ below o ∧ G o s₂
def EndN (s : State) (Q : Option Value → Heap → List Loc → Prop) (kc ks : Nat) (o : Outcome) (t : State) : Prop := ∃ v L, o = .returned v ∧ Q v t.heap L ∧ FrameEnd s o t L kc ks
theorem go (k : ∀ t, Steps p.tables e below B t → Steps p.tables e below A t) (g : Goes p e below G B) : Goes p e below G A := by
  obtain ⟨s₂, o, st, r⟩ := g
  exact ⟨s₂, o, k _ st, r⟩
theorem goE {g g' : JFrame} (q : g = g') (k : Goes p e below G (T.setTop g')) : Goes p e below G (T.setTop g) := q ▸ k
theorem goEnd (X : Stand p l e R s m args below meth c T locs cells slots) {v : Option Value} (hv : meth.sig.returnType = none → v = none) (hlocks : meth.locks = false) (hc : cells ≤ kc) (hs : slots ≤ ks) (eT : T.heap = h) (hq : Q v h locs)
    (k : ∀ fs, (∀ (f : JFrame) (acts : List Action), f.method = m → f.locked = none → f.entered = [] → (doReturn e (T.setTop f) acts v).1 = T.setFrames fs) → Steps p.tables e below A (T.setFrames fs)) : Goes p e below (EndN s Q kc ks) A := by
  obtain ⟨fs, hr, hrun, hended, hW, hsame⟩ := X.leave hv hlocks
  exact ⟨_, _, k fs hr, hrun, hended, _, _, rfl, (by show Q v T.heap locs; rw [eT]; exact hq), ⟨_, rfl⟩, hW, hsame.mono hc hs⟩
theorem goRetV (X : Stand p l e R s m args below meth c T locs cells slots) (hx : p.tables.exec = Jvm.exec) {pc : Nat} {Ls : Array Slot} {w : Value} {t : FieldType} {i : Instr} {rest : List Value} (hret : meth.sig.returnType = some t) (hlocks : meth.locks = false) (hd : decode c.code pc = .ok (i, 1)) (hn : narrow t w = w)
    (hi : (i = .ireturn ∧ (t = .int ∨ t = .boolean ∨ t = .byte ∨ t = .char ∨ t = .short) ∧ ∃ z, w = .int z) ∨ (i = .lreturn ∧ t = .long ∧ ∃ z, w = .long z) ∨ (i = .dreturn ∧ t = .double ∧ ∃ z, w = .double z) ∨ (i = .freturn ∧ t = .float ∧ ∃ z, w = .float z) ∨ (i = .areturn ∧ t.isReference = true ∧ w.isRef = true))
    (hc : cells ≤ kc) (hs : slots ≤ ks) (eT : T.heap = h) (hq : Q (some w) h locs) : Goes p e below (EndN s Q kc ks) (T.setTop (mkF m pc Ls (w :: rest))) :=
  goEnd X (v := some w) (fun q => by rw [hret] at q; cases q) hlocks hc hs eT hq fun fs hr => retOut X hx hret hn hi hd hr
theorem goRetI (X : Stand p l e R s m args below meth c T locs cells slots) (hx : p.tables.exec = Jvm.exec) {pc : Nat} {Ls : Array Slot} {z : Int32} {rest : List Value} (hret : meth.sig.returnType = some .int) (hlocks : meth.locks = false) (hd : decode c.code pc = .ok (.ireturn, 1))
    (hc : cells ≤ kc) (hs : slots ≤ ks) (eT : T.heap = h) (hq : Q (some (.int z)) h locs) : Goes p e below (EndN s Q kc ks) (T.setTop (mkF m pc Ls (.int z :: rest))) :=
  goRetV X hx hret hlocks hd rfl (Or.inl ⟨rfl, Or.inl rfl, _, rfl⟩) hc hs eT hq
theorem goRetJ (X : Stand p l e R s m args below meth c T locs cells slots) (hx : p.tables.exec = Jvm.exec) {pc : Nat} {Ls : Array Slot} {z : Int64} {rest : List Value} (hret : meth.sig.returnType = some .long) (hlocks : meth.locks = false) (hd : decode c.code pc = .ok (.lreturn, 1))
    (hc : cells ≤ kc) (hs : slots ≤ ks) (eT : T.heap = h) (hq : Q (some (.long z)) h locs) : Goes p e below (EndN s Q kc ks) (T.setTop (mkF m pc Ls (.long z :: rest))) :=
  goRetV X hx hret hlocks hd rfl (Or.inr (Or.inl ⟨rfl, rfl, _, rfl⟩)) hc hs eT hq
theorem goRetD (X : Stand p l e R s m args below meth c T locs cells slots) (hx : p.tables.exec = Jvm.exec) {pc : Nat} {Ls : Array Slot} {z : UInt64} {rest : List Value} (hret : meth.sig.returnType = some .double) (hlocks : meth.locks = false) (hd : decode c.code pc = .ok (.dreturn, 1))
    (hc : cells ≤ kc) (hs : slots ≤ ks) (eT : T.heap = h) (hq : Q (some (.double z)) h locs) : Goes p e below (EndN s Q kc ks) (T.setTop (mkF m pc Ls (.double z :: rest))) :=
  goRetV X hx hret hlocks hd rfl (Or.inr (Or.inr (Or.inl ⟨rfl, rfl, _, rfl⟩))) hc hs eT hq
theorem goRetA (X : Stand p l e R s m args below meth c T locs cells slots) (hx : p.tables.exec = Jvm.exec) {pc : Nat} {Ls : Array Slot} {w : Value} {t : FieldType} {rest : List Value} (hret : meth.sig.returnType = some t) (hlocks : meth.locks = false) (ht : t.isReference = true) (hw : w.isRef = true) (hd : decode c.code pc = .ok (.areturn, 1))
    (hc : cells ≤ kc) (hs : slots ≤ ks) (eT : T.heap = h) (hq : Q (some w) h locs) : Goes p e below (EndN s Q kc ks) (T.setTop (mkF m pc Ls (w :: rest))) :=
  goRetV X hx hret hlocks hd (by cases t <;> first | (cases ht; done) | rfl) (Or.inr (Or.inr (Or.inr (Or.inr ⟨rfl, ht, hw⟩)))) hc hs eT hq
theorem goRetN (X : Stand p l e R s m args below meth c T locs cells slots) (hx : p.tables.exec = Jvm.exec) {pc : Nat} {Ls : Array Slot} {z z' : Int32} {t : FieldType} {rest : List Value} (hret : meth.sig.returnType = some t) (hlocks : meth.locks = false) (ht : t = .boolean ∨ t = .byte ∨ t = .char ∨ t = .short) (hd : decode c.code pc = .ok (.ireturn, 1)) (hz : nar t z = z')
    (hc : cells ≤ kc) (hs : slots ≤ ks) (eT : T.heap = h) (hq : Q (some (.int z')) h locs) : Goes p e below (EndN s Q kc ks) (T.setTop (mkF m pc Ls (.int z :: rest))) := by
  subst hz
  exact goEnd X (v := some (.int (nar t z))) (fun q => by rw [hret] at q; cases q) hlocks hc hs eT hq fun fs hr => retN X hx hret ht hd hr
theorem goRet0 (X : Stand p l e R s m args below meth c T locs cells slots) (hx : p.tables.exec = Jvm.exec) {pc : Nat} {Ls : Array Slot} (hret : meth.sig.returnType = none) (hlocks : meth.locks = false) (hd : decode c.code pc = .ok (.return_, 1))
    (hc : cells ≤ kc) (hs : slots ≤ ks) (eT : T.heap = h) (hq : Q none h locs) : Goes p e below (EndN s Q kc ks) (T.setTop (mkF m pc Ls [])) :=
  goEnd X (v := none) (fun _ => rfl) hlocks hc hs eT hq fun fs hr => X.returnOut hx hret hd hr
/-- a body's contract: called with these arguments at this heap it returns, and Q holds -/
def Ctr (l : Launch) (Z : State) (y : MethodName) (bytes : ByteArray) (maxL : Nat) (ret : Option FieldType) (ws : List Cond) (rm : Room) (as : Array Value) (h0 : Heap) (Q : Option Value → Heap → List Loc → Prop) : Prop :=
  MetFree l y (head1 (Cond.code y bytes maxL ret :: ws) rm) (fun a U => a = as ∧ Z.Warmed39 U.vm ∧ U.heap = h0) (fun _ _ _ _ _ => True) (fun _ U o U' => ∃ v L, o = .returned v ∧ Q v U'.heap L ∧ FrameEnd U o U' L rm.cells rm.slots)
theorem ctr {y : MethodName} {bytes : ByteArray} {maxL : Nat} {ret : Option FieldType} {ws : List Cond} {rm : Room} {as : Array Value} {h0 : Heap} (hpn : plainFor y = true)
    (body : ∀ (p : Program) (e : Env) (s : State) (m : MethodId) (below : List Frame) (meth : Method) (c : Code) (s₁ : State), p.tables.exec = Jvm.exec → c.code = bytes → c.maxLocals = maxL → s.vm.findClass y.cls = some m.cls → meth.name = y.name → meth.sig.returnType = ret → meth.locks = false → Z.Warmed39 s.vm →
      Stand p l e rm s m as below meth c s₁ [] 0 0 → s₁.heap = h0 → Goes p e below (EndN s Q rm.cells rm.slots) (s₁.setTop (entryFrame m as maxL))) : Ctr l Z y bytes maxL ret ws rm as h0 Q := by
  refine MetFree.of_bodySF hpn hisR ?_
  intro p e s m args below meth c s₁ Bd hml0 hP hK
  obtain ⟨rfl, hZ, hh⟩ := hP
  exact body p e s m below meth c s₁ Bd.exec Bd.bytes hml0 (findClass_of_methodNamed Bd.named) (name_of_methodNamed Bd.named Bd.method).1 Bd.returns Bd.notSynchronized hZ (Stand.of_body Bd) (by rw [← hh, Bd.state]; rfl)
theorem goCallS (X : Stand p l e R s m args below meth c T locs cells slots) (hx : p.tables.exec = Jvm.exec) (hZ : Z.Warmed39 s.vm) {own : String} {index : Nat} {y : MethodName} {bytes : ByteArray} {maxL : Nat} {ret : Option FieldType} (hown : s.vm.findClass own = some m.cls)
    (w1 : (Cond.methodLink own index y).before a0 Z = true) (w2 : (Cond.static y).before a0 Z = true) (w3 : (Cond.initialized y.cls).before a0 Z = true) (w4 : (Cond.code y bytes maxL ret).before a0 Z = true) (hy : y.cls ≠ "java/lang/invoke/MethodHandle" ∧ y.cls ≠ "java/lang/invoke/VarHandle")
    {rm : Room} {as : Array Value} {Q' : Option Value → Heap → List Loc → Prop} (hM : Ctr l Z y bytes maxL ret [] rm as h Q') (W : Nat) (hf : rm.frames + 1 ≤ R.frames) (hl : W + (maxL + 11) + rm.locals ≤ R.locals) (eT : T.heap = h)
    {pc : Nat} {Ls : Array Slot} {st : List Value} (hsize : Ls.size = c.maxLocals) (argsL rest : List Value) {ps : List FieldType} {rt : Option FieldType} (hpd : parseMethodDescriptor y.desc = some ⟨ps, rt⟩) (hlen : argsL.length = ps.length) (hst : st = argsL.reverse ++ rest) (has : argsL.toArray = as) (hW : (rest.map fun v => v.category).sum ≤ W)
    (hd : decode c.code pc = .ok (.invokestatic index, 3)) (hc : cells + rm.cells ≤ R.cells) (hs : slots + rm.slots ≤ R.slots)
    (k : ∀ T' v L, Stand p l e R s m args below meth c T' (locs ++ L) (cells + rm.cells) (slots + rm.slots) → Q' v T'.heap L → Goes p e below G (T'.setTop (mkF m (pc + 3) Ls (v.toList ++ rest)))) : Goes p e below G (T.setTop (mkF m pc Ls st)) := by
  subst hst
  obtain ⟨v, _, ⟨T', L', k', n'⟩, -, X', ⟨L, hQ, l1, y1, z1⟩, st⟩ := Jvm.LawKit.callS X hx (y := y) hown (mvT hZ w1) (mvT hZ w2) (mvT hZ w3) (mvT hZ w4) hy (backOf (W := W) hM hZ w4 w3 hf hl) (g := mkF m pc Ls (argsL.reverse ++ rest)) rfl hsize (argsL := argsL) (rest := rest) (lenOf hpd hlen) rfl (by show 2 * 0 + _ ≤ _; omega) hd (fun _ _ => ⟨has, eT, hc, hs⟩)
  dsimp only [Pt.U, Pt.locs, Pt.cells, Pt.slots] at X' l1 y1 z1 st hQ
  subst l1 y1 z1
  exact go st (k T' v L X' hQ)
theorem goCallI (X : Stand p l e R s m args below meth c T locs cells slots) (hx : p.tables.exec = Jvm.exec) (hZ : Z.Warmed39 s.vm) {own : String} {index : Nat} {y : MethodName} {bytes : ByteArray} {maxL : Nat} (hy1 : y.name = "<init>") (hown : s.vm.findClass own = some m.cls)
    (w1 : (Cond.methodLink own index y).before a0 Z = true) (w2 : (Cond.instanceMethod y).before a0 Z = true) (w3 : (Cond.initialized y.cls).before a0 Z = true) (w4 : (Cond.code y bytes maxL none).before a0 Z = true) (hy : y.cls ≠ "java/lang/invoke/MethodHandle" ∧ y.cls ≠ "java/lang/invoke/VarHandle")
    {rm : Room} {as : Array Value} {Q' : Option Value → Heap → List Loc → Prop} (hM : Ctr l Z y bytes maxL none [] rm as h Q') (W : Nat) (hf : rm.frames + 1 ≤ R.frames) (hl : W + (maxL + 11) + rm.locals ≤ R.locals) (eT : T.heap = h)
    {pc : Nat} {Ls : Array Slot} {st : List Value} (hsize : Ls.size = c.maxLocals) (a : Addr) (argsL rest : List Value) {ps : List FieldType} {rt : Option FieldType} (hpd : parseMethodDescriptor y.desc = some ⟨ps, rt⟩) (hlen : argsL.length = ps.length) (hst : st = argsL.reverse ++ .ref a :: rest) (has : (.ref a :: argsL).toArray = as) (hW : (rest.map fun v => v.category).sum ≤ W)
    (hd : decode c.code pc = .ok (.invokespecial index, 3)) (hc : cells + rm.cells ≤ R.cells) (hs : slots + rm.slots ≤ R.slots)
    (k : ∀ T' v L, Stand p l e R s m args below meth c T' (locs ++ L) (cells + rm.cells) (slots + rm.slots) → Q' v T'.heap L → Goes p e below G (T'.setTop (mkF m (pc + 3) Ls (v.toList ++ rest)))) : Goes p e below G (T.setTop (mkF m pc Ls st)) := by
  subst hst
  obtain ⟨v, _, ⟨T', L', k', n'⟩, -, X', ⟨L, hQ, l1, y1, z1⟩, st⟩ := X.specialBack hx (y := y) hy1 hown (mvT hZ w1) (mvT hZ w2) (mvT hZ w4) hy (backOf (W := W) hM hZ w4 w3 hf hl) (g := mkF m pc Ls (argsL.reverse ++ .ref a :: rest)) rfl hsize (Steps.refl _) (a := a) (argsL := argsL) (rest := rest) (lenOf hpd hlen) rfl (by show 2 * 0 + _ ≤ _; omega) hd (fun _ _ => ⟨has, eT, hc, hs⟩)
  dsimp only [Pt.U, Pt.locs, Pt.cells, Pt.slots] at X' l1 y1 z1 st hQ
  subst l1 y1 z1
  exact go (fun _ => st.trans) (k T' v L X' hQ)
theorem goCallV (X : Stand p l e R s m args below meth c T locs cells slots) (hx : p.tables.exec = Jvm.exec) (hZ : Z.Warmed39 s.vm) {own C : String} {index : Nat} {y : MethodName} {bytes : ByteArray} {maxL : Nat} {ret : Option FieldType} (hown : s.vm.findClass own = some m.cls)
    (w1 : (Cond.methodLink own index y).before a0 Z = true) (w2 : (Cond.declares y).before a0 Z = true) (w5 : (Cond.selects C y y).before a0 Z = true) (w6 : (Cond.instanceMethod y).before a0 Z = true) (w3 : (Cond.initialized y.cls).before a0 Z = true) (w4 : (Cond.code y bytes maxL ret).before a0 Z = true) (hy : y.cls ≠ "java/lang/invoke/MethodHandle" ∧ y.cls ≠ "java/lang/invoke/VarHandle")
    {rm : Room} {as : Array Value} {Q' : Option Value → Heap → List Loc → Prop} (hM : Ctr l Z y bytes maxL ret [] rm as h Q') (W : Nat) (hf : rm.frames + 1 ≤ R.frames) (hl : W + (maxL + 11) + rm.locals ≤ R.locals) (eT : T.heap = h) {a : Addr} (E : Exa Z h a C)
    {pc : Nat} {Ls : Array Slot} {st : List Value} (hsize : Ls.size = c.maxLocals) (argsL rest : List Value) {ps : List FieldType} {rt : Option FieldType} (hpd : parseMethodDescriptor y.desc = some ⟨ps, rt⟩) (hlen : argsL.length = ps.length) (hst : st = argsL.reverse ++ .ref a :: rest) (has : (.ref a :: argsL).toArray = as) (hW : (rest.map fun v => v.category).sum ≤ W)
    (hd : decode c.code pc = .ok (.invokevirtual index, 3)) (hc : cells + rm.cells ≤ R.cells) (hs : slots + rm.slots ≤ R.slots)
    (k : ∀ T' v L, Stand p l e R s m args below meth c T' (locs ++ L) (cells + rm.cells) (slots + rm.slots) → Q' v T'.heap L → Goes p e below G (T'.setTop (mkF m (pc + 3) Ls (v.toList ++ rest)))) : Goes p e below G (T.setTop (mkF m pc Ls st)) := by
  subst hst
  obtain ⟨cq, kq, qa, qb, qc⟩ := isOf hZ eT E
  obtain ⟨v, _, ⟨T', L', k', n'⟩, -, X', ⟨L, hQ, l1, y1, z1⟩, st⟩ := X.virtualBack hx (y := y) (z := y) hown (mvT hZ w1) (mvT hZ w2) (notFace_of_selects (args := #[]) (mvT hZ w5)) (mvT hZ w5) (mvT hZ w6) hy (backOf (W := W) hM hZ w4 w3 hf hl) qa qc (g := mkF m pc Ls (argsL.reverse ++ .ref a :: rest)) rfl hsize (Steps.refl _) (argsL := argsL) (rest := rest) (lenOf hpd hlen) rfl (by show 2 * 0 + _ ≤ _; omega) hd (fun _ _ => ⟨has, eT, hc, hs⟩)
  dsimp only [Pt.U, Pt.locs, Pt.cells, Pt.slots] at X' l1 y1 z1 st hQ
  subst l1 y1 z1
  exact go (fun _ => st.trans) (k T' v L X' hQ)
theorem extT {h0 : Heap} (O : Ext h0 h) (E : Ext h h') : Ext h0 h' := ⟨Nat.le_trans O.1 E.1, fun x c q => E.2 x c (O.2 x c q)⟩
theorem extK {h0 : Heap} {ws : List Addr} (O : Ext h0 h) (K : Keep h h' ws) (q : ∀ x ∈ ws, h0.size ≤ x) : Ext h0 h' := ⟨Nat.le_trans O.1 K.1, fun x c r => K.2.1 x c (O.2 x c r) fun z => absurd (Array.getElem?_eq_some_iff.mp r).1 (Nat.not_lt.mpr (q x z))⟩
theorem extW {h0 : Heap} {a : Addr} {sl : Nat} {v : Value} (O : Ext h0 h) (W : Wr h h' a sl v) (q : h0.size ≤ a) : Ext h0 h' := extK O (Keep.of_wr W) (allS q all0)
theorem eqI_v {t : Term} {k : Int32} {first s : State} {o : Option Outcome} {idx : List Nat} {args : Array Value} (h : (Cond.eq t (.int k)).value args first o s idx = some true) : t.eval args first o idx s = some (.int k) := by
  simp only [Cond.value, Term.eval] at h
  cases ht : t.eval args first o idx s with
  | none => simp [ht] at h
  | some x => cases x <;> simp [ht] at h ⊢; exact h
/-- an array with these values -/
def Ary (Z : State) (h : Heap) (a : Addr) (ty : FieldType) (vs : List Value) : Prop := ∃ cl : Cell, Arr Z h a cl ty ∧ cl.slots.toList = vs ∧ vs.length < 2 ^ 31
variable {a b : Addr} {ty : FieldType} {vs : List Value}
theorem Ary.lt (F : Ary Z h a ty vs) : a < h.size := by obtain ⟨c, A, -⟩ := F; exact A.lt
theorem Ary.ext (F : Ary Z h a ty vs) (E : Ext h h') : Ary Z h' a ty vs := by obtain ⟨c, A, r⟩ := F; exact ⟨c, A.ext E, r⟩
theorem Ary.other (F : Ary Z h b ty vs) {sl : Nat} {v : Value} (W : Wr h h' a sl v) (q : b ≠ a) : Ary Z h' b ty vs := by obtain ⟨c, A, r⟩ := F; exact ⟨c, A.other W q, r⟩
theorem Ary.keep (F : Ary Z h a ty vs) {ws : List Addr} (K : Keep h h' ws) (q : a ∉ ws) : Ary Z h' a ty vs := by obtain ⟨c, A, r⟩ := F; exact ⟨c, ⟨K.2.1 a c A.1 q, A.2⟩, r⟩
theorem Ary.set (F : Ary Z h a ty vs) {j : Int32} {v : Value} (W : Wr h h' a j.toNatClampNeg v) {ws : List Value} (e : vs.set j.toNatClampNeg v = ws) : Ary Z h' a ty ws := by
  obtain ⟨c, A, r, q⟩ := F
  refine ⟨_, A.same W, ?_, ?_⟩
  · rw [← e, ← r]; simp [Cell.setSlot]
  · rw [← e, List.length_set]; exact q
theorem Ary.new {cA : ClassId} {n : Int32} (A : Arr Z h a (newA cA ty n) ty) (e : List.replicate n.toNatClampNeg (defaultValue ty) = vs) (q : vs.length < 2 ^ 31) : Ary Z h a ty vs := ⟨_, A, by rw [← e]; simp [newA], q⟩
theorem Ary.inb {cl : Cell} (r : cl.slots.toList = vs) {j : Int32} {v : Value} (hj : ¬ j < 0) (hv : vs[j.toNatClampNeg]? = some v) : ¬ (j < 0 ∨ cl.slots.size ≤ j.toNatClampNeg) := fun q => by
  rcases q with q | q
  · exact hj q
  · subst r
    have := (List.getElem?_eq_some_iff.mp hv).1
    rw [Array.length_toList] at this
    omega
theorem Ary.at {cl : Cell} (r : cl.slots.toList = vs) {j : Int32} {v : Value} (hv : vs[j.toNatClampNeg]? = some v) : cl.slots[j.toNatClampNeg]? = some v := by subst r; simpa using hv
theorem goIaload (X : Stand p l e R s m args below meth c T locs cells slots) (hx : p.tables.exec = Jvm.exec) (hZ : Z.Warmed39 s.vm) (eT : T.heap = h) {vs : List Value} (F : Ary Z h a .int vs) {j x : Int32} {pc : Nat} {Ls : Array Slot} {rest : List Value} (hd : decode c.code pc = .ok (.iaload, 1)) (hj : ¬ j < 0) (hv : vs[j.toNatClampNeg]? = some (.int x))
    (k : Goes p e below G (T.setTop (mkF m (pc + 1) Ls (.int x :: rest)))) : Goes p e below G (T.setTop (mkF m pc Ls (.int j :: .ref a :: rest))) := by
  obtain ⟨cl, A, r, q⟩ := F
  exact go (X.iaload hx (j := j) (v := .int x) (by rw [eT]; exact A.1) (State.isArrayOf_alike hZ.alike A.2.1) A.2.2 (Ary.inb r hj hv) (Ary.at r hv) (g := mkF m pc Ls (.int j :: .ref a :: rest)) rfl rfl hd) k
theorem goBaload (X : Stand p l e R s m args below meth c T locs cells slots) (hx : p.tables.exec = Jvm.exec) (hZ : Z.Warmed39 s.vm) (eT : T.heap = h) {vs : List Value} (F : Ary Z h a .byte vs) {j x : Int32} {pc : Nat} {Ls : Array Slot} {rest : List Value} (hd : decode c.code pc = .ok (.baload, 1)) (hj : ¬ j < 0) (hv : vs[j.toNatClampNeg]? = some (.int x))
    (k : Goes p e below G (T.setTop (mkF m (pc + 1) Ls (.int x :: rest)))) : Goes p e below G (T.setTop (mkF m pc Ls (.int j :: .ref a :: rest))) := by
  obtain ⟨cl, A, r, q⟩ := F
  exact go (X.baloadBytes hx (j := j) (v := .int x) (by rw [eT]; exact A.1) (State.isArrayOf_alike hZ.alike A.2.1) A.2.2 (Ary.inb r hj hv) (Ary.at r hv) (g := mkF m pc Ls (.int j :: .ref a :: rest)) rfl rfl hd) k
theorem goZaload (X : Stand p l e R s m args below meth c T locs cells slots) (hx : p.tables.exec = Jvm.exec) (hZ : Z.Warmed39 s.vm) (eT : T.heap = h) {vs : List Value} (F : Ary Z h a .boolean vs) {j x : Int32} {pc : Nat} {Ls : Array Slot} {rest : List Value} (hd : decode c.code pc = .ok (.baload, 1)) (hj : ¬ j < 0) (hv : vs[j.toNatClampNeg]? = some (.int x))
    (k : Goes p e below G (T.setTop (mkF m (pc + 1) Ls (.int x :: rest)))) : Goes p e below G (T.setTop (mkF m pc Ls (.int j :: .ref a :: rest))) := by
  obtain ⟨cl, A, r, q⟩ := F
  exact go (X.baloadBooleans hx (j := j) (v := .int x) (by rw [eT]; exact A.1) (State.isArrayOf_alike hZ.alike A.2.1) A.2.2 (Ary.inb r hj hv) (Ary.at r hv) (g := mkF m pc Ls (.int j :: .ref a :: rest)) rfl rfl hd) k
theorem goCaload (X : Stand p l e R s m args below meth c T locs cells slots) (hx : p.tables.exec = Jvm.exec) (hZ : Z.Warmed39 s.vm) (eT : T.heap = h) {vs : List Value} (F : Ary Z h a .char vs) {j x : Int32} {pc : Nat} {Ls : Array Slot} {rest : List Value} (hd : decode c.code pc = .ok (.caload, 1)) (hj : ¬ j < 0) (hv : vs[j.toNatClampNeg]? = some (.int x))
    (k : Goes p e below G (T.setTop (mkF m (pc + 1) Ls (.int x :: rest)))) : Goes p e below G (T.setTop (mkF m pc Ls (.int j :: .ref a :: rest))) := by
  obtain ⟨cl, A, r, q⟩ := F
  exact go (X.caload hx (j := j) (v := .int x) (by rw [eT]; exact A.1) (State.isArrayOf_alike hZ.alike A.2.1) A.2.2 (Ary.inb r hj hv) (Ary.at r hv) (g := mkF m pc Ls (.int j :: .ref a :: rest)) rfl rfl hd) k
theorem goAlen (X : Stand p l e R s m args below meth c T locs cells slots) (hx : p.tables.exec = Jvm.exec) (hZ : Z.Warmed39 s.vm) (eT : T.heap = h) {vs : List Value} (F : Ary Z h a ty vs) {n : Int32} {pc : Nat} {Ls : Array Slot} {rest : List Value} (hd : decode c.code pc = .ok (.arraylength, 1)) (hn : vs.length.toInt32 = n)
    (k : Goes p e below G (T.setTop (mkF m (pc + 1) Ls (.int n :: rest)))) : Goes p e below G (T.setTop (mkF m pc Ls (.ref a :: rest))) := by
  obtain ⟨cl, A, r, q⟩ := F
  have e1 : cl.slots.size.toInt32 = n := by rw [← hn, ← r, Array.length_toList]
  refine go (X.arraylength hx (cell := cl) (by rw [eT]; exact A.1) (State.isArrayOf_alike hZ.alike A.2.1) (g := mkF m pc Ls (.ref a :: rest)) rfl (rest := rest) rfl hd) ?_
  rw [e1]
  exact k
theorem goIastore (X : Stand p l e R s m args below meth c T locs cells slots) (hx : p.tables.exec = Jvm.exec) (hZ : Z.Warmed39 s.vm) (eT : T.heap = h) {vs : List Value} (F : Ary Z h a .int vs) {j x : Int32} {v : Value} {pc : Nat} {Ls : Array Slot} {rest : List Value} (hd : decode c.code pc = .ok (.iastore, 1)) (hj : ¬ j < 0) (hv : vs[j.toNatClampNeg]? = some v)
    (k : ∀ T' h', Stand p l e R s m args below meth c T' (locs ++ [⟨a, j.toNatClampNeg⟩]) cells slots → T'.heap = h' → Wr h h' a j.toNatClampNeg (.int x) → Goes p e below G (T'.setTop (mkF m (pc + 1) Ls rest))) : Goes p e below G (T.setTop (mkF m pc Ls (.int x :: .int j :: .ref a :: rest))) := by
  obtain ⟨cl, A, r, q⟩ := F
  obtain ⟨T', h', X', e', W', st⟩ := stI X hx hZ eT A (j := j) (x := x) (Ary.inb r hj hv) (g := mkF m pc Ls (.int x :: .int j :: .ref a :: rest)) rfl rfl hd
  exact go st (k T' h' X' e' W')
theorem goBastore (X : Stand p l e R s m args below meth c T locs cells slots) (hx : p.tables.exec = Jvm.exec) (hZ : Z.Warmed39 s.vm) (eT : T.heap = h) {vs : List Value} (F : Ary Z h a .byte vs) {j x : Int32} {v : Value} {pc : Nat} {Ls : Array Slot} {rest : List Value} (hd : decode c.code pc = .ok (.bastore, 1)) (hj : ¬ j < 0) (hv : vs[j.toNatClampNeg]? = some v)
    (k : ∀ T' h', Stand p l e R s m args below meth c T' (locs ++ [⟨a, j.toNatClampNeg⟩]) cells slots → T'.heap = h' → Wr h h' a j.toNatClampNeg (.int (nar .byte x)) → Goes p e below G (T'.setTop (mkF m (pc + 1) Ls rest))) : Goes p e below G (T.setTop (mkF m pc Ls (.int x :: .int j :: .ref a :: rest))) := by
  obtain ⟨cl, A, r, q⟩ := F
  obtain ⟨T', h', X', e', W', st⟩ := stB X hx hZ eT A (j := j) (x := x) (Ary.inb r hj hv) (g := mkF m pc Ls (.int x :: .int j :: .ref a :: rest)) rfl rfl hd
  exact go st (k T' h' X' e' W')
theorem goZastore (X : Stand p l e R s m args below meth c T locs cells slots) (hx : p.tables.exec = Jvm.exec) (hZ : Z.Warmed39 s.vm) (eT : T.heap = h) {vs : List Value} (F : Ary Z h a .boolean vs) {j x : Int32} {v : Value} {pc : Nat} {Ls : Array Slot} {rest : List Value} (hd : decode c.code pc = .ok (.bastore, 1)) (hj : ¬ j < 0) (hv : vs[j.toNatClampNeg]? = some v)
    (k : ∀ T' h', Stand p l e R s m args below meth c T' (locs ++ [⟨a, j.toNatClampNeg⟩]) cells slots → T'.heap = h' → Wr h h' a j.toNatClampNeg (.int (nar .boolean x)) → Goes p e below G (T'.setTop (mkF m (pc + 1) Ls rest))) : Goes p e below G (T.setTop (mkF m pc Ls (.int x :: .int j :: .ref a :: rest))) := by
  obtain ⟨cl, A, r, q⟩ := F
  obtain ⟨T', h', X', e', W', st⟩ := stZ X hx hZ eT A (j := j) (x := x) (Ary.inb r hj hv) (g := mkF m pc Ls (.int x :: .int j :: .ref a :: rest)) rfl rfl hd
  exact go st (k T' h' X' e' W')
theorem goCastore (X : Stand p l e R s m args below meth c T locs cells slots) (hx : p.tables.exec = Jvm.exec) (hZ : Z.Warmed39 s.vm) (eT : T.heap = h) {vs : List Value} (F : Ary Z h a .char vs) {j x : Int32} {v : Value} {pc : Nat} {Ls : Array Slot} {rest : List Value} (hd : decode c.code pc = .ok (.castore, 1)) (hj : ¬ j < 0) (hv : vs[j.toNatClampNeg]? = some v)
    (k : ∀ T' h', Stand p l e R s m args below meth c T' (locs ++ [⟨a, j.toNatClampNeg⟩]) cells slots → T'.heap = h' → Wr h h' a j.toNatClampNeg (.int (nar .char x)) → Goes p e below G (T'.setTop (mkF m (pc + 1) Ls rest))) : Goes p e below G (T.setTop (mkF m pc Ls (.int x :: .int j :: .ref a :: rest))) := by
  obtain ⟨cl, A, r, q⟩ := F
  obtain ⟨T', h', X', e', W', st⟩ := stC X hx hZ eT A (j := j) (x := x) (Ary.inb r hj hv) (g := mkF m pc Ls (.int x :: .int j :: .ref a :: rest)) rfl rfl hd
  exact go st (k T' h' X' e' W')
theorem narb (x : Int32) : nar .byte x.toInt8.toInt32 = x.toInt8.toInt32 := by simp [nar]
theorem narc (x : Int32) : nar .char x.toUInt32.toUInt16.toUInt32.toInt32 = x.toUInt32.toUInt16.toUInt32.toInt32 := by simp only [nar, UInt32.toUInt32_toInt32, UInt16.toUInt16_toUInt32]
theorem gIload (X : Stand p l e R s m args below meth c T locs cells slots) (hx : p.tables.exec = Jvm.exec) {pc : Nat} {Ls : Array Slot} {st : List Value} {k : Nat} {v : Int32} (hd : decode c.code pc = .ok (.iload k, 2)) (hl : Ls[k]? = some (.val (.int v))) (K : Goes p e below G (T.setTop (mkF m (pc + 2) Ls (.int v :: st)))) : Goes p e below G (T.setTop (mkF m pc Ls (st))) :=
  go (fun _ q => XS.iload (g := mkF m pc Ls (st)) X.here hx rfl hd hl q) K
theorem gIloadN (X : Stand p l e R s m args below meth c T locs cells slots) (hx : p.tables.exec = Jvm.exec) {pc : Nat} {Ls : Array Slot} {st : List Value} {k : Fin 4} {v : Int32} (hd : decode c.code pc = .ok (.iload_n k, 1)) (hl : Ls[k.val]? = some (.val (.int v))) (K : Goes p e below G (T.setTop (mkF m (pc + 1) Ls (.int v :: st)))) : Goes p e below G (T.setTop (mkF m pc Ls (st))) :=
  go (fun _ q => XS.iloadN (g := mkF m pc Ls (st)) X.here hx rfl hd hl q) K
theorem gIstore (X : Stand p l e R s m args below meth c T locs cells slots) (hx : p.tables.exec = Jvm.exec) {pc : Nat} {Ls : Array Slot} {st : List Value} {k : Nat} {v : Int32} {l' : Array Slot} (hd : decode c.code pc = .ok (.istore k, 2)) (hl : storeLocals Ls k (.int v) = some l') (K : Goes p e below G (T.setTop (mkF m (pc + 2) l' (st)))) : Goes p e below G (T.setTop (mkF m pc Ls (.int v :: st))) :=
  go (fun _ q => XS.istore (g := mkF m pc Ls (.int v :: st)) X.here hx rfl hd rfl hl q) K
theorem gIstoreN (X : Stand p l e R s m args below meth c T locs cells slots) (hx : p.tables.exec = Jvm.exec) {pc : Nat} {Ls : Array Slot} {st : List Value} {k : Fin 4} {v : Int32} {l' : Array Slot} (hd : decode c.code pc = .ok (.istore_n k, 1)) (hl : storeLocals Ls k.val (.int v) = some l') (K : Goes p e below G (T.setTop (mkF m (pc + 1) l' (st)))) : Goes p e below G (T.setTop (mkF m pc Ls (.int v :: st))) :=
  go (fun _ q => XS.istoreN (g := mkF m pc Ls (.int v :: st)) X.here hx rfl hd rfl hl q) K
theorem gLload (X : Stand p l e R s m args below meth c T locs cells slots) (hx : p.tables.exec = Jvm.exec) {pc : Nat} {Ls : Array Slot} {st : List Value} {k : Nat} {v : Int64} (hd : decode c.code pc = .ok (.lload k, 2)) (hl : Ls[k]? = some (.val (.long v))) (K : Goes p e below G (T.setTop (mkF m (pc + 2) Ls (.long v :: st)))) : Goes p e below G (T.setTop (mkF m pc Ls (st))) :=
  go (fun _ q => XT.lload (g := mkF m pc Ls (st)) X.here hx rfl hd hl q) K
theorem gLloadN (X : Stand p l e R s m args below meth c T locs cells slots) (hx : p.tables.exec = Jvm.exec) {pc : Nat} {Ls : Array Slot} {st : List Value} {k : Fin 4} {v : Int64} (hd : decode c.code pc = .ok (.lload_n k, 1)) (hl : Ls[k.val]? = some (.val (.long v))) (K : Goes p e below G (T.setTop (mkF m (pc + 1) Ls (.long v :: st)))) : Goes p e below G (T.setTop (mkF m pc Ls (st))) :=
  go (fun _ q => XT.lloadN (g := mkF m pc Ls (st)) X.here hx rfl hd hl q) K
theorem gLstore (X : Stand p l e R s m args below meth c T locs cells slots) (hx : p.tables.exec = Jvm.exec) {pc : Nat} {Ls : Array Slot} {st : List Value} {k : Nat} {v : Int64} {l' : Array Slot} (hd : decode c.code pc = .ok (.lstore k, 2)) (hl : storeLocals Ls k (.long v) = some l') (K : Goes p e below G (T.setTop (mkF m (pc + 2) l' (st)))) : Goes p e below G (T.setTop (mkF m pc Ls (.long v :: st))) :=
  go (fun _ q => XT.lstore (g := mkF m pc Ls (.long v :: st)) X.here hx rfl hd rfl hl q) K
theorem gLstoreN (X : Stand p l e R s m args below meth c T locs cells slots) (hx : p.tables.exec = Jvm.exec) {pc : Nat} {Ls : Array Slot} {st : List Value} {k : Fin 4} {v : Int64} {l' : Array Slot} (hd : decode c.code pc = .ok (.lstore_n k, 1)) (hl : storeLocals Ls k.val (.long v) = some l') (K : Goes p e below G (T.setTop (mkF m (pc + 1) l' (st)))) : Goes p e below G (T.setTop (mkF m pc Ls (.long v :: st))) :=
  go (fun _ q => XT.lstoreN (g := mkF m pc Ls (.long v :: st)) X.here hx rfl hd rfl hl q) K
theorem gDload (X : Stand p l e R s m args below meth c T locs cells slots) (hx : p.tables.exec = Jvm.exec) {pc : Nat} {Ls : Array Slot} {st : List Value} {k : Nat} {v : UInt64} (hd : decode c.code pc = .ok (.dload k, 2)) (hl : Ls[k]? = some (.val (.double v))) (K : Goes p e below G (T.setTop (mkF m (pc + 2) Ls (.double v :: st)))) : Goes p e below G (T.setTop (mkF m pc Ls (st))) :=
  go (fun _ q => XS.dload (g := mkF m pc Ls (st)) X.here hx rfl hd hl q) K
theorem gDloadN (X : Stand p l e R s m args below meth c T locs cells slots) (hx : p.tables.exec = Jvm.exec) {pc : Nat} {Ls : Array Slot} {st : List Value} {k : Fin 4} {v : UInt64} (hd : decode c.code pc = .ok (.dload_n k, 1)) (hl : Ls[k.val]? = some (.val (.double v))) (K : Goes p e below G (T.setTop (mkF m (pc + 1) Ls (.double v :: st)))) : Goes p e below G (T.setTop (mkF m pc Ls (st))) :=
  go (fun _ q => XS.dloadN (g := mkF m pc Ls (st)) X.here hx rfl hd hl q) K
theorem gDstore (X : Stand p l e R s m args below meth c T locs cells slots) (hx : p.tables.exec = Jvm.exec) {pc : Nat} {Ls : Array Slot} {st : List Value} {k : Nat} {v : UInt64} {l' : Array Slot} (hd : decode c.code pc = .ok (.dstore k, 2)) (hl : storeLocals Ls k (.double v) = some l') (K : Goes p e below G (T.setTop (mkF m (pc + 2) l' (st)))) : Goes p e below G (T.setTop (mkF m pc Ls (.double v :: st))) :=
  go (fun _ q => XS.dstore (g := mkF m pc Ls (.double v :: st)) X.here hx rfl hd rfl hl q) K
theorem gDstoreN (X : Stand p l e R s m args below meth c T locs cells slots) (hx : p.tables.exec = Jvm.exec) {pc : Nat} {Ls : Array Slot} {st : List Value} {k : Fin 4} {v : UInt64} {l' : Array Slot} (hd : decode c.code pc = .ok (.dstore_n k, 1)) (hl : storeLocals Ls k.val (.double v) = some l') (K : Goes p e below G (T.setTop (mkF m (pc + 1) l' (st)))) : Goes p e below G (T.setTop (mkF m pc Ls (.double v :: st))) :=
  go (fun _ q => XS.dstoreN (g := mkF m pc Ls (.double v :: st)) X.here hx rfl hd rfl hl q) K
theorem gAload (X : Stand p l e R s m args below meth c T locs cells slots) (hx : p.tables.exec = Jvm.exec) {pc : Nat} {Ls : Array Slot} {st : List Value} {k : Nat} {v : Value} (hd : decode c.code pc = .ok (.aload k, 2)) (hl : Ls[k]? = some (.val v)) (hv : v.isRef = true) (K : Goes p e below G (T.setTop (mkF m (pc + 2) Ls (v :: st)))) : Goes p e below G (T.setTop (mkF m pc Ls (st))) :=
  go (fun _ q => XS.aload (g := mkF m pc Ls (st)) X.here hx rfl hd hl hv q) K
theorem gAloadN (X : Stand p l e R s m args below meth c T locs cells slots) (hx : p.tables.exec = Jvm.exec) {pc : Nat} {Ls : Array Slot} {st : List Value} {k : Fin 4} {v : Value} (hd : decode c.code pc = .ok (.aload_n k, 1)) (hl : Ls[k.val]? = some (.val v)) (hv : v.isRef = true) (K : Goes p e below G (T.setTop (mkF m (pc + 1) Ls (v :: st)))) : Goes p e below G (T.setTop (mkF m pc Ls (st))) :=
  go (fun _ q => XS.aloadN (g := mkF m pc Ls (st)) X.here hx rfl hd hl hv q) K
theorem gAstore (X : Stand p l e R s m args below meth c T locs cells slots) (hx : p.tables.exec = Jvm.exec) {pc : Nat} {Ls : Array Slot} {st : List Value} {k : Nat} {v : Value} {l' : Array Slot} (hd : decode c.code pc = .ok (.astore k, 2)) (hv : v.isRef = true) (hl : storeLocals Ls k v = some l') (K : Goes p e below G (T.setTop (mkF m (pc + 2) l' (st)))) : Goes p e below G (T.setTop (mkF m pc Ls (v :: st))) :=
  go (fun _ q => XS.astore (g := mkF m pc Ls (v :: st)) X.here hx rfl hd rfl hv hl q) K
theorem gAstoreN (X : Stand p l e R s m args below meth c T locs cells slots) (hx : p.tables.exec = Jvm.exec) {pc : Nat} {Ls : Array Slot} {st : List Value} {k : Fin 4} {v : Value} {l' : Array Slot} (hd : decode c.code pc = .ok (.astore_n k, 1)) (hv : v.isRef = true) (hl : storeLocals Ls k.val v = some l') (K : Goes p e below G (T.setTop (mkF m (pc + 1) l' (st)))) : Goes p e below G (T.setTop (mkF m pc Ls (v :: st))) :=
  go (fun _ q => XS.astoreN (g := mkF m pc Ls (v :: st)) X.here hx rfl hd rfl hv hl q) K
theorem gIstoreS (X : Stand p l e R s m args below meth c T locs cells slots) (hx : p.tables.exec = Jvm.exec) {pc : Nat} {Ls : Array Slot} {st : List Value} {k : Nat} {v : Int32} {o : Slot} (hd : decode c.code pc = .ok (.istore k, 2)) (hold : Ls[k]? = some o) (ho : o = .unset ∨ ∃ w, o = .val w ∧ w.category = 1) (K : Goes p e below G (T.setTop (mkF m (pc + 2) (Ls.setIfInBounds k (.val (.int v))) (st)))) : Goes p e below G (T.setTop (mkF m pc Ls (.int v :: st))) :=
  go (fun _ q => XS.istoreS (g := mkF m pc Ls (.int v :: st)) X.here hx rfl hd rfl hold ho q) K
theorem gIconst (X : Stand p l e R s m args below meth c T locs cells slots) (hx : p.tables.exec = Jvm.exec) {pc : Nat} {Ls : Array Slot} {st : List Value} {i : Int} {v : Int32} (hd : decode c.code pc = .ok (.iconst i, 1)) (hv : Int32.ofInt i = v) (K : Goes p e below G (T.setTop (mkF m (pc + 1) Ls (.int v :: st)))) : Goes p e below G (T.setTop (mkF m pc Ls st)) := by
  subst hv
  exact go (fun _ q => XS.iconst (g := mkF m pc Ls st) X.here hx rfl hd q) K
theorem gBipush (X : Stand p l e R s m args below meth c T locs cells slots) (hx : p.tables.exec = Jvm.exec) {pc : Nat} {Ls : Array Slot} {st : List Value} {i : Int} {v : Int32} (hd : decode c.code pc = .ok (.bipush i, 2)) (hv : (Int8.ofInt i).toInt32 = v) (K : Goes p e below G (T.setTop (mkF m (pc + 2) Ls (.int v :: st)))) : Goes p e below G (T.setTop (mkF m pc Ls st)) := by
  subst hv
  exact go (fun _ q => XS.bipush (g := mkF m pc Ls st) X.here hx rfl hd q) K
theorem gSipush (X : Stand p l e R s m args below meth c T locs cells slots) (hx : p.tables.exec = Jvm.exec) {pc : Nat} {Ls : Array Slot} {st : List Value} {i : Int} {v : Int32} (hd : decode c.code pc = .ok (.sipush i, 3)) (hv : (Int16.ofInt i).toInt32 = v) (K : Goes p e below G (T.setTop (mkF m (pc + 3) Ls (.int v :: st)))) : Goes p e below G (T.setTop (mkF m pc Ls st)) := by
  subst hv
  exact go (fun _ q => XS.sipush (g := mkF m pc Ls st) X.here hx rfl hd q) K
theorem gLconst (X : Stand p l e R s m args below meth c T locs cells slots) (hx : p.tables.exec = Jvm.exec) {pc : Nat} {Ls : Array Slot} {st : List Value} {i : Fin 2} {v : Int64} (hd : decode c.code pc = .ok (.lconst i, 1)) (hv : Int64.ofNat i = v) (K : Goes p e below G (T.setTop (mkF m (pc + 1) Ls (.long v :: st)))) : Goes p e below G (T.setTop (mkF m pc Ls st)) := by
  subst hv
  exact go (fun _ q => XT.lconst (g := mkF m pc Ls st) X.here hx rfl hd q) K
theorem gAnull (X : Stand p l e R s m args below meth c T locs cells slots) (hx : p.tables.exec = Jvm.exec) {pc : Nat} {Ls : Array Slot} {st : List Value}  (hd : decode c.code pc = .ok (.aconst_null, 1))  (K : Goes p e below G (T.setTop (mkF m (pc + 1) Ls (.null :: st)))) : Goes p e below G (T.setTop (mkF m pc Ls (st))) :=
  go (fun _ q => XS.aconstNull (g := mkF m pc Ls (st)) X.here hx rfl hd  q) K
theorem gDconst0 (X : Stand p l e R s m args below meth c T locs cells slots) (hx : p.tables.exec = Jvm.exec) {pc : Nat} {Ls : Array Slot} {st : List Value}  (hd : decode c.code pc = .ok (.dconst 0, 1))  (K : Goes p e below G (T.setTop (mkF m (pc + 1) Ls (.double FP.dconst0 :: st)))) : Goes p e below G (T.setTop (mkF m pc Ls (st))) :=
  go (fun _ q => XS.dconst0 (g := mkF m pc Ls (st)) X.here hx rfl hd rfl q) K
theorem gDconst1 (X : Stand p l e R s m args below meth c T locs cells slots) (hx : p.tables.exec = Jvm.exec) {pc : Nat} {Ls : Array Slot} {st : List Value}  (hd : decode c.code pc = .ok (.dconst 1, 1))  (K : Goes p e below G (T.setTop (mkF m (pc + 1) Ls (.double FP.dconst1 :: st)))) : Goes p e below G (T.setTop (mkF m pc Ls (st))) :=
  go (fun _ q => XS.dconst1 (g := mkF m pc Ls (st)) X.here hx rfl hd rfl q) K
theorem gIadd (X : Stand p l e R s m args below meth c T locs cells slots) (hx : p.tables.exec = Jvm.exec) {pc : Nat} {Ls : Array Slot} {st : List Value} {x y : Int32} (hd : decode c.code pc = .ok (.iadd, 1))  (K : Goes p e below G (T.setTop (mkF m (pc + 1) Ls (.int (x + y) :: st)))) : Goes p e below G (T.setTop (mkF m pc Ls (.int y :: .int x :: st))) :=
  go (fun _ q => XS.iadd (g := mkF m pc Ls (.int y :: .int x :: st)) X.here hx rfl hd rfl q) K
theorem gIsub (X : Stand p l e R s m args below meth c T locs cells slots) (hx : p.tables.exec = Jvm.exec) {pc : Nat} {Ls : Array Slot} {st : List Value} {x y : Int32} (hd : decode c.code pc = .ok (.isub, 1))  (K : Goes p e below G (T.setTop (mkF m (pc + 1) Ls (.int (x - y) :: st)))) : Goes p e below G (T.setTop (mkF m pc Ls (.int y :: .int x :: st))) :=
  go (fun _ q => XS.isub (g := mkF m pc Ls (.int y :: .int x :: st)) X.here hx rfl hd rfl q) K
theorem gImul (X : Stand p l e R s m args below meth c T locs cells slots) (hx : p.tables.exec = Jvm.exec) {pc : Nat} {Ls : Array Slot} {st : List Value} {x y : Int32} (hd : decode c.code pc = .ok (.imul, 1))  (K : Goes p e below G (T.setTop (mkF m (pc + 1) Ls (.int (x * y) :: st)))) : Goes p e below G (T.setTop (mkF m pc Ls (.int y :: .int x :: st))) :=
  go (fun _ q => XS.imul (g := mkF m pc Ls (.int y :: .int x :: st)) X.here hx rfl hd rfl q) K
theorem gIand (X : Stand p l e R s m args below meth c T locs cells slots) (hx : p.tables.exec = Jvm.exec) {pc : Nat} {Ls : Array Slot} {st : List Value} {x y : Int32} (hd : decode c.code pc = .ok (.iand, 1))  (K : Goes p e below G (T.setTop (mkF m (pc + 1) Ls (.int (x &&& y) :: st)))) : Goes p e below G (T.setTop (mkF m pc Ls (.int y :: .int x :: st))) :=
  go (fun _ q => XS.iand (g := mkF m pc Ls (.int y :: .int x :: st)) X.here hx rfl hd rfl q) K
theorem gIor (X : Stand p l e R s m args below meth c T locs cells slots) (hx : p.tables.exec = Jvm.exec) {pc : Nat} {Ls : Array Slot} {st : List Value} {x y : Int32} (hd : decode c.code pc = .ok (.ior, 1))  (K : Goes p e below G (T.setTop (mkF m (pc + 1) Ls (.int (x ||| y) :: st)))) : Goes p e below G (T.setTop (mkF m pc Ls (.int y :: .int x :: st))) :=
  go (fun _ q => XT.ior (g := mkF m pc Ls (.int y :: .int x :: st)) X.here hx rfl hd rfl q) K
theorem gIxor (X : Stand p l e R s m args below meth c T locs cells slots) (hx : p.tables.exec = Jvm.exec) {pc : Nat} {Ls : Array Slot} {st : List Value} {x y : Int32} (hd : decode c.code pc = .ok (.ixor, 1))  (K : Goes p e below G (T.setTop (mkF m (pc + 1) Ls (.int (x ^^^ y) :: st)))) : Goes p e below G (T.setTop (mkF m pc Ls (.int y :: .int x :: st))) :=
  go (fun _ q => XT.ixor (g := mkF m pc Ls (.int y :: .int x :: st)) X.here hx rfl hd rfl q) K
theorem gIshl (X : Stand p l e R s m args below meth c T locs cells slots) (hx : p.tables.exec = Jvm.exec) {pc : Nat} {Ls : Array Slot} {st : List Value} {x y : Int32} (hd : decode c.code pc = .ok (.ishl, 1))  (K : Goes p e below G (T.setTop (mkF m (pc + 1) Ls (.int (x <<< (y &&& 31)) :: st)))) : Goes p e below G (T.setTop (mkF m pc Ls (.int y :: .int x :: st))) :=
  go (fun _ q => XT.ishl (g := mkF m pc Ls (.int y :: .int x :: st)) X.here hx rfl hd rfl q) K
theorem gIshr (X : Stand p l e R s m args below meth c T locs cells slots) (hx : p.tables.exec = Jvm.exec) {pc : Nat} {Ls : Array Slot} {st : List Value} {x y : Int32} (hd : decode c.code pc = .ok (.ishr, 1))  (K : Goes p e below G (T.setTop (mkF m (pc + 1) Ls (.int (x >>> (y &&& 31)) :: st)))) : Goes p e below G (T.setTop (mkF m pc Ls (.int y :: .int x :: st))) :=
  go (fun _ q => XT.ishr (g := mkF m pc Ls (.int y :: .int x :: st)) X.here hx rfl hd rfl q) K
theorem gIushr (X : Stand p l e R s m args below meth c T locs cells slots) (hx : p.tables.exec = Jvm.exec) {pc : Nat} {Ls : Array Slot} {st : List Value} {x y : Int32} (hd : decode c.code pc = .ok (.iushr, 1))  (K : Goes p e below G (T.setTop (mkF m (pc + 1) Ls (.int (XT.ushr x y) :: st)))) : Goes p e below G (T.setTop (mkF m pc Ls (.int y :: .int x :: st))) :=
  go (fun _ q => XT.iushr (g := mkF m pc Ls (.int y :: .int x :: st)) X.here hx rfl hd rfl q) K
theorem gLadd (X : Stand p l e R s m args below meth c T locs cells slots) (hx : p.tables.exec = Jvm.exec) {pc : Nat} {Ls : Array Slot} {st : List Value} {x y : Int64} (hd : decode c.code pc = .ok (.ladd, 1))  (K : Goes p e below G (T.setTop (mkF m (pc + 1) Ls (.long (x + y) :: st)))) : Goes p e below G (T.setTop (mkF m pc Ls (.long y :: .long x :: st))) :=
  go (fun _ q => XT.ladd (g := mkF m pc Ls (.long y :: .long x :: st)) X.here hx rfl hd rfl q) K
theorem gLsub (X : Stand p l e R s m args below meth c T locs cells slots) (hx : p.tables.exec = Jvm.exec) {pc : Nat} {Ls : Array Slot} {st : List Value} {x y : Int64} (hd : decode c.code pc = .ok (.lsub, 1))  (K : Goes p e below G (T.setTop (mkF m (pc + 1) Ls (.long (x - y) :: st)))) : Goes p e below G (T.setTop (mkF m pc Ls (.long y :: .long x :: st))) :=
  go (fun _ q => XT.lsub (g := mkF m pc Ls (.long y :: .long x :: st)) X.here hx rfl hd rfl q) K
theorem gLmul (X : Stand p l e R s m args below meth c T locs cells slots) (hx : p.tables.exec = Jvm.exec) {pc : Nat} {Ls : Array Slot} {st : List Value} {x y : Int64} (hd : decode c.code pc = .ok (.lmul, 1))  (K : Goes p e below G (T.setTop (mkF m (pc + 1) Ls (.long (x * y) :: st)))) : Goes p e below G (T.setTop (mkF m pc Ls (.long y :: .long x :: st))) :=
  go (fun _ q => XT.lmul (g := mkF m pc Ls (.long y :: .long x :: st)) X.here hx rfl hd rfl q) K
theorem gLand (X : Stand p l e R s m args below meth c T locs cells slots) (hx : p.tables.exec = Jvm.exec) {pc : Nat} {Ls : Array Slot} {st : List Value} {x y : Int64} (hd : decode c.code pc = .ok (.land, 1))  (K : Goes p e below G (T.setTop (mkF m (pc + 1) Ls (.long (x &&& y) :: st)))) : Goes p e below G (T.setTop (mkF m pc Ls (.long y :: .long x :: st))) :=
  go (fun _ q => XT.land (g := mkF m pc Ls (.long y :: .long x :: st)) X.here hx rfl hd rfl q) K
theorem gLor (X : Stand p l e R s m args below meth c T locs cells slots) (hx : p.tables.exec = Jvm.exec) {pc : Nat} {Ls : Array Slot} {st : List Value} {x y : Int64} (hd : decode c.code pc = .ok (.lor, 1))  (K : Goes p e below G (T.setTop (mkF m (pc + 1) Ls (.long (x ||| y) :: st)))) : Goes p e below G (T.setTop (mkF m pc Ls (.long y :: .long x :: st))) :=
  go (fun _ q => XT.lor (g := mkF m pc Ls (.long y :: .long x :: st)) X.here hx rfl hd rfl q) K
theorem gLxor (X : Stand p l e R s m args below meth c T locs cells slots) (hx : p.tables.exec = Jvm.exec) {pc : Nat} {Ls : Array Slot} {st : List Value} {x y : Int64} (hd : decode c.code pc = .ok (.lxor, 1))  (K : Goes p e below G (T.setTop (mkF m (pc + 1) Ls (.long (x ^^^ y) :: st)))) : Goes p e below G (T.setTop (mkF m pc Ls (.long y :: .long x :: st))) :=
  go (fun _ q => XT.lxor (g := mkF m pc Ls (.long y :: .long x :: st)) X.here hx rfl hd rfl q) K
theorem gLshl (X : Stand p l e R s m args below meth c T locs cells slots) (hx : p.tables.exec = Jvm.exec) {pc : Nat} {Ls : Array Slot} {st : List Value} {x : Int64} {y : Int32} (hd : decode c.code pc = .ok (.lshl, 1))  (K : Goes p e below G (T.setTop (mkF m (pc + 1) Ls (.long (x <<< (y.toInt64 &&& 63)) :: st)))) : Goes p e below G (T.setTop (mkF m pc Ls (.int y :: .long x :: st))) :=
  go (fun _ q => XT.lshl (g := mkF m pc Ls (.int y :: .long x :: st)) X.here hx rfl hd rfl q) K
theorem gLshr (X : Stand p l e R s m args below meth c T locs cells slots) (hx : p.tables.exec = Jvm.exec) {pc : Nat} {Ls : Array Slot} {st : List Value} {x : Int64} {y : Int32} (hd : decode c.code pc = .ok (.lshr, 1))  (K : Goes p e below G (T.setTop (mkF m (pc + 1) Ls (.long (x >>> (y.toInt64 &&& 63)) :: st)))) : Goes p e below G (T.setTop (mkF m pc Ls (.int y :: .long x :: st))) :=
  go (fun _ q => XT.lshr (g := mkF m pc Ls (.int y :: .long x :: st)) X.here hx rfl hd rfl q) K
theorem gLushr (X : Stand p l e R s m args below meth c T locs cells slots) (hx : p.tables.exec = Jvm.exec) {pc : Nat} {Ls : Array Slot} {st : List Value} {x : Int64} {y : Int32} (hd : decode c.code pc = .ok (.lushr, 1))  (K : Goes p e below G (T.setTop (mkF m (pc + 1) Ls (.long (XT.ushrL x y) :: st)))) : Goes p e below G (T.setTop (mkF m pc Ls (.int y :: .long x :: st))) :=
  go (fun _ q => XT.lushr (g := mkF m pc Ls (.int y :: .long x :: st)) X.here hx rfl hd rfl q) K
theorem gIneg (X : Stand p l e R s m args below meth c T locs cells slots) (hx : p.tables.exec = Jvm.exec) {pc : Nat} {Ls : Array Slot} {st : List Value} {x : Int32} (hd : decode c.code pc = .ok (.ineg, 1))  (K : Goes p e below G (T.setTop (mkF m (pc + 1) Ls (.int (-x) :: st)))) : Goes p e below G (T.setTop (mkF m pc Ls (.int x :: st))) :=
  go (fun _ q => XS.ineg (g := mkF m pc Ls (.int x :: st)) X.here hx rfl hd rfl q) K
theorem gI2l (X : Stand p l e R s m args below meth c T locs cells slots) (hx : p.tables.exec = Jvm.exec) {pc : Nat} {Ls : Array Slot} {st : List Value} {x : Int32} (hd : decode c.code pc = .ok (.i2l, 1))  (K : Goes p e below G (T.setTop (mkF m (pc + 1) Ls (.long (x.toInt64) :: st)))) : Goes p e below G (T.setTop (mkF m pc Ls (.int x :: st))) :=
  go (fun _ q => XT.i2l (g := mkF m pc Ls (.int x :: st)) X.here hx rfl hd rfl q) K
theorem gL2i (X : Stand p l e R s m args below meth c T locs cells slots) (hx : p.tables.exec = Jvm.exec) {pc : Nat} {Ls : Array Slot} {st : List Value} {x : Int64} (hd : decode c.code pc = .ok (.l2i, 1))  (K : Goes p e below G (T.setTop (mkF m (pc + 1) Ls (.int (x.toInt32) :: st)))) : Goes p e below G (T.setTop (mkF m pc Ls (.long x :: st))) :=
  go (fun _ q => XT.l2i (g := mkF m pc Ls (.long x :: st)) X.here hx rfl hd rfl q) K
theorem gI2b (X : Stand p l e R s m args below meth c T locs cells slots) (hx : p.tables.exec = Jvm.exec) {pc : Nat} {Ls : Array Slot} {st : List Value} {x : Int32} (hd : decode c.code pc = .ok (.i2b, 1))  (K : Goes p e below G (T.setTop (mkF m (pc + 1) Ls (.int (x.toInt8.toInt32) :: st)))) : Goes p e below G (T.setTop (mkF m pc Ls (.int x :: st))) :=
  go (fun _ q => XT.i2b (g := mkF m pc Ls (.int x :: st)) X.here hx rfl hd rfl q) K
theorem gI2c (X : Stand p l e R s m args below meth c T locs cells slots) (hx : p.tables.exec = Jvm.exec) {pc : Nat} {Ls : Array Slot} {st : List Value} {x : Int32} (hd : decode c.code pc = .ok (.i2c, 1))  (K : Goes p e below G (T.setTop (mkF m (pc + 1) Ls (.int (x.toUInt32.toUInt16.toUInt32.toInt32) :: st)))) : Goes p e below G (T.setTop (mkF m pc Ls (.int x :: st))) :=
  go (fun _ q => XT.i2c (g := mkF m pc Ls (.int x :: st)) X.here hx rfl hd rfl q) K
theorem gI2d (X : Stand p l e R s m args below meth c T locs cells slots) (hx : p.tables.exec = Jvm.exec) {pc : Nat} {Ls : Array Slot} {st : List Value} {x : Int32} (hd : decode c.code pc = .ok (.i2d, 1))  (K : Goes p e below G (T.setTop (mkF m (pc + 1) Ls (.double (FP.i2d x) :: st)))) : Goes p e below G (T.setTop (mkF m pc Ls (.int x :: st))) :=
  go (fun _ q => XS.i2dS (g := mkF m pc Ls (.int x :: st)) X.here hx rfl hd rfl rfl q) K
theorem gL2d (X : Stand p l e R s m args below meth c T locs cells slots) (hx : p.tables.exec = Jvm.exec) {pc : Nat} {Ls : Array Slot} {st : List Value} {x : Int64} (hd : decode c.code pc = .ok (.l2d, 1))  (K : Goes p e below G (T.setTop (mkF m (pc + 1) Ls (.double (FP.l2d x) :: st)))) : Goes p e below G (T.setTop (mkF m pc Ls (.long x :: st))) :=
  go (fun _ q => XS.l2dS (g := mkF m pc Ls (.long x :: st)) X.here hx rfl hd rfl rfl q) K
theorem gDadd (X : Stand p l e R s m args below meth c T locs cells slots) (hx : p.tables.exec = Jvm.exec) {pc : Nat} {Ls : Array Slot} {st : List Value} {x y : UInt64} (hd : decode c.code pc = .ok (.dadd, 1)) (hn : Jvm.Free.Fl.NoNaN64 (FP.dadd x y)) (K : Goes p e below G (T.setTop (mkF m (pc + 1) Ls (.double (FP.dadd x y) :: st)))) : Goes p e below G (T.setTop (mkF m pc Ls (.double y :: .double x :: st))) :=
  go (fun _ q => XS.daddS (g := mkF m pc Ls (.double y :: .double x :: st)) X.here hx rfl hd rfl hn rfl q) K
theorem gDsub (X : Stand p l e R s m args below meth c T locs cells slots) (hx : p.tables.exec = Jvm.exec) {pc : Nat} {Ls : Array Slot} {st : List Value} {x y : UInt64} (hd : decode c.code pc = .ok (.dsub, 1)) (hn : Jvm.Free.Fl.NoNaN64 (FP.dsub x y)) (K : Goes p e below G (T.setTop (mkF m (pc + 1) Ls (.double (FP.dsub x y) :: st)))) : Goes p e below G (T.setTop (mkF m pc Ls (.double y :: .double x :: st))) :=
  go (fun _ q => XS.dsubS (g := mkF m pc Ls (.double y :: .double x :: st)) X.here hx rfl hd rfl hn rfl q) K
theorem gDmul (X : Stand p l e R s m args below meth c T locs cells slots) (hx : p.tables.exec = Jvm.exec) {pc : Nat} {Ls : Array Slot} {st : List Value} {x y : UInt64} (hd : decode c.code pc = .ok (.dmul, 1)) (hn : Jvm.Free.Fl.NoNaN64 (FP.dmul x y)) (K : Goes p e below G (T.setTop (mkF m (pc + 1) Ls (.double (FP.dmul x y) :: st)))) : Goes p e below G (T.setTop (mkF m pc Ls (.double y :: .double x :: st))) :=
  go (fun _ q => XS.dmulS (g := mkF m pc Ls (.double y :: .double x :: st)) X.here hx rfl hd rfl hn rfl q) K
theorem gDdiv (X : Stand p l e R s m args below meth c T locs cells slots) (hx : p.tables.exec = Jvm.exec) {pc : Nat} {Ls : Array Slot} {st : List Value} {x y : UInt64} (hd : decode c.code pc = .ok (.ddiv, 1)) (hn : Jvm.Free.Fl.NoNaN64 (FP.ddiv x y)) (K : Goes p e below G (T.setTop (mkF m (pc + 1) Ls (.double (FP.ddiv x y) :: st)))) : Goes p e below G (T.setTop (mkF m pc Ls (.double y :: .double x :: st))) :=
  go (fun _ q => XS.ddivS (g := mkF m pc Ls (.double y :: .double x :: st)) X.here hx rfl hd rfl hn rfl q) K
theorem gDcmp (X : Stand p l e R s m args below meth c T locs cells slots) (hx : p.tables.exec = Jvm.exec) {pc : Nat} {Ls : Array Slot} {st : List Value} {o : CmpOp} {x y : UInt64} (hd : decode c.code pc = .ok (.dcmp o, 1))  (K : Goes p e below G (T.setTop (mkF m (pc + 1) Ls (.int (cmpValue (FP.dcmp x y) o) :: st)))) : Goes p e below G (T.setTop (mkF m pc Ls (.double y :: .double x :: st))) :=
  go (fun _ q => XS.dcmpS (g := mkF m pc Ls (.double y :: .double x :: st)) X.here hx rfl hd rfl rfl q) K
theorem gLcmp (X : Stand p l e R s m args below meth c T locs cells slots) (hx : p.tables.exec = Jvm.exec) {pc : Nat} {Ls : Array Slot} {st : List Value} {x y : Int64} (hd : decode c.code pc = .ok (.lcmp, 1))  (K : Goes p e below G (T.setTop (mkF m (pc + 1) Ls (.int (XT.cmpL x y) :: st)))) : Goes p e below G (T.setTop (mkF m pc Ls (.long y :: .long x :: st))) :=
  go (fun _ q => XT.lcmp (g := mkF m pc Ls (.long y :: .long x :: st)) X.here hx rfl hd rfl q) K
theorem gDup (X : Stand p l e R s m args below meth c T locs cells slots) (hx : p.tables.exec = Jvm.exec) {pc : Nat} {Ls : Array Slot} {st : List Value} {x : Value} (hd : decode c.code pc = .ok (.dup, 1)) (hc : x.category = 1) (K : Goes p e below G (T.setTop (mkF m (pc + 1) Ls (x :: x :: st)))) : Goes p e below G (T.setTop (mkF m pc Ls (x :: st))) :=
  go (fun _ q => XS.dup (g := mkF m pc Ls (x :: st)) X.here hx rfl hd rfl hc q) K
theorem gPop (X : Stand p l e R s m args below meth c T locs cells slots) (hx : p.tables.exec = Jvm.exec) {pc : Nat} {Ls : Array Slot} {st : List Value} {x : Value} (hd : decode c.code pc = .ok (.pop, 1)) (hc : x.category = 1) (K : Goes p e below G (T.setTop (mkF m (pc + 1) Ls (st)))) : Goes p e below G (T.setTop (mkF m pc Ls (x :: st))) :=
  go (fun _ q => XT.pop (g := mkF m pc Ls (x :: st)) X.here hx rfl hd rfl hc q) K
theorem gDupX1 (X : Stand p l e R s m args below meth c T locs cells slots) (hx : p.tables.exec = Jvm.exec) {pc : Nat} {Ls : Array Slot} {st : List Value} {x y : Value} (hd : decode c.code pc = .ok (.dup_x1, 1)) (hc : x.category = 1) (hc' : y.category = 1) (K : Goes p e below G (T.setTop (mkF m (pc + 1) Ls (x :: y :: x :: st)))) : Goes p e below G (T.setTop (mkF m pc Ls (x :: y :: st))) :=
  go (fun _ q => XT.dupX1 (g := mkF m pc Ls (x :: y :: st)) X.here hx rfl hd rfl hc hc' q) K
theorem gDup2 (X : Stand p l e R s m args below meth c T locs cells slots) (hx : p.tables.exec = Jvm.exec) {pc : Nat} {Ls : Array Slot} {st : List Value} {x y : Value} (hd : decode c.code pc = .ok (.dup2, 1)) (hc : x.category = 1) (hc' : y.category = 1) (K : Goes p e below G (T.setTop (mkF m (pc + 1) Ls (x :: y :: x :: y :: st)))) : Goes p e below G (T.setTop (mkF m pc Ls (x :: y :: st))) :=
  go (fun _ q => XT.dup2 (g := mkF m pc Ls (x :: y :: st)) X.here hx rfl hd rfl hc hc' q) K
theorem gIinc (X : Stand p l e R s m args below meth c T locs cells slots) (hx : p.tables.exec = Jvm.exec) {pc : Nat} {Ls : Array Slot} {st : List Value} {k : Nat} {i : Int} {x v : Int32} {l' : Array Slot} (hd : decode c.code pc = .ok (.iinc k i, 3)) (hv : x + Int32.ofInt i = v) (hl : Ls[k]? = some (.val (.int x))) (hl' : storeLocals Ls k (.int v) = some l') (K : Goes p e below G (T.setTop (mkF m (pc + 3) l' st))) : Goes p e below G (T.setTop (mkF m pc Ls st)) := by
  subst hv
  exact go (fun _ q => XS.iinc (g := mkF m pc Ls st) X.here hx rfl hd hl hl' q) K
theorem gIrem (X : Stand p l e R s m args below meth c T locs cells slots) (hx : p.tables.exec = Jvm.exec) {pc : Nat} {Ls : Array Slot} {st : List Value} {x y : Int32} (hd : decode c.code pc = .ok (.irem, 1)) (hy : y ≠ 0) (K : Goes p e below G (T.setTop (mkF m (pc + 1) Ls (.int (x % y) :: st)))) : Goes p e below G (T.setTop (mkF m pc Ls (.int y :: .int x :: st))) :=
  go (fun _ q => iremM X hx (g := mkF m pc Ls (.int y :: .int x :: st)) rfl hd rfl hy q) K
theorem gIdiv (X : Stand p l e R s m args below meth c T locs cells slots) (hx : p.tables.exec = Jvm.exec) {pc : Nat} {Ls : Array Slot} {st : List Value} {x y : Int32} (hd : decode c.code pc = .ok (.idiv, 1)) (hy : y ≠ 0) (K : Goes p e below G (T.setTop (mkF m (pc + 1) Ls (.int (x / y) :: st)))) : Goes p e below G (T.setTop (mkF m pc Ls (.int y :: .int x :: st))) :=
  go (fun _ q => XS.idiv (g := mkF m pc Ls (.int y :: .int x :: st)) X.here hx rfl hd rfl hy q) K
theorem gGoto (X : Stand p l e R s m args below meth c T locs cells slots) (hx : p.tables.exec = Jvm.exec) {pc : Nat} {Ls : Array Slot} {st : List Value} {o : Int} {pc' : Nat} (hd : decode c.code pc = .ok (.goto o, 3)) (ho : 0 ≤ (pc : Int) + o) (hp : ((pc : Int) + o).toNat = pc') (K : Goes p e below G (T.setTop (mkF m pc' Ls (st)))) : Goes p e below G (T.setTop (mkF m pc Ls (st))) :=
  go (fun _ q => XS.goto (g := mkF m pc Ls (st)) X.here hx rfl rfl hd ho hp q) K
theorem gIfY (X : Stand p l e R s m args below meth c T locs cells slots) (hx : p.tables.exec = Jvm.exec) {pc : Nat} {Ls : Array Slot} {st : List Value} {cd : ClassFile.Cond} {x : Int32} {o : Int} {pc' : Nat} (hd : decode c.code pc = .ok (.ifCond cd o, 3)) (hc : ifCond.holds cd x = true) (ho : 0 ≤ (pc : Int) + o) (hp : ((pc : Int) + o).toNat = pc') (K : Goes p e below G (T.setTop (mkF m pc' Ls (st)))) : Goes p e below G (T.setTop (mkF m pc Ls (.int x :: st))) :=
  go (fun _ q => XS.ifYes (g := mkF m pc Ls (.int x :: st)) X.here hx rfl rfl hd rfl hc ho hp q) K
theorem gIfN (X : Stand p l e R s m args below meth c T locs cells slots) (hx : p.tables.exec = Jvm.exec) {pc : Nat} {Ls : Array Slot} {st : List Value} {cd : ClassFile.Cond} {x : Int32} {o : Int} (hd : decode c.code pc = .ok (.ifCond cd o, 3)) (hc : ifCond.holds cd x = false) (K : Goes p e below G (T.setTop (mkF m (pc + 3) Ls (st)))) : Goes p e below G (T.setTop (mkF m pc Ls (.int x :: st))) :=
  go (fun _ q => XS.ifNo (g := mkF m pc Ls (.int x :: st)) X.here hx rfl hd rfl hc q) K
theorem gIcmpY (X : Stand p l e R s m args below meth c T locs cells slots) (hx : p.tables.exec = Jvm.exec) {pc : Nat} {Ls : Array Slot} {st : List Value} {cd : ClassFile.Cond} {x y : Int32} {o : Int} {pc' : Nat} (hd : decode c.code pc = .ok (.if_icmp cd o, 3)) (hc : if_icmp.holds cd x y = true) (ho : 0 ≤ (pc : Int) + o) (hp : ((pc : Int) + o).toNat = pc') (K : Goes p e below G (T.setTop (mkF m pc' Ls (st)))) : Goes p e below G (T.setTop (mkF m pc Ls (.int y :: .int x :: st))) :=
  go (fun _ q => XS.icmpYes (g := mkF m pc Ls (.int y :: .int x :: st)) X.here hx rfl rfl hd rfl hc ho hp q) K
theorem gIcmpN (X : Stand p l e R s m args below meth c T locs cells slots) (hx : p.tables.exec = Jvm.exec) {pc : Nat} {Ls : Array Slot} {st : List Value} {cd : ClassFile.Cond} {x y : Int32} {o : Int} (hd : decode c.code pc = .ok (.if_icmp cd o, 3)) (hc : if_icmp.holds cd x y = false) (K : Goes p e below G (T.setTop (mkF m (pc + 3) Ls (st)))) : Goes p e below G (T.setTop (mkF m pc Ls (.int y :: .int x :: st))) :=
  go (fun _ q => XS.icmpNo (g := mkF m pc Ls (.int y :: .int x :: st)) X.here hx rfl hd rfl hc q) K
theorem gAcmpY (X : Stand p l e R s m args below meth c T locs cells slots) (hx : p.tables.exec = Jvm.exec) {pc : Nat} {Ls : Array Slot} {st : List Value} {cd : ClassFile.ACond} {x y : Value} {o : Int} {pc' : Nat} (hd : decode c.code pc = .ok (.if_acmp cd o, 3)) (hx' : x.isRef = true) (hy' : y.isRef = true) (hc : XT.acmp cd x y = true) (ho : 0 ≤ (pc : Int) + o) (hp : ((pc : Int) + o).toNat = pc') (K : Goes p e below G (T.setTop (mkF m pc' Ls (st)))) : Goes p e below G (T.setTop (mkF m pc Ls (y :: x :: st))) :=
  go (fun _ q => XT.acmpYes (g := mkF m pc Ls (y :: x :: st)) X.here hx rfl rfl hd rfl hx' hy' hc ho hp q) K
theorem gAcmpN (X : Stand p l e R s m args below meth c T locs cells slots) (hx : p.tables.exec = Jvm.exec) {pc : Nat} {Ls : Array Slot} {st : List Value} {cd : ClassFile.ACond} {x y : Value} {o : Int} (hd : decode c.code pc = .ok (.if_acmp cd o, 3)) (hx' : x.isRef = true) (hy' : y.isRef = true) (hc : XT.acmp cd x y = false) (K : Goes p e below G (T.setTop (mkF m (pc + 3) Ls (st)))) : Goes p e below G (T.setTop (mkF m pc Ls (y :: x :: st))) :=
  go (fun _ q => XT.acmpNo (g := mkF m pc Ls (y :: x :: st)) X.here hx rfl hd rfl hx' hy' hc q) K
theorem gNullY (X : Stand p l e R s m args below meth c T locs cells slots) (hx : p.tables.exec = Jvm.exec) {pc : Nat} {Ls : Array Slot} {st : List Value} {o : Int} {pc' : Nat} (hd : decode c.code pc = .ok (.ifnull o, 3)) (ho : 0 ≤ (pc : Int) + o) (hp : ((pc : Int) + o).toNat = pc') (K : Goes p e below G (T.setTop (mkF m pc' Ls (st)))) : Goes p e below G (T.setTop (mkF m pc Ls (.null :: st))) :=
  go (fun _ q => XS.ifnullYes (g := mkF m pc Ls (.null :: st)) X.here hx rfl rfl hd rfl ho hp q) K
theorem gNullN (X : Stand p l e R s m args below meth c T locs cells slots) (hx : p.tables.exec = Jvm.exec) {pc : Nat} {Ls : Array Slot} {st : List Value} {b : Addr} {o : Int} (hd : decode c.code pc = .ok (.ifnull o, 3))  (K : Goes p e below G (T.setTop (mkF m (pc + 3) Ls (st)))) : Goes p e below G (T.setTop (mkF m pc Ls (.ref b :: st))) :=
  go (fun _ q => XS.ifnullNo (g := mkF m pc Ls (.ref b :: st)) X.here hx rfl hd rfl q) K
theorem gNonnullY (X : Stand p l e R s m args below meth c T locs cells slots) (hx : p.tables.exec = Jvm.exec) {pc : Nat} {Ls : Array Slot} {st : List Value} {b : Addr} {o : Int} {pc' : Nat} (hd : decode c.code pc = .ok (.ifnonnull o, 3)) (ho : 0 ≤ (pc : Int) + o) (hp : ((pc : Int) + o).toNat = pc') (K : Goes p e below G (T.setTop (mkF m pc' Ls (st)))) : Goes p e below G (T.setTop (mkF m pc Ls (.ref b :: st))) :=
  go (fun _ q => XT.ifnonnullYes (g := mkF m pc Ls (.ref b :: st)) X.here hx rfl rfl hd rfl ho hp q) K
theorem gNonnullN (X : Stand p l e R s m args below meth c T locs cells slots) (hx : p.tables.exec = Jvm.exec) {pc : Nat} {Ls : Array Slot} {st : List Value} {o : Int} (hd : decode c.code pc = .ok (.ifnonnull o, 3))  (K : Goes p e below G (T.setTop (mkF m (pc + 3) Ls (st)))) : Goes p e below G (T.setTop (mkF m pc Ls (.null :: st))) :=
  go (fun _ q => XT.ifnonnullNo (g := mkF m pc Ls (.null :: st)) X.here hx rfl hd rfl q) K
theorem gLdcI (X : Stand p l e R s m args below meth c T locs cells slots) (hx : p.tables.exec = Jvm.exec) {pc : Nat} {Ls : Array Slot} {st : List Value} (hZ : Z.Warmed39 s.vm) {own : String} (hown : s.vm.findClass own = some m.cls) {i : Nat} {v : Int32} (w : (Cond.constant own i v).before a0 Z = true) (hd : decode c.code pc = .ok (.ldc i, 2)) (K : Goes p e below G (T.setTop (mkF m (pc + 2) Ls (.int v :: st)))) : Goes p e below G (T.setTop (mkF m pc Ls st)) :=
  go (fun _ q => X.ldcI hx hown (mvT hZ w) (g := mkF m pc Ls st) rfl hd q) K
theorem gLdcWI (X : Stand p l e R s m args below meth c T locs cells slots) (hx : p.tables.exec = Jvm.exec) {pc : Nat} {Ls : Array Slot} {st : List Value} (hZ : Z.Warmed39 s.vm) {own : String} (hown : s.vm.findClass own = some m.cls) {i : Nat} {v : Int32} (w : (Cond.constant own i v).before a0 Z = true) (hd : decode c.code pc = .ok (.ldc_w i, 3)) (K : Goes p e below G (T.setTop (mkF m (pc + 3) Ls (.int v :: st)))) : Goes p e below G (T.setTop (mkF m pc Ls st)) :=
  go (fun _ q => X.ldcWI hx hown (mvT hZ w) (g := mkF m pc Ls st) rfl hd q) K
theorem gLdc2J (X : Stand p l e R s m args below meth c T locs cells slots) (hx : p.tables.exec = Jvm.exec) {pc : Nat} {Ls : Array Slot} {st : List Value} (hZ : Z.Warmed39 s.vm) {own : String} (hown : s.vm.findClass own = some m.cls) {i : Nat} {v : Int64} (w : (Cond.constantLong own i v).before a0 Z = true) (hd : decode c.code pc = .ok (.ldc2_w i, 3)) (K : Goes p e below G (T.setTop (mkF m (pc + 3) Ls (.long v :: st)))) : Goes p e below G (T.setTop (mkF m pc Ls st)) :=
  go (fun _ q => X.ldc2J hx hown (mvT hZ w) (g := mkF m pc Ls st) rfl hd q) K
theorem gLdc2D (X : Stand p l e R s m args below meth c T locs cells slots) (hx : p.tables.exec = Jvm.exec) {pc : Nat} {Ls : Array Slot} {st : List Value} (hZ : Z.Warmed39 s.vm) {own : String} (hown : s.vm.findClass own = some m.cls) {i : Nat} {v : UInt64} (w : (Cond.constantDouble own i v).before a0 Z = true) (hd : decode c.code pc = .ok (.ldc2_w i, 3)) (K : Goes p e below G (T.setTop (mkF m (pc + 3) Ls (.double v :: st)))) : Goes p e below G (T.setTop (mkF m pc Ls st)) :=
  go (fun _ q => X.ldc2DoubleC hx hown (mvT hZ w) (g := mkF m pc Ls st) rfl hd _ q) K
end Own
end Jvm.OwnWalk
namespace Jvm.Pilot.@@N@@
open Jvm Jvm.ClassFile Sem Op Lib Jvm.Free Jvm.Stand Jvm.LawKit Jvm.RoadKit Jvm.OwnWalk Bundle Jvm.Pilot.@@N@@.Jvm.D
theorem d_jdk_30_method_1_0 : decode jdk_30_method_1_code 0 = .ok (.aload_n 0, 1) := by decide +kernel
theorem d_jdk_30_method_1_1 : decode jdk_30_method_1_code 1 = .ok (.invokespecial 1, 3) := by decide +kernel
theorem d_jdk_30_method_1_4 : decode jdk_30_method_1_code 4 = .ok (.return_, 1) := by decide +kernel
theorem pn_0 : plainName "java/lang/Record" = true := by first | (simp [plainName, overriddenIn]; done) | decide +kernel
theorem ef_rmR (m : MethodId) (x0 : Addr) : entryFrame m #[(.ref x0)] 1 = mkF m 0 #[.val (.ref x0)] [] := by first | (simp [entryFrame, mkF, argsToLocals, Value.category]; done) | rfl
set_option maxRecDepth 65536 in
set_option maxHeartbeats 40000000 in
theorem rmR (l : Launch) (Z : State) (a0 : Array Value) (hw : ∀ d ∈ tables_1, d.before a0 Z = true)  (a1 : Addr) (h0 : Heap) (O0 : Ext Z.heap h0)  :
    Ctr l Z (⟨"java/lang/Record", "<init>", "()V"⟩ : MethodName) jdk_30_method_1_code 1 none [] ({ frames := 1, cells := 0, slots := 0, locals := 12 } : Room) #[(.ref a1)] h0 (fun v h L => v = none ∧ Fr Z.heap.size L ∧ h = h0) := by
  refine ctr (plainFor_of_name pn_0) ?_
  intro p e s m below meth c s₁ hx hby hml hown hnm hret hlocks hZ X0 e0
  have N0 := Fr.nil Z.heap.size
  have hsz : ∀ {Ls : Array Slot}, Ls.size = 1 → Ls.size = c.maxLocals := fun q => q.trans hml.symm
  refine goE (ef_rmR m (a1)) ?_
  show Goes p e below _ (s₁.setTop (mkF m 0 #[.val (.ref a1)] []))
  refine gAloadN X0 hx (hb hby d_jdk_30_method_1_0) rfl rfl ?_
  obtain ⟨Tt1, Xt1, et1, stt1⟩ := initO X0 hx hZ hown (hw _ (List.mem_of_getElem? (i := 11) rfl)) (hw _ (List.mem_of_getElem? (i := 12) rfl)) (hw _ (List.mem_of_getElem? (i := 13) rfl)) e0 (g := (mkF m 1 #[.val (.ref a1)] [(.ref a1)])) rfl (by rw [hml]; rfl) rfl (hb hby d_jdk_30_method_1_1) (by decide) (W := 0) (Nat.le_of_eq rfl) (by decide)
  refine go stt1 ?_
  show Goes p e below _ (Tt1.setTop (mkF m 4 #[.val (.ref a1)] []))
  exact goRet0 Xt1 hx hret hlocks (hb hby d_jdk_30_method_1_4) (by decide) (by decide) et1 (⟨rfl, N0, rfl⟩)
theorem d_jdk_18_method_1_0 : decode jdk_18_method_1_code 0 = .ok (.aload_n 0, 1) := by decide +kernel
theorem d_jdk_18_method_1_1 : decode jdk_18_method_1_code 1 = .ok (.invokespecial 1, 3) := by decide +kernel
theorem d_jdk_18_method_1_4 : decode jdk_18_method_1_code 4 = .ok (.return_, 1) := by decide +kernel
theorem pn_1 : plainName "java/lang/Number" = true := by first | (simp [plainName, overriddenIn]; done) | decide +kernel
theorem ef_rmN (m : MethodId) (x0 : Addr) : entryFrame m #[(.ref x0)] 1 = mkF m 0 #[.val (.ref x0)] [] := by first | (simp [entryFrame, mkF, argsToLocals, Value.category]; done) | rfl
set_option maxRecDepth 65536 in
set_option maxHeartbeats 40000000 in
theorem rmN (l : Launch) (Z : State) (a0 : Array Value) (hw : ∀ d ∈ tables_1, d.before a0 Z = true)  (a1 : Addr) (h0 : Heap) (O0 : Ext Z.heap h0)  :
    Ctr l Z (⟨"java/lang/Number", "<init>", "()V"⟩ : MethodName) jdk_18_method_1_code 1 none [] ({ frames := 1, cells := 0, slots := 0, locals := 12 } : Room) #[(.ref a1)] h0 (fun v h L => v = none ∧ Fr Z.heap.size L ∧ h = h0) := by
  refine ctr (plainFor_of_name pn_1) ?_
  intro p e s m below meth c s₁ hx hby hml hown hnm hret hlocks hZ X0 e0
  have N0 := Fr.nil Z.heap.size
  have hsz : ∀ {Ls : Array Slot}, Ls.size = 1 → Ls.size = c.maxLocals := fun q => q.trans hml.symm
  refine goE (ef_rmN m (a1)) ?_
  show Goes p e below _ (s₁.setTop (mkF m 0 #[.val (.ref a1)] []))
  refine gAloadN X0 hx (hb hby d_jdk_18_method_1_0) rfl rfl ?_
  obtain ⟨Tt1, Xt1, et1, stt1⟩ := initO X0 hx hZ hown (hw _ (List.mem_of_getElem? (i := 54) rfl)) (hw _ (List.mem_of_getElem? (i := 12) rfl)) (hw _ (List.mem_of_getElem? (i := 13) rfl)) e0 (g := (mkF m 1 #[.val (.ref a1)] [(.ref a1)])) rfl (by rw [hml]; rfl) rfl (hb hby d_jdk_18_method_1_1) (by decide) (W := 0) (Nat.le_of_eq rfl) (by decide)
  refine go stt1 ?_
  show Goes p e below _ (Tt1.setTop (mkF m 4 #[.val (.ref a1)] []))
  exact goRet0 Xt1 hx hret hlocks (hb hby d_jdk_18_method_1_4) (by decide) (by decide) et1 (⟨rfl, N0, rfl⟩)
theorem d_prog_88_method_1_0 : decode prog_88_method_1_code 0 = .ok (.aload_n 0, 1) := by decide +kernel
theorem pd_0 : parseMethodDescriptor "()V" = some ⟨[], none⟩ := by decide +kernel
theorem d_prog_88_method_1_1 : decode prog_88_method_1_code 1 = .ok (.invokespecial 1, 3) := by decide +kernel
theorem d_prog_88_method_1_4 : decode prog_88_method_1_code 4 = .ok (.aload_n 0, 1) := by decide +kernel
theorem d_prog_88_method_1_5 : decode prog_88_method_1_code 5 = .ok (.iload_n 1, 1) := by decide +kernel
theorem d_prog_88_method_1_6 : decode prog_88_method_1_code 6 = .ok (.putfield 7, 3) := by decide +kernel
theorem d_prog_88_method_1_9 : decode prog_88_method_1_code 9 = .ok (.aload_n 0, 1) := by decide +kernel
theorem d_prog_88_method_1_10 : decode prog_88_method_1_code 10 = .ok (.iload_n 2, 1) := by decide +kernel
theorem d_prog_88_method_1_11 : decode prog_88_method_1_code 11 = .ok (.putfield 13, 3) := by decide +kernel
theorem d_prog_88_method_1_14 : decode prog_88_method_1_code 14 = .ok (.aload_n 0, 1) := by decide +kernel
theorem d_prog_88_method_1_15 : decode prog_88_method_1_code 15 = .ok (.iload_n 3, 1) := by decide +kernel
theorem d_prog_88_method_1_16 : decode prog_88_method_1_code 16 = .ok (.putfield 16, 3) := by decide +kernel
theorem d_prog_88_method_1_19 : decode prog_88_method_1_code 19 = .ok (.aload_n 0, 1) := by decide +kernel
theorem d_prog_88_method_1_20 : decode prog_88_method_1_code 20 = .ok (.iload 4, 2) := by decide +kernel
theorem d_prog_88_method_1_22 : decode prog_88_method_1_code 22 = .ok (.putfield 19, 3) := by decide +kernel
theorem d_prog_88_method_1_25 : decode prog_88_method_1_code 25 = .ok (.aload_n 0, 1) := by decide +kernel
theorem d_prog_88_method_1_26 : decode prog_88_method_1_code 26 = .ok (.iload 5, 2) := by decide +kernel
theorem d_prog_88_method_1_28 : decode prog_88_method_1_code 28 = .ok (.putfield 22, 3) := by decide +kernel
theorem d_prog_88_method_1_31 : decode prog_88_method_1_code 31 = .ok (.return_, 1) := by decide +kernel
theorem pn_2 : plainName "com/example/querent/querent/hl7/Delimiters" = true := by first | (simp [plainName, overriddenIn]; done) | decide +kernel
theorem ef_rm1 (m : MethodId) (x0 : Addr) (x1 : Int32) (x2 : Int32) (x3 : Int32) (x4 : Int32) (x5 : Int32) : entryFrame m #[(.ref x0), (.int x1), (.int x2), (.int x3), (.int x4), (.int x5)] 6 = mkF m 0 #[.val (.ref x0), .val (.int x1), .val (.int x2), .val (.int x3), .val (.int x4), .val (.int x5)] [] := by first | (simp [entryFrame, mkF, argsToLocals, Value.category]; done) | rfl
set_option maxRecDepth 65536 in
set_option maxHeartbeats 40000000 in
theorem rm1 (l : Launch) (Z : State) (a0 : Array Value) (hw : ∀ d ∈ tables_1, d.before a0 Z = true)  (a1 : Addr) (p2 : Int32) (p3 : Int32) (p4 : Int32) (p5 : Int32) (p6 : Int32) (h0 : Heap) (O0 : Ext Z.heap h0) (E1 : Exa Z h0 a1 "com/example/querent/querent/hl7/Delimiters") (F_field : Fld Z h0 a1 "com/example/querent/querent/hl7/Delimiters" "field" "I" (.int (0 : Int32))) (F_component : Fld Z h0 a1 "com/example/querent/querent/hl7/Delimiters" "component" "I" (.int (0 : Int32))) (F_repetition : Fld Z h0 a1 "com/example/querent/querent/hl7/Delimiters" "repetition" "I" (.int (0 : Int32))) (F_escape : Fld Z h0 a1 "com/example/querent/querent/hl7/Delimiters" "escape" "I" (.int (0 : Int32))) (F_subcomponent : Fld Z h0 a1 "com/example/querent/querent/hl7/Delimiters" "subcomponent" "I" (.int (0 : Int32))) (fr1 : Z.heap.size ≤ a1) :
    Ctr l Z (⟨"com/example/querent/querent/hl7/Delimiters", "<init>", "(IIIII)V"⟩ : MethodName) prog_88_method_1_code 6 none [] ({ frames := 2, cells := 0, slots := 0, locals := 24 } : Room) #[(.ref a1), (.int p2), (.int p3), (.int p4), (.int p5), (.int p6)] h0 (fun v h L => v = none ∧ Fr Z.heap.size L ∧ Keep h0 h [a1] ∧ Fld Z h a1 "com/example/querent/querent/hl7/Delimiters" "field" "I" (.int p2) ∧ Fld Z h a1 "com/example/querent/querent/hl7/Delimiters" "component" "I" (.int p3) ∧ Fld Z h a1 "com/example/querent/querent/hl7/Delimiters" "repetition" "I" (.int p4) ∧ Fld Z h a1 "com/example/querent/querent/hl7/Delimiters" "escape" "I" (.int p5) ∧ Fld Z h a1 "com/example/querent/querent/hl7/Delimiters" "subcomponent" "I" (.int p6)) := by
  refine ctr (plainFor_of_name pn_2) ?_
  intro p e s m below meth c s₁ hx hby hml hown hnm hret hlocks hZ X0 e0
  have N0 := Fr.nil Z.heap.size
  have hsz : ∀ {Ls : Array Slot}, Ls.size = 6 → Ls.size = c.maxLocals := fun q => q.trans hml.symm
  have K0 := Keep.refl h0 [a1]
  refine goE (ef_rm1 m (a1) (p2) (p3) (p4) (p5) (p6)) ?_
  show Goes p e below _ (s₁.setTop (mkF m 0 #[.val (.ref a1), .val (.int p2), .val (.int p3), .val (.int p4), .val (.int p5), .val (.int p6)] []))
  refine gAloadN X0 hx (hb hby d_prog_88_method_1_0) rfl rfl ?_
  refine goCallI X0 hx hZ rfl hown (hw _ (List.mem_of_getElem? (i := 6) rfl)) (hw _ (List.mem_of_getElem? (i := 7) rfl)) (hw _ (List.mem_of_getElem? (i := 9) rfl)) (hw _ (List.mem_of_getElem? (i := 10) rfl)) (by decide) (rmR l Z a0 hw a1 h0 O0) 0 (by decide) (by decide) e0 (hsz rfl) a1 [] [] pd_0 rfl rfl rfl (Nat.le_of_eq rfl) (hb hby d_prog_88_method_1_1) (by decide) (by decide) (fun Tt1 vt1 Lt1 Xt1 qt1 => ?_)
  obtain ⟨rfl, N2, et1⟩ := qt1
  have N3 := Fr.app N0 N2
  show Goes p e below _ (Tt1.setTop (mkF m 4 #[.val (.ref a1), .val (.int p2), .val (.int p3), .val (.int p4), .val (.int p5), .val (.int p6)] []))
  refine gAloadN Xt1 hx (hb hby d_prog_88_method_1_4) rfl rfl ?_
  refine gIloadN Xt1 hx (hb hby d_prog_88_method_1_5) rfl ?_
  obtain ⟨Tt4, ht4, Xt4, et4, Wt4, stt4⟩ := putF Xt1 hx hZ hown (host := "") (Or.inl (hw _ (List.mem_of_getElem? (i := 14) rfl))) Via.refl et1 F_field E1 (Or.inr ⟨(hw _ (List.mem_of_getElem? (i := 15) rfl)), rfl, hnm⟩) (hw _ (List.mem_of_getElem? (i := 1) rfl)) (ty := .int) (by decide) rfl rfl (g := (mkF m 6 #[.val (.ref a1), .val (.int p2), .val (.int p3), .val (.int p4), .val (.int p5), .val (.int p6)] [(.int p2), (.ref a1)])) rfl rfl (hb hby d_prog_88_method_1_6)
  refine go stt4 ?_
  have N5 := Fr.snoc Xt4 N3 fr1
  replace F_field := F_field.same Wt4
  replace E1 := E1.wr Wt4
  replace F_component := F_component.other Wt4 (Or.inr (slot_ne (Or.inr (hw _ (List.mem_of_getElem? (i := 17) rfl))) (Or.inr (hw _ (List.mem_of_getElem? (i := 15) rfl))) (by decide) (t := .int) (by decide) (t' := .int) (by decide)))
  replace F_repetition := F_repetition.other Wt4 (Or.inr (slot_ne (Or.inr (hw _ (List.mem_of_getElem? (i := 19) rfl))) (Or.inr (hw _ (List.mem_of_getElem? (i := 15) rfl))) (by decide) (t := .int) (by decide) (t' := .int) (by decide)))
  replace F_escape := F_escape.other Wt4 (Or.inr (slot_ne (Or.inr (hw _ (List.mem_of_getElem? (i := 21) rfl))) (Or.inr (hw _ (List.mem_of_getElem? (i := 15) rfl))) (by decide) (t := .int) (by decide) (t' := .int) (by decide)))
  replace F_subcomponent := F_subcomponent.other Wt4 (Or.inr (slot_ne (Or.inr (hw _ (List.mem_of_getElem? (i := 23) rfl))) (Or.inr (hw _ (List.mem_of_getElem? (i := 15) rfl))) (by decide) (t := .int) (by decide) (t' := .int) (by decide)))
  have O6 : Ext Z.heap ht4 := extW O0 Wt4 fr1
  have K7 := K0.wr Wt4 (Or.inl (by simp))
  show Goes p e below _ (Tt4.setTop (mkF m 9 #[.val (.ref a1), .val (.int p2), .val (.int p3), .val (.int p4), .val (.int p5), .val (.int p6)] []))
  refine gAloadN Xt4 hx (hb hby d_prog_88_method_1_9) rfl rfl ?_
  refine gIloadN Xt4 hx (hb hby d_prog_88_method_1_10) rfl ?_
  obtain ⟨Tt8, ht8, Xt8, et8, Wt8, stt8⟩ := putF Xt4 hx hZ hown (host := "") (Or.inl (hw _ (List.mem_of_getElem? (i := 16) rfl))) Via.refl et4 F_component E1 (Or.inr ⟨(hw _ (List.mem_of_getElem? (i := 17) rfl)), rfl, hnm⟩) (hw _ (List.mem_of_getElem? (i := 1) rfl)) (ty := .int) (by decide) rfl rfl (g := (mkF m 11 #[.val (.ref a1), .val (.int p2), .val (.int p3), .val (.int p4), .val (.int p5), .val (.int p6)] [(.int p3), (.ref a1)])) rfl rfl (hb hby d_prog_88_method_1_11)
  refine go stt8 ?_
  have N9 := Fr.snoc Xt8 N5 fr1
  replace F_component := F_component.same Wt8
  replace E1 := E1.wr Wt8
  replace F_field := F_field.other Wt8 (Or.inr (slot_ne (Or.inr (hw _ (List.mem_of_getElem? (i := 15) rfl))) (Or.inr (hw _ (List.mem_of_getElem? (i := 17) rfl))) (by decide) (t := .int) (by decide) (t' := .int) (by decide)))
  replace F_repetition := F_repetition.other Wt8 (Or.inr (slot_ne (Or.inr (hw _ (List.mem_of_getElem? (i := 19) rfl))) (Or.inr (hw _ (List.mem_of_getElem? (i := 17) rfl))) (by decide) (t := .int) (by decide) (t' := .int) (by decide)))
  replace F_escape := F_escape.other Wt8 (Or.inr (slot_ne (Or.inr (hw _ (List.mem_of_getElem? (i := 21) rfl))) (Or.inr (hw _ (List.mem_of_getElem? (i := 17) rfl))) (by decide) (t := .int) (by decide) (t' := .int) (by decide)))
  replace F_subcomponent := F_subcomponent.other Wt8 (Or.inr (slot_ne (Or.inr (hw _ (List.mem_of_getElem? (i := 23) rfl))) (Or.inr (hw _ (List.mem_of_getElem? (i := 17) rfl))) (by decide) (t := .int) (by decide) (t' := .int) (by decide)))
  have O10 : Ext Z.heap ht8 := extW O6 Wt8 fr1
  have K11 := K7.wr Wt8 (Or.inl (by simp))
  show Goes p e below _ (Tt8.setTop (mkF m 14 #[.val (.ref a1), .val (.int p2), .val (.int p3), .val (.int p4), .val (.int p5), .val (.int p6)] []))
  refine gAloadN Xt8 hx (hb hby d_prog_88_method_1_14) rfl rfl ?_
  refine gIloadN Xt8 hx (hb hby d_prog_88_method_1_15) rfl ?_
  obtain ⟨Tt12, ht12, Xt12, et12, Wt12, stt12⟩ := putF Xt8 hx hZ hown (host := "") (Or.inl (hw _ (List.mem_of_getElem? (i := 18) rfl))) Via.refl et8 F_repetition E1 (Or.inr ⟨(hw _ (List.mem_of_getElem? (i := 19) rfl)), rfl, hnm⟩) (hw _ (List.mem_of_getElem? (i := 1) rfl)) (ty := .int) (by decide) rfl rfl (g := (mkF m 16 #[.val (.ref a1), .val (.int p2), .val (.int p3), .val (.int p4), .val (.int p5), .val (.int p6)] [(.int p4), (.ref a1)])) rfl rfl (hb hby d_prog_88_method_1_16)
  refine go stt12 ?_
  have N13 := Fr.snoc Xt12 N9 fr1
  replace F_repetition := F_repetition.same Wt12
  replace E1 := E1.wr Wt12
  replace F_field := F_field.other Wt12 (Or.inr (slot_ne (Or.inr (hw _ (List.mem_of_getElem? (i := 15) rfl))) (Or.inr (hw _ (List.mem_of_getElem? (i := 19) rfl))) (by decide) (t := .int) (by decide) (t' := .int) (by decide)))
  replace F_component := F_component.other Wt12 (Or.inr (slot_ne (Or.inr (hw _ (List.mem_of_getElem? (i := 17) rfl))) (Or.inr (hw _ (List.mem_of_getElem? (i := 19) rfl))) (by decide) (t := .int) (by decide) (t' := .int) (by decide)))
  replace F_escape := F_escape.other Wt12 (Or.inr (slot_ne (Or.inr (hw _ (List.mem_of_getElem? (i := 21) rfl))) (Or.inr (hw _ (List.mem_of_getElem? (i := 19) rfl))) (by decide) (t := .int) (by decide) (t' := .int) (by decide)))
  replace F_subcomponent := F_subcomponent.other Wt12 (Or.inr (slot_ne (Or.inr (hw _ (List.mem_of_getElem? (i := 23) rfl))) (Or.inr (hw _ (List.mem_of_getElem? (i := 19) rfl))) (by decide) (t := .int) (by decide) (t' := .int) (by decide)))
  have O14 : Ext Z.heap ht12 := extW O10 Wt12 fr1
  have K15 := K11.wr Wt12 (Or.inl (by simp))
  show Goes p e below _ (Tt12.setTop (mkF m 19 #[.val (.ref a1), .val (.int p2), .val (.int p3), .val (.int p4), .val (.int p5), .val (.int p6)] []))
  refine gAloadN Xt12 hx (hb hby d_prog_88_method_1_19) rfl rfl ?_
  refine gIload Xt12 hx (hb hby d_prog_88_method_1_20) rfl ?_
  obtain ⟨Tt16, ht16, Xt16, et16, Wt16, stt16⟩ := putF Xt12 hx hZ hown (host := "") (Or.inl (hw _ (List.mem_of_getElem? (i := 20) rfl))) Via.refl et12 F_escape E1 (Or.inr ⟨(hw _ (List.mem_of_getElem? (i := 21) rfl)), rfl, hnm⟩) (hw _ (List.mem_of_getElem? (i := 1) rfl)) (ty := .int) (by decide) rfl rfl (g := (mkF m 22 #[.val (.ref a1), .val (.int p2), .val (.int p3), .val (.int p4), .val (.int p5), .val (.int p6)] [(.int p5), (.ref a1)])) rfl rfl (hb hby d_prog_88_method_1_22)
  refine go stt16 ?_
  have N17 := Fr.snoc Xt16 N13 fr1
  replace F_escape := F_escape.same Wt16
  replace E1 := E1.wr Wt16
  replace F_field := F_field.other Wt16 (Or.inr (slot_ne (Or.inr (hw _ (List.mem_of_getElem? (i := 15) rfl))) (Or.inr (hw _ (List.mem_of_getElem? (i := 21) rfl))) (by decide) (t := .int) (by decide) (t' := .int) (by decide)))
  replace F_component := F_component.other Wt16 (Or.inr (slot_ne (Or.inr (hw _ (List.mem_of_getElem? (i := 17) rfl))) (Or.inr (hw _ (List.mem_of_getElem? (i := 21) rfl))) (by decide) (t := .int) (by decide) (t' := .int) (by decide)))
  replace F_repetition := F_repetition.other Wt16 (Or.inr (slot_ne (Or.inr (hw _ (List.mem_of_getElem? (i := 19) rfl))) (Or.inr (hw _ (List.mem_of_getElem? (i := 21) rfl))) (by decide) (t := .int) (by decide) (t' := .int) (by decide)))
  replace F_subcomponent := F_subcomponent.other Wt16 (Or.inr (slot_ne (Or.inr (hw _ (List.mem_of_getElem? (i := 23) rfl))) (Or.inr (hw _ (List.mem_of_getElem? (i := 21) rfl))) (by decide) (t := .int) (by decide) (t' := .int) (by decide)))
  have O18 : Ext Z.heap ht16 := extW O14 Wt16 fr1
  have K19 := K15.wr Wt16 (Or.inl (by simp))
  show Goes p e below _ (Tt16.setTop (mkF m 25 #[.val (.ref a1), .val (.int p2), .val (.int p3), .val (.int p4), .val (.int p5), .val (.int p6)] []))
  refine gAloadN Xt16 hx (hb hby d_prog_88_method_1_25) rfl rfl ?_
  refine gIload Xt16 hx (hb hby d_prog_88_method_1_26) rfl ?_
  obtain ⟨Tt20, ht20, Xt20, et20, Wt20, stt20⟩ := putF Xt16 hx hZ hown (host := "") (Or.inl (hw _ (List.mem_of_getElem? (i := 22) rfl))) Via.refl et16 F_subcomponent E1 (Or.inr ⟨(hw _ (List.mem_of_getElem? (i := 23) rfl)), rfl, hnm⟩) (hw _ (List.mem_of_getElem? (i := 1) rfl)) (ty := .int) (by decide) rfl rfl (g := (mkF m 28 #[.val (.ref a1), .val (.int p2), .val (.int p3), .val (.int p4), .val (.int p5), .val (.int p6)] [(.int p6), (.ref a1)])) rfl rfl (hb hby d_prog_88_method_1_28)
  refine go stt20 ?_
  have N21 := Fr.snoc Xt20 N17 fr1
  replace F_subcomponent := F_subcomponent.same Wt20
  replace E1 := E1.wr Wt20
  replace F_field := F_field.other Wt20 (Or.inr (slot_ne (Or.inr (hw _ (List.mem_of_getElem? (i := 15) rfl))) (Or.inr (hw _ (List.mem_of_getElem? (i := 23) rfl))) (by decide) (t := .int) (by decide) (t' := .int) (by decide)))
  replace F_component := F_component.other Wt20 (Or.inr (slot_ne (Or.inr (hw _ (List.mem_of_getElem? (i := 17) rfl))) (Or.inr (hw _ (List.mem_of_getElem? (i := 23) rfl))) (by decide) (t := .int) (by decide) (t' := .int) (by decide)))
  replace F_repetition := F_repetition.other Wt20 (Or.inr (slot_ne (Or.inr (hw _ (List.mem_of_getElem? (i := 19) rfl))) (Or.inr (hw _ (List.mem_of_getElem? (i := 23) rfl))) (by decide) (t := .int) (by decide) (t' := .int) (by decide)))
  replace F_escape := F_escape.other Wt20 (Or.inr (slot_ne (Or.inr (hw _ (List.mem_of_getElem? (i := 21) rfl))) (Or.inr (hw _ (List.mem_of_getElem? (i := 23) rfl))) (by decide) (t := .int) (by decide) (t' := .int) (by decide)))
  have O22 : Ext Z.heap ht20 := extW O18 Wt20 fr1
  have K23 := K19.wr Wt20 (Or.inl (by simp))
  show Goes p e below _ (Tt20.setTop (mkF m 31 #[.val (.ref a1), .val (.int p2), .val (.int p3), .val (.int p4), .val (.int p5), .val (.int p6)] []))
  exact goRet0 Xt20 hx hret hlocks (hb hby d_prog_88_method_1_31) (by decide) (by decide) et20 (⟨rfl, N21, K23, F_field, F_component, F_repetition, F_escape, F_subcomponent⟩)
theorem d_jdk_33_method_23_0 : decode jdk_33_method_23_code 0 = .ok (.aload_n 0, 1) := by decide +kernel
theorem d_jdk_33_method_23_1 : decode jdk_33_method_23_code 1 = .ok (.invokespecial 202, 3) := by decide +kernel
theorem d_jdk_33_method_23_4 : decode jdk_33_method_23_code 4 = .ok (.aload_n 0, 1) := by decide +kernel
theorem d_jdk_33_method_23_5 : decode jdk_33_method_23_code 5 = .ok (.iload_n 1, 1) := by decide +kernel
theorem d_jdk_33_method_23_6 : decode jdk_33_method_23_code 6 = .ok (.putfield 205, 3) := by decide +kernel
theorem d_jdk_33_method_23_9 : decode jdk_33_method_23_code 9 = .ok (.return_, 1) := by decide +kernel
theorem pn_3 : plainName "java/lang/Integer" = true := by first | (simp [plainName, overriddenIn]; done) | decide +kernel
theorem ef_rm7 (m : MethodId) (x0 : Addr) (x1 : Int32) : entryFrame m #[(.ref x0), (.int x1)] 2 = mkF m 0 #[.val (.ref x0), .val (.int x1)] [] := by first | (simp [entryFrame, mkF, argsToLocals, Value.category]; done) | rfl
set_option maxRecDepth 65536 in
set_option maxHeartbeats 40000000 in
theorem rm7 (l : Launch) (Z : State) (a0 : Array Value) (hw : ∀ d ∈ tables_1, d.before a0 Z = true)  (a1 : Addr) (p2 : Int32) (h0 : Heap) (O0 : Ext Z.heap h0) (E1 : Exa Z h0 a1 "java/lang/Integer") (F_value : Fld Z h0 a1 "java/lang/Integer" "value" "I" (.int (0 : Int32))) (fr1 : Z.heap.size ≤ a1) :
    Ctr l Z (⟨"java/lang/Integer", "<init>", "(I)V"⟩ : MethodName) jdk_33_method_23_code 2 none [] ({ frames := 2, cells := 0, slots := 0, locals := 24 } : Room) #[(.ref a1), (.int p2)] h0 (fun v h L => v = none ∧ Fr Z.heap.size L ∧ Keep h0 h [a1]) := by
  refine ctr (plainFor_of_name pn_3) ?_
  intro p e s m below meth c s₁ hx hby hml hown hnm hret hlocks hZ X0 e0
  have N0 := Fr.nil Z.heap.size
  have hsz : ∀ {Ls : Array Slot}, Ls.size = 2 → Ls.size = c.maxLocals := fun q => q.trans hml.symm
  have K0 := Keep.refl h0 [a1]
  refine goE (ef_rm7 m (a1) (p2)) ?_
  show Goes p e below _ (s₁.setTop (mkF m 0 #[.val (.ref a1), .val (.int p2)] []))
  refine gAloadN X0 hx (hb hby d_jdk_33_method_23_0) rfl rfl ?_
  refine goCallI X0 hx hZ rfl hown (hw _ (List.mem_of_getElem? (i := 48) rfl)) (hw _ (List.mem_of_getElem? (i := 49) rfl)) (hw _ (List.mem_of_getElem? (i := 52) rfl)) (hw _ (List.mem_of_getElem? (i := 53) rfl)) (by decide) (rmN l Z a0 hw a1 h0 O0) 0 (by decide) (by decide) e0 (hsz rfl) a1 [] [] pd_0 rfl rfl rfl (Nat.le_of_eq rfl) (hb hby d_jdk_33_method_23_1) (by decide) (by decide) (fun Tt1 vt1 Lt1 Xt1 qt1 => ?_)
  obtain ⟨rfl, N2, et1⟩ := qt1
  have N3 := Fr.app N0 N2
  show Goes p e below _ (Tt1.setTop (mkF m 4 #[.val (.ref a1), .val (.int p2)] []))
  refine gAloadN Xt1 hx (hb hby d_jdk_33_method_23_4) rfl rfl ?_
  refine gIloadN Xt1 hx (hb hby d_jdk_33_method_23_5) rfl ?_
  obtain ⟨Tt4, ht4, Xt4, et4, Wt4, stt4⟩ := putF Xt1 hx hZ hown (host := "") (Or.inl (hw _ (List.mem_of_getElem? (i := 55) rfl))) Via.refl et1 F_value E1 (Or.inr ⟨(hw _ (List.mem_of_getElem? (i := 56) rfl)), rfl, hnm⟩) (hw _ (List.mem_of_getElem? (i := 43) rfl)) (ty := .int) (by decide) rfl rfl (g := (mkF m 6 #[.val (.ref a1), .val (.int p2)] [(.int p2), (.ref a1)])) rfl rfl (hb hby d_jdk_33_method_23_6)
  refine go stt4 ?_
  have N5 := Fr.snoc Xt4 N3 fr1
  replace F_value := F_value.same Wt4
  replace E1 := E1.wr Wt4
  have O6 : Ext Z.heap ht4 := extW O0 Wt4 fr1
  have K7 := K0.wr Wt4 (Or.inl (by simp))
  show Goes p e below _ (Tt4.setTop (mkF m 9 #[.val (.ref a1), .val (.int p2)] []))
  exact goRet0 Xt4 hx hret hlocks (hb hby d_jdk_33_method_23_9) (by decide) (by decide) et4 (⟨rfl, N5, K7⟩)
theorem d_jdk_33_method_22_0 : decode jdk_33_method_22_code 0 = .ok (.iload_n 0, 1) := by decide +kernel
theorem d_jdk_33_method_22_1 : decode jdk_33_method_22_code 1 = .ok (.bipush (-128), 2) := by decide +kernel
theorem d_jdk_33_method_22_3 : decode jdk_33_method_22_code 3 = .ok (.if_icmp .lt 20, 3) := by decide +kernel
theorem d_jdk_33_method_22_23 : decode jdk_33_method_22_code 23 = .ok (.new 1, 3) := by decide +kernel
theorem d_jdk_33_method_22_26 : decode jdk_33_method_22_code 26 = .ok (.dup, 1) := by decide +kernel
theorem d_jdk_33_method_22_27 : decode jdk_33_method_22_code 27 = .ok (.iload_n 0, 1) := by decide +kernel
theorem pd_1 : parseMethodDescriptor "(I)V" = some ⟨[.int], none⟩ := by decide +kernel
theorem d_jdk_33_method_22_28 : decode jdk_33_method_22_code 28 = .ok (.invokespecial 199, 3) := by decide +kernel
theorem d_jdk_33_method_22_31 : decode jdk_33_method_22_code 31 = .ok (.areturn, 1) := by decide +kernel
theorem d_jdk_33_method_22_6 : decode jdk_33_method_22_code 6 = .ok (.iload_n 0, 1) := by decide +kernel
theorem d_jdk_33_method_22_7 : decode jdk_33_method_22_code 7 = .ok (.getstatic 191, 3) := by decide +kernel
theorem d_jdk_33_method_22_10 : decode jdk_33_method_22_code 10 = .ok (.if_icmp .gt 13, 3) := by decide +kernel
theorem d_jdk_33_method_22_13 : decode jdk_33_method_22_code 13 = .ok (.getstatic 195, 3) := by decide +kernel
theorem d_jdk_33_method_22_16 : decode jdk_33_method_22_code 16 = .ok (.iload_n 0, 1) := by decide +kernel
theorem d_jdk_33_method_22_17 : decode jdk_33_method_22_code 17 = .ok (.sipush 128, 3) := by decide +kernel
theorem d_jdk_33_method_22_20 : decode jdk_33_method_22_code 20 = .ok (.iadd, 1) := by decide +kernel
theorem d_jdk_33_method_22_21 : decode jdk_33_method_22_code 21 = .ok (.aaload, 1) := by decide +kernel
theorem d_jdk_33_method_22_22 : decode jdk_33_method_22_code 22 = .ok (.areturn, 1) := by decide +kernel
theorem own_in {p : Int32} (g1 : ¬ p < (-128 : Int32)) (g2 : ¬ (127 : Int32) < p) : ¬ p + (128 : Int32) < 0 ∧ p + (128 : Int32) < (256 : Int32) := by
  have c := c_iadd p 128
  have r := rng32 (p + 128)
  rw [Int32.lt_iff_toInt_lt] at *
  simp only [Int32.lt_iff_toInt_lt, show (-128 : Int32).toInt = -128 by decide, show (127 : Int32).toInt = 127 by decide, show (128 : Int32).toInt = 128 by decide, show (256 : Int32).toInt = 256 by decide, show (0 : Int32).toInt = 0 by decide] at *
  omega
theorem ef_rm5 (m : MethodId) (x0 : Int32) : entryFrame m #[(.int x0)] 1 = mkF m 0 #[.val (.int x0)] [] := by first | (simp [entryFrame, mkF, argsToLocals, Value.category]; done) | rfl
set_option maxRecDepth 65536 in
set_option maxHeartbeats 40000000 in
theorem rm5 (l : Launch) (Z : State) (a0 : Array Value) (hw : ∀ d ∈ tables_1, d.before a0 Z = true) (w1 : Addr) (cl1 : Cell) (val1 : Int32 → Value) (p1 : Int32) (h0 : Heap) (O0 : Ext Z.heap h0) (S1 : Sta Z Z.heap "java/lang/Integer$IntegerCache" "high" "I" (.int (127 : Int32))) (S2 : Sta Z Z.heap "java/lang/Integer$IntegerCache" "cache" "[Ljava/lang/Integer;" (.ref w1)) (B1 : Bxs Z w1 cl1 "java/lang/Integer" "I" (256 : Int32) val1) :
    Ctr l Z (⟨"java/lang/Integer", "valueOf", "(I)Ljava/lang/Integer;"⟩ : MethodName) jdk_33_method_22_code 1 (some (.object "java/lang/Integer")) [] ({ frames := 3, cells := 1, slots := 1, locals := 38 } : Room) #[(.int p1)] h0 (fun v h L => ∃ b, v = some (.ref b) ∧ Fr Z.heap.size L ∧ Keep h0 h [] ∧ Exa Z h b "java/lang/Integer") := by
  refine ctr (plainFor_of_name pn_3) ?_
  intro p e s m below meth c s₁ hx hby hml hown hnm hret hlocks hZ X0 e0
  have N0 := Fr.nil Z.heap.size
  have hsz : ∀ {Ls : Array Slot}, Ls.size = 1 → Ls.size = c.maxLocals := fun q => q.trans hml.symm
  have K0 := Keep.refl h0 []
  refine goE (ef_rm5 m (p1)) ?_
  show Goes p e below _ (s₁.setTop (mkF m 0 #[.val (.int p1)] []))
  refine gIloadN X0 hx (hb hby d_jdk_33_method_22_0) rfl ?_
  refine gBipush X0 hx (hb hby d_jdk_33_method_22_1) (v := (-128 : Int32)) rfl ?_
  by_cases g1 : p1 < (-128 : Int32)
  · refine gIcmpY X0 hx (hb hby d_jdk_33_method_22_3) (pc' := 23) (XT.ii_lt_t g1) (by decide) (by decide) ?_
    show Goes p e below _ (s₁.setTop (mkF m 23 #[.val (.int p1)] []))
    obtain ⟨Tt1, ht1, Xt1, et1, Et1, At1, Dt1, -, stt1⟩ := newO X0 hx hZ hown (hw _ (List.mem_of_getElem? (i := 42) rfl)) (hw _ (List.mem_of_getElem? (i := 43) rfl)) (hw _ (List.mem_of_getElem? (i := 30) rfl)) e0 (g := (mkF m 23 #[.val (.int p1)] [])) rfl (hb hby d_jdk_33_method_22_23) (by decide) (by decide)
    obtain ⟨b2, gb2⟩ : ∃ z, z = h0.size := ⟨_, rfl⟩
    rw [← gb2] at At1 Dt1 stt1
    refine go stt1 ?_
    have fr_b2 : Z.heap.size ≤ b2 := gb2 ▸ O0.1
    have pa_b2 : h0.size ≤ b2 := gb2 ▸ K0.1
    have O3 : Ext Z.heap ht1 := extT O0 Et1
    have K4 := K0.ext Et1
    have F_value_b2 : Fld Z ht1 b2 "java/lang/Integer" "value" "I" (.int (0 : Int32)) := Dt1 (Or.inr (hw _ (List.mem_of_getElem? (i := 56) rfl))) (ty := .int) (by decide)
    show Goes p e below _ (Tt1.setTop (mkF m 26 #[.val (.int p1)] [(.ref b2)]))
    refine gDup Xt1 hx (hb hby d_jdk_33_method_22_26) rfl ?_
    refine gIloadN Xt1 hx (hb hby d_jdk_33_method_22_27) rfl ?_
    refine goCallI Xt1 hx hZ rfl hown (hw _ (List.mem_of_getElem? (i := 44) rfl)) (hw _ (List.mem_of_getElem? (i := 45) rfl)) (hw _ (List.mem_of_getElem? (i := 30) rfl)) (hw _ (List.mem_of_getElem? (i := 47) rfl)) (by decide) (rm7 l Z a0 hw b2 p1 ht1 O3 At1 F_value_b2 fr_b2) 1 (by decide) (by decide) et1 (hsz rfl) b2 [(.int p1)] [(.ref b2)] pd_1 rfl rfl rfl (Nat.le_of_eq rfl) (hb hby d_jdk_33_method_22_28) (by decide) (by decide) (fun Tt5 vt5 Lt5 Xt5 qt5 => ?_)
    obtain ⟨ht5, et5⟩ : ∃ z, Tt5.heap = z := ⟨_, rfl⟩
    rw [et5] at qt5
    obtain ⟨rfl, N6, Kct5⟩ := qt5
    have N7 := Fr.app N0 N6
    replace At1 := At1.keep Kct5
    have O8 : Ext Z.heap ht5 := extK O3 Kct5 (allS fr_b2 all0)
    have K9 := K4.trans Kct5 (allS (Or.inr pa_b2) all0)
    show Goes p e below _ (Tt5.setTop (mkF m 31 #[.val (.int p1)] [(.ref b2)]))
    exact goRetA Xt5 hx hret hlocks rfl rfl (hb hby d_jdk_33_method_22_31) (by decide) (by decide) et5 (⟨b2, rfl, N7, K9, At1⟩)
  · refine gIcmpN X0 hx (hb hby d_jdk_33_method_22_3) (XT.ii_lt_f g1) ?_
    show Goes p e below _ (s₁.setTop (mkF m 6 #[.val (.int p1)] []))
    refine gIloadN X0 hx (hb hby d_jdk_33_method_22_6) rfl ?_
    obtain ⟨Tt10, Xt10, et10, stt10⟩ := getS2 X0 hx hZ hown (host := "") (Or.inl (hw _ (List.mem_of_getElem? (i := 32) rfl))) Via.refl e0 (S1.ext O0) (g := (mkF m 7 #[.val (.int p1)] [(.int p1)])) rfl (hb hby d_jdk_33_method_22_7)
    refine go stt10 ?_
    show Goes p e below _ (Tt10.setTop (mkF m 10 #[.val (.int p1)] [(.int (127 : Int32)), (.int p1)]))
    by_cases g2 : (127 : Int32) < p1
    · refine gIcmpY Xt10 hx (hb hby d_jdk_33_method_22_10) (pc' := 23) (XT.ii_gt_t g2) (by decide) (by decide) ?_
      show Goes p e below _ (Tt10.setTop (mkF m 23 #[.val (.int p1)] []))
      obtain ⟨Tt11, ht11, Xt11, et11, Et11, At11, Dt11, -, stt11⟩ := newO Xt10 hx hZ hown (hw _ (List.mem_of_getElem? (i := 42) rfl)) (hw _ (List.mem_of_getElem? (i := 43) rfl)) (hw _ (List.mem_of_getElem? (i := 30) rfl)) et10 (g := (mkF m 23 #[.val (.int p1)] [])) rfl (hb hby d_jdk_33_method_22_23) (by decide) (by decide)
      obtain ⟨b12, gb12⟩ : ∃ z, z = h0.size := ⟨_, rfl⟩
      rw [← gb12] at At11 Dt11 stt11
      refine go stt11 ?_
      have fr_b12 : Z.heap.size ≤ b12 := gb12 ▸ O0.1
      have pa_b12 : h0.size ≤ b12 := gb12 ▸ K0.1
      have O13 : Ext Z.heap ht11 := extT O0 Et11
      have K14 := K0.ext Et11
      have F_value_b12 : Fld Z ht11 b12 "java/lang/Integer" "value" "I" (.int (0 : Int32)) := Dt11 (Or.inr (hw _ (List.mem_of_getElem? (i := 56) rfl))) (ty := .int) (by decide)
      show Goes p e below _ (Tt11.setTop (mkF m 26 #[.val (.int p1)] [(.ref b12)]))
      refine gDup Xt11 hx (hb hby d_jdk_33_method_22_26) rfl ?_
      refine gIloadN Xt11 hx (hb hby d_jdk_33_method_22_27) rfl ?_
      refine goCallI Xt11 hx hZ rfl hown (hw _ (List.mem_of_getElem? (i := 44) rfl)) (hw _ (List.mem_of_getElem? (i := 45) rfl)) (hw _ (List.mem_of_getElem? (i := 30) rfl)) (hw _ (List.mem_of_getElem? (i := 47) rfl)) (by decide) (rm7 l Z a0 hw b12 p1 ht11 O13 At11 F_value_b12 fr_b12) 1 (by decide) (by decide) et11 (hsz rfl) b12 [(.int p1)] [(.ref b12)] pd_1 rfl rfl rfl (Nat.le_of_eq rfl) (hb hby d_jdk_33_method_22_28) (by decide) (by decide) (fun Tt15 vt15 Lt15 Xt15 qt15 => ?_)
      obtain ⟨ht15, et15⟩ : ∃ z, Tt15.heap = z := ⟨_, rfl⟩
      rw [et15] at qt15
      obtain ⟨rfl, N16, Kct15⟩ := qt15
      have N17 := Fr.app N0 N16
      replace At11 := At11.keep Kct15
      have O18 : Ext Z.heap ht15 := extK O13 Kct15 (allS fr_b12 all0)
      have K19 := K14.trans Kct15 (allS (Or.inr pa_b12) all0)
      show Goes p e below _ (Tt15.setTop (mkF m 31 #[.val (.int p1)] [(.ref b12)]))
      exact goRetA Xt15 hx hret hlocks rfl rfl (hb hby d_jdk_33_method_22_31) (by decide) (by decide) et15 (⟨b12, rfl, N17, K19, At11⟩)
    · refine gIcmpN Xt10 hx (hb hby d_jdk_33_method_22_10) (XT.ii_gt_f g2) ?_
      show Goes p e below _ (Tt10.setTop (mkF m 13 #[.val (.int p1)] []))
      obtain ⟨Tt20, Xt20, et20, stt20⟩ := getS2 Xt10 hx hZ hown (host := "") (Or.inl (hw _ (List.mem_of_getElem? (i := 34) rfl))) Via.refl et10 (S2.ext O0) (g := (mkF m 13 #[.val (.int p1)] [])) rfl (hb hby d_jdk_33_method_22_13)
      refine go stt20 ?_
      show Goes p e below _ (Tt20.setTop (mkF m 16 #[.val (.int p1)] [(.ref w1)]))
      refine gIloadN Xt20 hx (hb hby d_jdk_33_method_22_16) rfl ?_
      refine gSipush Xt20 hx (hb hby d_jdk_33_method_22_17) (v := (128 : Int32)) rfl ?_
      refine gIadd Xt20 hx (hb hby d_jdk_33_method_22_20) ?_
      have hin : ¬ ((p1 + (128 : Int32)) < 0 ∨ cl1.slots.size ≤ Int32.toNatClampNeg (p1 + (128 : Int32))) := inb_of B1.2.1 (own_in g1 g2)
      obtain ⟨b, hb1, Eb, -⟩ := B1.2.2.2 (p1 + (128 : Int32)) hin
      have Ab := (B1.ext O0).1
      refine go (Xt20.aaload hx (j := (p1 + (128 : Int32))) (v := .ref b) (by rw [et20]; exact Ab.1) (State.isArrayOf_alike hZ.alike Ab.2.1) rfl Ab.2.2 hin hb1 (g := (mkF m 21 #[.val (.int p1)] [(.int (p1 + (128 : Int32))), (.ref w1)])) rfl rfl (hb hby d_jdk_33_method_22_21)) ?_
      show Goes p e below _ (Tt20.setTop (mkF m 22 #[.val (.int p1)] [(.ref b)]))
      exact goRetA Xt20 hx hret hlocks rfl rfl (hb hby d_jdk_33_method_22_22) (by decide) (by decide) et20 (⟨b, rfl, N0, K0, Eb.ext O0⟩)
def own_pick (v sel bit d : Int32) : Int32 := if XT.ushr sel bit &&& 1 = 0 then v else v ^^^ d
theorem d_method_2_0 : decode method_2_code 0 = .ok (.iload_n 1, 1) := by decide +kernel
theorem d_method_2_1 : decode method_2_code 1 = .ok (.iload_n 2, 1) := by decide +kernel
theorem d_method_2_2 : decode method_2_code 2 = .ok (.iushr, 1) := by decide +kernel
theorem d_method_2_3 : decode method_2_code 3 = .ok (.iconst 1, 1) := by decide +kernel
theorem d_method_2_4 : decode method_2_code 4 = .ok (.iand, 1) := by decide +kernel
theorem d_method_2_5 : decode method_2_code 5 = .ok (.ifCond .eq 7, 3) := by decide +kernel
theorem d_method_2_12 : decode method_2_code 12 = .ok (.iload_n 0, 1) := by decide +kernel
theorem d_method_2_13 : decode method_2_code 13 = .ok (.ireturn, 1) := by decide +kernel
theorem d_method_2_8 : decode method_2_code 8 = .ok (.iload_n 0, 1) := by decide +kernel
theorem d_method_2_9 : decode method_2_code 9 = .ok (.iload_n 3, 1) := by decide +kernel
theorem d_method_2_10 : decode method_2_code 10 = .ok (.ixor, 1) := by decide +kernel
theorem d_method_2_11 : decode method_2_code 11 = .ok (.ireturn, 1) := by decide +kernel
theorem pn_4 : plainName "com/example/querent/querent/hl7/DelimitersEqualsPinLaw" = true := by first | (simp [plainName, overriddenIn]; done) | decide +kernel
theorem ef_rm4 (m : MethodId) (x0 : Int32) (x1 : Int32) (x2 : Int32) (x3 : Int32) : entryFrame m #[(.int x0), (.int x1), (.int x2), (.int x3)] 4 = mkF m 0 #[.val (.int x0), .val (.int x1), .val (.int x2), .val (.int x3)] [] := by first | (simp [entryFrame, mkF, argsToLocals, Value.category]; done) | rfl
set_option maxRecDepth 65536 in
set_option maxHeartbeats 40000000 in
theorem rm4 (l : Launch) (Z : State) (a0 : Array Value) (hw : ∀ d ∈ tables_1, d.before a0 Z = true)  (p1 : Int32) (p2 : Int32) (p3 : Int32) (p4 : Int32) (h0 : Heap) (O0 : Ext Z.heap h0)  :
    Ctr l Z (⟨"com/example/querent/querent/hl7/DelimitersEqualsPinLaw", "pick", "(IIII)I"⟩ : MethodName) method_2_code 4 (some .int) [] ({ frames := 0, cells := 0, slots := 0, locals := 0 } : Room) #[(.int p1), (.int p2), (.int p3), (.int p4)] h0 (fun v h L => v = some (.int (own_pick p1 p2 p3 p4)) ∧ Fr Z.heap.size L ∧ h = h0) := by
  refine ctr (plainFor_of_name pn_4) ?_
  intro p e s m below meth c s₁ hx hby hml hown hnm hret hlocks hZ X0 e0
  have N0 := Fr.nil Z.heap.size
  have hsz : ∀ {Ls : Array Slot}, Ls.size = 4 → Ls.size = c.maxLocals := fun q => q.trans hml.symm
  refine goE (ef_rm4 m (p1) (p2) (p3) (p4)) ?_
  show Goes p e below _ (s₁.setTop (mkF m 0 #[.val (.int p1), .val (.int p2), .val (.int p3), .val (.int p4)] []))
  refine gIloadN X0 hx (hb hby d_method_2_0) rfl ?_
  refine gIloadN X0 hx (hb hby d_method_2_1) rfl ?_
  refine gIushr X0 hx (hb hby d_method_2_2) ?_
  refine gIconst X0 hx (hb hby d_method_2_3) (v := (1 : Int32)) rfl ?_
  refine gIand X0 hx (hb hby d_method_2_4) ?_
  by_cases h1 : ((XT.ushr p2 p3) &&& (1 : Int32)) = 0
  · refine gIfY X0 hx (hb hby d_method_2_5) (pc' := 12) (XT.i0_eq_t h1) (by decide) (by decide) ?_
    show Goes p e below _ (s₁.setTop (mkF m 12 #[.val (.int p1), .val (.int p2), .val (.int p3), .val (.int p4)] []))
    refine gIloadN X0 hx (hb hby d_method_2_12) rfl ?_
    exact goRetI X0 hx hret hlocks (hb hby d_method_2_13) (by decide) (by decide) e0 (⟨by simp [own_pick, *], N0, rfl⟩)
  · refine gIfN X0 hx (hb hby d_method_2_5) (XT.i0_eq_f h1) ?_
    show Goes p e below _ (s₁.setTop (mkF m 8 #[.val (.int p1), .val (.int p2), .val (.int p3), .val (.int p4)] []))
    refine gIloadN X0 hx (hb hby d_method_2_8) rfl ?_
    refine gIloadN X0 hx (hb hby d_method_2_9) rfl ?_
    refine gIxor X0 hx (hb hby d_method_2_10) ?_
    exact goRetI X0 hx hret hlocks (hb hby d_method_2_11) (by decide) (by decide) e0 (⟨by simp [own_pick, *], N0, rfl⟩)
theorem d_prog_88_method_3_0 : decode prog_88_method_3_code 0 = .ok (.aload_n 0, 1) := by decide +kernel
theorem d_prog_88_method_3_1 : decode prog_88_method_3_code 1 = .ok (.aload_n 1, 1) := by decide +kernel
theorem d_prog_88_method_3_2 : decode prog_88_method_3_code 2 = .ok (.if_acmp .eq 70, 3) := by decide +kernel
theorem d_prog_88_method_3_5 : decode prog_88_method_3_code 5 = .ok (.aload_n 1, 1) := by decide +kernel
theorem d_prog_88_method_3_6 : decode prog_88_method_3_code 6 = .ok (.instanceof 8, 3) := by decide +kernel
theorem d_prog_88_method_3_9 : decode prog_88_method_3_code 9 = .ok (.ifCond .eq 67, 3) := by decide +kernel
theorem d_prog_88_method_3_76 : decode prog_88_method_3_code 76 = .ok (.iconst 0, 1) := by decide +kernel
theorem d_prog_88_method_3_77 : decode prog_88_method_3_code 77 = .ok (.ireturn, 1) := by decide +kernel
theorem ef_rm6n (m : MethodId) (x0 : Addr) : entryFrame m #[(.ref x0), .null] 3 = mkF m 0 #[.val (.ref x0), .val .null, .unset] [] := by first | (simp [entryFrame, mkF, argsToLocals, Value.category]; done) | rfl
set_option maxRecDepth 65536 in
set_option maxHeartbeats 40000000 in
theorem rm6n (l : Launch) (Z : State) (a0 : Array Value) (hw : ∀ d ∈ tables_1, d.before a0 Z = true)  (a1 : Addr) (h0 : Heap) (O0 : Ext Z.heap h0)  :
    Ctr l Z (⟨"com/example/querent/querent/hl7/Delimiters", "equals", "(Ljava/lang/Object;)Z"⟩ : MethodName) prog_88_method_3_code 3 (some .boolean) [] ({ frames := 0, cells := 0, slots := 0, locals := 0 } : Room) #[(.ref a1), .null] h0 (fun v h L => v = some (.int 0) ∧ Fr Z.heap.size L ∧ h = h0) := by
  refine ctr (plainFor_of_name pn_2) ?_
  intro p e s m below meth c s₁ hx hby hml hown hnm hret hlocks hZ X0 e0
  have N0 := Fr.nil Z.heap.size
  have hsz : ∀ {Ls : Array Slot}, Ls.size = 3 → Ls.size = c.maxLocals := fun q => q.trans hml.symm
  refine goE (ef_rm6n m (a1)) ?_
  show Goes p e below _ (s₁.setTop (mkF m 0 #[.val (.ref a1), .val .null, .unset] []))
  refine gAloadN X0 hx (hb hby d_prog_88_method_3_0) rfl rfl ?_
  refine gAloadN X0 hx (hb hby d_prog_88_method_3_1) rfl rfl ?_
  refine gAcmpN X0 hx (hb hby d_prog_88_method_3_2) rfl rfl (XT.aa_eq_f (fun q => nomatch q)) ?_
  show Goes p e below _ (s₁.setTop (mkF m 5 #[.val (.ref a1), .val .null, .unset] []))
  refine gAloadN X0 hx (hb hby d_prog_88_method_3_5) rfl rfl ?_
  refine go (X0.instanceofNull hx (g := (mkF m 6 #[.val (.ref a1), .val .null, .unset] [.null])) rfl rfl (hb hby d_prog_88_method_3_6)) ?_
  show Goes p e below _ (s₁.setTop (mkF m 9 #[.val (.ref a1), .val .null, .unset] [(.int (0 : Int32))]))
  refine gIfY X0 hx (hb hby d_prog_88_method_3_9) (pc' := 76) (XT.i0_eq_t rfl) (by decide) (by decide) ?_
  show Goes p e below _ (s₁.setTop (mkF m 76 #[.val (.ref a1), .val .null, .unset] []))
  refine gIconst X0 hx (hb hby d_prog_88_method_3_76) (v := (0 : Int32)) rfl ?_
  exact goRetN X0 hx (t := .boolean) hret hlocks (by simp) (hb hby d_prog_88_method_3_77) (z' := (0 : Int32)) rfl (by decide) (by decide) e0 (⟨rfl, N0, rfl⟩)
theorem d_prog_88_method_3_72 : decode prog_88_method_3_code 72 = .ok (.iconst 1, 1) := by decide +kernel
theorem d_prog_88_method_3_73 : decode prog_88_method_3_code 73 = .ok (.goto 4, 3) := by decide +kernel
theorem ef_rm6s (m : MethodId) (x0 : Addr) (x1 : Addr) : entryFrame m #[(.ref x0), (.ref x1)] 3 = mkF m 0 #[.val (.ref x0), .val (.ref x1), .unset] [] := by first | (simp [entryFrame, mkF, argsToLocals, Value.category]; done) | rfl
set_option maxRecDepth 65536 in
set_option maxHeartbeats 40000000 in
theorem rm6s (l : Launch) (Z : State) (a0 : Array Value) (hw : ∀ d ∈ tables_1, d.before a0 Z = true)  (a1 : Addr) (h0 : Heap) (O0 : Ext Z.heap h0)  :
    Ctr l Z (⟨"com/example/querent/querent/hl7/Delimiters", "equals", "(Ljava/lang/Object;)Z"⟩ : MethodName) prog_88_method_3_code 3 (some .boolean) [] ({ frames := 0, cells := 0, slots := 0, locals := 0 } : Room) #[(.ref a1), (.ref a1)] h0 (fun v h L => v = some (.int 1) ∧ Fr Z.heap.size L ∧ h = h0) := by
  refine ctr (plainFor_of_name pn_2) ?_
  intro p e s m below meth c s₁ hx hby hml hown hnm hret hlocks hZ X0 e0
  have N0 := Fr.nil Z.heap.size
  have hsz : ∀ {Ls : Array Slot}, Ls.size = 3 → Ls.size = c.maxLocals := fun q => q.trans hml.symm
  refine goE (ef_rm6s m (a1) (a1)) ?_
  show Goes p e below _ (s₁.setTop (mkF m 0 #[.val (.ref a1), .val (.ref a1), .unset] []))
  refine gAloadN X0 hx (hb hby d_prog_88_method_3_0) rfl rfl ?_
  refine gAloadN X0 hx (hb hby d_prog_88_method_3_1) rfl rfl ?_
  refine gAcmpY X0 hx (hb hby d_prog_88_method_3_2) (pc' := 72) rfl rfl (XT.aa_eq_t rfl) (by decide) (by decide) ?_
  show Goes p e below _ (s₁.setTop (mkF m 72 #[.val (.ref a1), .val (.ref a1), .unset] []))
  refine gIconst X0 hx (hb hby d_prog_88_method_3_72) (v := (1 : Int32)) rfl ?_
  refine gGoto X0 hx (hb hby d_prog_88_method_3_73) (pc' := 77) (by decide) (by decide) ?_
  show Goes p e below _ (s₁.setTop (mkF m 77 #[.val (.ref a1), .val (.ref a1), .unset] [(.int (1 : Int32))]))
  exact goRetN X0 hx (t := .boolean) hret hlocks (by simp) (hb hby d_prog_88_method_3_77) (z' := (1 : Int32)) rfl (by decide) (by decide) e0 (⟨rfl, N0, rfl⟩)
theorem ef_rm6i (m : MethodId) (x0 : Addr) (x1 : Addr) : entryFrame m #[(.ref x0), (.ref x1)] 3 = mkF m 0 #[.val (.ref x0), .val (.ref x1), .unset] [] := by first | (simp [entryFrame, mkF, argsToLocals, Value.category]; done) | rfl
set_option maxRecDepth 65536 in
set_option maxHeartbeats 40000000 in
theorem rm6i (l : Launch) (Z : State) (a0 : Array Value) (hw : ∀ d ∈ tables_1, d.before a0 Z = true)  (a1 : Addr) (a2 : Addr) (h0 : Heap) (O0 : Ext Z.heap h0) (E1 : Exa Z h0 a1 "com/example/querent/querent/hl7/Delimiters") (E2 : Exa Z h0 a2 "java/lang/Integer") (no : ∃ c t, Z.vm.findClass "java/lang/Integer" = some c ∧ Z.vm.findClass "com/example/querent/querent/hl7/Delimiters" = some t ∧ Z.vm.assignable c t = false) :
    Ctr l Z (⟨"com/example/querent/querent/hl7/Delimiters", "equals", "(Ljava/lang/Object;)Z"⟩ : MethodName) prog_88_method_3_code 3 (some .boolean) [] ({ frames := 0, cells := 0, slots := 0, locals := 0 } : Room) #[(.ref a1), (.ref a2)] h0 (fun v h L => v = some (.int 0) ∧ Fr Z.heap.size L ∧ h = h0) := by
  refine ctr (plainFor_of_name pn_2) ?_
  intro p e s m below meth c s₁ hx hby hml hown hnm hret hlocks hZ X0 e0
  have N0 := Fr.nil Z.heap.size
  have hsz : ∀ {Ls : Array Slot}, Ls.size = 3 → Ls.size = c.maxLocals := fun q => q.trans hml.symm
  refine goE (ef_rm6i m (a1) (a2)) ?_
  show Goes p e below _ (s₁.setTop (mkF m 0 #[.val (.ref a1), .val (.ref a2), .unset] []))
  refine gAloadN X0 hx (hb hby d_prog_88_method_3_0) rfl rfl ?_
  refine gAloadN X0 hx (hb hby d_prog_88_method_3_1) rfl rfl ?_
  refine gAcmpN X0 hx (hb hby d_prog_88_method_3_2) rfl rfl (XT.aa_eq_f (fun q => ne_exa E1 E2 (by decide) (Value.ref.inj q))) ?_
  show Goes p e below _ (s₁.setTop (mkF m 5 #[.val (.ref a1), .val (.ref a2), .unset] []))
  refine gAloadN X0 hx (hb hby d_prog_88_method_3_5) rfl rfl ?_
  obtain ⟨Tt1, Xt1, et1, stt1⟩ := instNo X0 hx hZ hown (hw _ (List.mem_of_getElem? (i := 40) rfl)) e0 E2 no (g := (mkF m 6 #[.val (.ref a1), .val (.ref a2), .unset] [(.ref a2)])) rfl rfl (hb hby d_prog_88_method_3_6)
  refine go stt1 ?_
  show Goes p e below _ (Tt1.setTop (mkF m 9 #[.val (.ref a1), .val (.ref a2), .unset] [(.int (0 : Int32))]))
  refine gIfY Xt1 hx (hb hby d_prog_88_method_3_9) (pc' := 76) (XT.i0_eq_t rfl) (by decide) (by decide) ?_
  show Goes p e below _ (Tt1.setTop (mkF m 76 #[.val (.ref a1), .val (.ref a2), .unset] []))
  refine gIconst Xt1 hx (hb hby d_prog_88_method_3_76) (v := (0 : Int32)) rfl ?_
  exact goRetN Xt1 hx (t := .boolean) hret hlocks (by simp) (hb hby d_prog_88_method_3_77) (z' := (0 : Int32)) rfl (by decide) (by decide) et1 (⟨rfl, N0, rfl⟩)
def own_eq (u0 u1 u2 u3 u4 v0 v1 v2 v3 v4 : Int32) : Int32 := if u0 = v0 ∧ u1 = v1 ∧ u2 = v2 ∧ u3 = v3 ∧ u4 = v4 then 1 else 0
theorem d_prog_88_method_3_12 : decode prog_88_method_3_code 12 = .ok (.aload_n 1, 1) := by decide +kernel
theorem d_prog_88_method_3_13 : decode prog_88_method_3_code 13 = .ok (.checkcast 8, 3) := by decide +kernel
theorem d_prog_88_method_3_16 : decode prog_88_method_3_code 16 = .ok (.astore_n 2, 1) := by decide +kernel
theorem d_prog_88_method_3_17 : decode prog_88_method_3_code 17 = .ok (.aload_n 0, 1) := by decide +kernel
theorem d_prog_88_method_3_18 : decode prog_88_method_3_code 18 = .ok (.getfield 7, 3) := by decide +kernel
theorem d_prog_88_method_3_21 : decode prog_88_method_3_code 21 = .ok (.aload_n 2, 1) := by decide +kernel
theorem d_prog_88_method_3_22 : decode prog_88_method_3_code 22 = .ok (.getfield 7, 3) := by decide +kernel
theorem d_prog_88_method_3_25 : decode prog_88_method_3_code 25 = .ok (.if_icmp .ne 51, 3) := by decide +kernel
theorem d_prog_88_method_3_28 : decode prog_88_method_3_code 28 = .ok (.aload_n 0, 1) := by decide +kernel
theorem d_prog_88_method_3_29 : decode prog_88_method_3_code 29 = .ok (.getfield 13, 3) := by decide +kernel
theorem d_prog_88_method_3_32 : decode prog_88_method_3_code 32 = .ok (.aload_n 2, 1) := by decide +kernel
theorem d_prog_88_method_3_33 : decode prog_88_method_3_code 33 = .ok (.getfield 13, 3) := by decide +kernel
theorem d_prog_88_method_3_36 : decode prog_88_method_3_code 36 = .ok (.if_icmp .ne 40, 3) := by decide +kernel
theorem d_prog_88_method_3_39 : decode prog_88_method_3_code 39 = .ok (.aload_n 0, 1) := by decide +kernel
theorem d_prog_88_method_3_40 : decode prog_88_method_3_code 40 = .ok (.getfield 16, 3) := by decide +kernel
theorem d_prog_88_method_3_43 : decode prog_88_method_3_code 43 = .ok (.aload_n 2, 1) := by decide +kernel
theorem d_prog_88_method_3_44 : decode prog_88_method_3_code 44 = .ok (.getfield 16, 3) := by decide +kernel
theorem d_prog_88_method_3_47 : decode prog_88_method_3_code 47 = .ok (.if_icmp .ne 29, 3) := by decide +kernel
theorem d_prog_88_method_3_50 : decode prog_88_method_3_code 50 = .ok (.aload_n 0, 1) := by decide +kernel
theorem d_prog_88_method_3_51 : decode prog_88_method_3_code 51 = .ok (.getfield 19, 3) := by decide +kernel
theorem d_prog_88_method_3_54 : decode prog_88_method_3_code 54 = .ok (.aload_n 2, 1) := by decide +kernel
theorem d_prog_88_method_3_55 : decode prog_88_method_3_code 55 = .ok (.getfield 19, 3) := by decide +kernel
theorem d_prog_88_method_3_58 : decode prog_88_method_3_code 58 = .ok (.if_icmp .ne 18, 3) := by decide +kernel
theorem d_prog_88_method_3_61 : decode prog_88_method_3_code 61 = .ok (.aload_n 0, 1) := by decide +kernel
theorem d_prog_88_method_3_62 : decode prog_88_method_3_code 62 = .ok (.getfield 22, 3) := by decide +kernel
theorem d_prog_88_method_3_65 : decode prog_88_method_3_code 65 = .ok (.aload_n 2, 1) := by decide +kernel
theorem d_prog_88_method_3_66 : decode prog_88_method_3_code 66 = .ok (.getfield 22, 3) := by decide +kernel
theorem d_prog_88_method_3_69 : decode prog_88_method_3_code 69 = .ok (.if_icmp .ne 7, 3) := by decide +kernel
theorem ef_rm6d (m : MethodId) (x0 : Addr) (x1 : Addr) : entryFrame m #[(.ref x0), (.ref x1)] 3 = mkF m 0 #[.val (.ref x0), .val (.ref x1), .unset] [] := by first | (simp [entryFrame, mkF, argsToLocals, Value.category]; done) | rfl
set_option maxRecDepth 65536 in
set_option maxHeartbeats 40000000 in
theorem rm6d (l : Launch) (Z : State) (a0 : Array Value) (hw : ∀ d ∈ tables_1, d.before a0 Z = true) (u0 u1 u2 u3 u4 v0 v1 v2 v3 v4 : Int32) (a1 : Addr) (a2 : Addr) (h0 : Heap) (O0 : Ext Z.heap h0) (ne : a1 ≠ a2) (E2 : Exa Z h0 a2 "com/example/querent/querent/hl7/Delimiters") (F_field : Fld Z h0 a1 "com/example/querent/querent/hl7/Delimiters" "field" "I" (.int u0)) (G_field : Fld Z h0 a2 "com/example/querent/querent/hl7/Delimiters" "field" "I" (.int v0)) (F_component : Fld Z h0 a1 "com/example/querent/querent/hl7/Delimiters" "component" "I" (.int u1)) (G_component : Fld Z h0 a2 "com/example/querent/querent/hl7/Delimiters" "component" "I" (.int v1)) (F_repetition : Fld Z h0 a1 "com/example/querent/querent/hl7/Delimiters" "repetition" "I" (.int u2)) (G_repetition : Fld Z h0 a2 "com/example/querent/querent/hl7/Delimiters" "repetition" "I" (.int v2)) (F_escape : Fld Z h0 a1 "com/example/querent/querent/hl7/Delimiters" "escape" "I" (.int u3)) (G_escape : Fld Z h0 a2 "com/example/querent/querent/hl7/Delimiters" "escape" "I" (.int v3)) (F_subcomponent : Fld Z h0 a1 "com/example/querent/querent/hl7/Delimiters" "subcomponent" "I" (.int u4)) (G_subcomponent : Fld Z h0 a2 "com/example/querent/querent/hl7/Delimiters" "subcomponent" "I" (.int v4)) :
    Ctr l Z (⟨"com/example/querent/querent/hl7/Delimiters", "equals", "(Ljava/lang/Object;)Z"⟩ : MethodName) prog_88_method_3_code 3 (some .boolean) [] ({ frames := 0, cells := 0, slots := 0, locals := 0 } : Room) #[(.ref a1), (.ref a2)] h0 (fun v h L => v = some (.int (own_eq u0 u1 u2 u3 u4 v0 v1 v2 v3 v4)) ∧ Fr Z.heap.size L ∧ h = h0) := by
  refine ctr (plainFor_of_name pn_2) ?_
  intro p e s m below meth c s₁ hx hby hml hown hnm hret hlocks hZ X0 e0
  have N0 := Fr.nil Z.heap.size
  have hsz : ∀ {Ls : Array Slot}, Ls.size = 3 → Ls.size = c.maxLocals := fun q => q.trans hml.symm
  refine goE (ef_rm6d m (a1) (a2)) ?_
  show Goes p e below _ (s₁.setTop (mkF m 0 #[.val (.ref a1), .val (.ref a2), .unset] []))
  refine gAloadN X0 hx (hb hby d_prog_88_method_3_0) rfl rfl ?_
  refine gAloadN X0 hx (hb hby d_prog_88_method_3_1) rfl rfl ?_
  refine gAcmpN X0 hx (hb hby d_prog_88_method_3_2) rfl rfl (XT.aa_eq_f (fun q => ne (Value.ref.inj q))) ?_
  show Goes p e below _ (s₁.setTop (mkF m 5 #[.val (.ref a1), .val (.ref a2), .unset] []))
  refine gAloadN X0 hx (hb hby d_prog_88_method_3_5) rfl rfl ?_
  obtain ⟨Tt1, Xt1, et1, stt1⟩ := instY X0 hx hZ hown (hw _ (List.mem_of_getElem? (i := 40) rfl)) e0 (Ins.self E2) (g := (mkF m 6 #[.val (.ref a1), .val (.ref a2), .unset] [(.ref a2)])) rfl rfl (hb hby d_prog_88_method_3_6)
  refine go stt1 ?_
  show Goes p e below _ (Tt1.setTop (mkF m 9 #[.val (.ref a1), .val (.ref a2), .unset] [(.int (1 : Int32))]))
  refine gIfN Xt1 hx (hb hby d_prog_88_method_3_9) (XT.i0_eq_f (by decide)) ?_
  show Goes p e below _ (Tt1.setTop (mkF m 12 #[.val (.ref a1), .val (.ref a2), .unset] []))
  refine gAloadN Xt1 hx (hb hby d_prog_88_method_3_12) rfl rfl ?_
  obtain ⟨Tt2, Xt2, et2, stt2⟩ := castY Xt1 hx hZ hown (hw _ (List.mem_of_getElem? (i := 40) rfl)) et1 (Ins.self E2) (g := (mkF m 13 #[.val (.ref a1), .val (.ref a2), .unset] [(.ref a2)])) rfl rfl (hb hby d_prog_88_method_3_13)
  refine go stt2 ?_
  show Goes p e below _ (Tt2.setTop (mkF m 16 #[.val (.ref a1), .val (.ref a2), .unset] [(.ref a2)]))
  refine gAstoreN Xt2 hx (hb hby d_prog_88_method_3_16) rfl (l' := #[.val (.ref a1), .val (.ref a2), .val (.ref a2)]) rfl ?_
  refine gAloadN Xt2 hx (hb hby d_prog_88_method_3_17) rfl rfl ?_
  obtain ⟨Tt3, Xt3, et3, stt3⟩ := getF Xt2 hx hZ hown (host := "") (Or.inl (hw _ (List.mem_of_getElem? (i := 14) rfl))) Via.refl et2 F_field (g := (mkF m 18 #[.val (.ref a1), .val (.ref a2), .val (.ref a2)] [(.ref a1)])) rfl rfl (hb hby d_prog_88_method_3_18)
  refine go stt3 ?_
  show Goes p e below _ (Tt3.setTop (mkF m 21 #[.val (.ref a1), .val (.ref a2), .val (.ref a2)] [(.int u0)]))
  refine gAloadN Xt3 hx (hb hby d_prog_88_method_3_21) rfl rfl ?_
  obtain ⟨Tt4, Xt4, et4, stt4⟩ := getF Xt3 hx hZ hown (host := "") (Or.inl (hw _ (List.mem_of_getElem? (i := 14) rfl))) Via.refl et3 G_field (g := (mkF m 22 #[.val (.ref a1), .val (.ref a2), .val (.ref a2)] [(.ref a2), (.int u0)])) rfl rfl (hb hby d_prog_88_method_3_22)
  refine go stt4 ?_
  show Goes p e below _ (Tt4.setTop (mkF m 25 #[.val (.ref a1), .val (.ref a2), .val (.ref a2)] [(.int v0), (.int u0)]))
  by_cases g0 : u0 = v0
  · refine gIcmpN Xt4 hx (hb hby d_prog_88_method_3_25) (XT.ii_ne_f g0) ?_
    show Goes p e below _ (Tt4.setTop (mkF m 28 #[.val (.ref a1), .val (.ref a2), .val (.ref a2)] []))
    refine gAloadN Xt4 hx (hb hby d_prog_88_method_3_28) rfl rfl ?_
    obtain ⟨Tt5, Xt5, et5, stt5⟩ := getF Xt4 hx hZ hown (host := "") (Or.inl (hw _ (List.mem_of_getElem? (i := 16) rfl))) Via.refl et4 F_component (g := (mkF m 29 #[.val (.ref a1), .val (.ref a2), .val (.ref a2)] [(.ref a1)])) rfl rfl (hb hby d_prog_88_method_3_29)
    refine go stt5 ?_
    show Goes p e below _ (Tt5.setTop (mkF m 32 #[.val (.ref a1), .val (.ref a2), .val (.ref a2)] [(.int u1)]))
    refine gAloadN Xt5 hx (hb hby d_prog_88_method_3_32) rfl rfl ?_
    obtain ⟨Tt6, Xt6, et6, stt6⟩ := getF Xt5 hx hZ hown (host := "") (Or.inl (hw _ (List.mem_of_getElem? (i := 16) rfl))) Via.refl et5 G_component (g := (mkF m 33 #[.val (.ref a1), .val (.ref a2), .val (.ref a2)] [(.ref a2), (.int u1)])) rfl rfl (hb hby d_prog_88_method_3_33)
    refine go stt6 ?_
    show Goes p e below _ (Tt6.setTop (mkF m 36 #[.val (.ref a1), .val (.ref a2), .val (.ref a2)] [(.int v1), (.int u1)]))
    by_cases g1 : u1 = v1
    · refine gIcmpN Xt6 hx (hb hby d_prog_88_method_3_36) (XT.ii_ne_f g1) ?_
      show Goes p e below _ (Tt6.setTop (mkF m 39 #[.val (.ref a1), .val (.ref a2), .val (.ref a2)] []))
      refine gAloadN Xt6 hx (hb hby d_prog_88_method_3_39) rfl rfl ?_
      obtain ⟨Tt7, Xt7, et7, stt7⟩ := getF Xt6 hx hZ hown (host := "") (Or.inl (hw _ (List.mem_of_getElem? (i := 18) rfl))) Via.refl et6 F_repetition (g := (mkF m 40 #[.val (.ref a1), .val (.ref a2), .val (.ref a2)] [(.ref a1)])) rfl rfl (hb hby d_prog_88_method_3_40)
      refine go stt7 ?_
      show Goes p e below _ (Tt7.setTop (mkF m 43 #[.val (.ref a1), .val (.ref a2), .val (.ref a2)] [(.int u2)]))
      refine gAloadN Xt7 hx (hb hby d_prog_88_method_3_43) rfl rfl ?_
      obtain ⟨Tt8, Xt8, et8, stt8⟩ := getF Xt7 hx hZ hown (host := "") (Or.inl (hw _ (List.mem_of_getElem? (i := 18) rfl))) Via.refl et7 G_repetition (g := (mkF m 44 #[.val (.ref a1), .val (.ref a2), .val (.ref a2)] [(.ref a2), (.int u2)])) rfl rfl (hb hby d_prog_88_method_3_44)
      refine go stt8 ?_
      show Goes p e below _ (Tt8.setTop (mkF m 47 #[.val (.ref a1), .val (.ref a2), .val (.ref a2)] [(.int v2), (.int u2)]))
      by_cases g2 : u2 = v2
      · refine gIcmpN Xt8 hx (hb hby d_prog_88_method_3_47) (XT.ii_ne_f g2) ?_
        show Goes p e below _ (Tt8.setTop (mkF m 50 #[.val (.ref a1), .val (.ref a2), .val (.ref a2)] []))
        refine gAloadN Xt8 hx (hb hby d_prog_88_method_3_50) rfl rfl ?_
        obtain ⟨Tt9, Xt9, et9, stt9⟩ := getF Xt8 hx hZ hown (host := "") (Or.inl (hw _ (List.mem_of_getElem? (i := 20) rfl))) Via.refl et8 F_escape (g := (mkF m 51 #[.val (.ref a1), .val (.ref a2), .val (.ref a2)] [(.ref a1)])) rfl rfl (hb hby d_prog_88_method_3_51)
        refine go stt9 ?_
        show Goes p e below _ (Tt9.setTop (mkF m 54 #[.val (.ref a1), .val (.ref a2), .val (.ref a2)] [(.int u3)]))
        refine gAloadN Xt9 hx (hb hby d_prog_88_method_3_54) rfl rfl ?_
        obtain ⟨Tt10, Xt10, et10, stt10⟩ := getF Xt9 hx hZ hown (host := "") (Or.inl (hw _ (List.mem_of_getElem? (i := 20) rfl))) Via.refl et9 G_escape (g := (mkF m 55 #[.val (.ref a1), .val (.ref a2), .val (.ref a2)] [(.ref a2), (.int u3)])) rfl rfl (hb hby d_prog_88_method_3_55)
        refine go stt10 ?_
        show Goes p e below _ (Tt10.setTop (mkF m 58 #[.val (.ref a1), .val (.ref a2), .val (.ref a2)] [(.int v3), (.int u3)]))
        by_cases g3 : u3 = v3
        · refine gIcmpN Xt10 hx (hb hby d_prog_88_method_3_58) (XT.ii_ne_f g3) ?_
          show Goes p e below _ (Tt10.setTop (mkF m 61 #[.val (.ref a1), .val (.ref a2), .val (.ref a2)] []))
          refine gAloadN Xt10 hx (hb hby d_prog_88_method_3_61) rfl rfl ?_
          obtain ⟨Tt11, Xt11, et11, stt11⟩ := getF Xt10 hx hZ hown (host := "") (Or.inl (hw _ (List.mem_of_getElem? (i := 22) rfl))) Via.refl et10 F_subcomponent (g := (mkF m 62 #[.val (.ref a1), .val (.ref a2), .val (.ref a2)] [(.ref a1)])) rfl rfl (hb hby d_prog_88_method_3_62)
          refine go stt11 ?_
          show Goes p e below _ (Tt11.setTop (mkF m 65 #[.val (.ref a1), .val (.ref a2), .val (.ref a2)] [(.int u4)]))
          refine gAloadN Xt11 hx (hb hby d_prog_88_method_3_65) rfl rfl ?_
          obtain ⟨Tt12, Xt12, et12, stt12⟩ := getF Xt11 hx hZ hown (host := "") (Or.inl (hw _ (List.mem_of_getElem? (i := 22) rfl))) Via.refl et11 G_subcomponent (g := (mkF m 66 #[.val (.ref a1), .val (.ref a2), .val (.ref a2)] [(.ref a2), (.int u4)])) rfl rfl (hb hby d_prog_88_method_3_66)
          refine go stt12 ?_
          show Goes p e below _ (Tt12.setTop (mkF m 69 #[.val (.ref a1), .val (.ref a2), .val (.ref a2)] [(.int v4), (.int u4)]))
          by_cases g4 : u4 = v4
          · refine gIcmpN Xt12 hx (hb hby d_prog_88_method_3_69) (XT.ii_ne_f g4) ?_
            show Goes p e below _ (Tt12.setTop (mkF m 72 #[.val (.ref a1), .val (.ref a2), .val (.ref a2)] []))
            refine gIconst Xt12 hx (hb hby d_prog_88_method_3_72) (v := (1 : Int32)) rfl ?_
            refine gGoto Xt12 hx (hb hby d_prog_88_method_3_73) (pc' := 77) (by decide) (by decide) ?_
            show Goes p e below _ (Tt12.setTop (mkF m 77 #[.val (.ref a1), .val (.ref a2), .val (.ref a2)] [(.int (1 : Int32))]))
            exact goRetN Xt12 hx (t := .boolean) hret hlocks (by simp) (hb hby d_prog_88_method_3_77) (z' := (1 : Int32)) rfl (by decide) (by decide) et12 (⟨by simp [own_eq, g0, g1, g2, g3, g4], N0, rfl⟩)
          · refine gIcmpY Xt12 hx (hb hby d_prog_88_method_3_69) (pc' := 76) (XT.ii_ne_t g4) (by decide) (by decide) ?_
            show Goes p e below _ (Tt12.setTop (mkF m 76 #[.val (.ref a1), .val (.ref a2), .val (.ref a2)] []))
            refine gIconst Xt12 hx (hb hby d_prog_88_method_3_76) (v := (0 : Int32)) rfl ?_
            exact goRetN Xt12 hx (t := .boolean) hret hlocks (by simp) (hb hby d_prog_88_method_3_77) (z' := (0 : Int32)) rfl (by decide) (by decide) et12 (⟨by simp [own_eq, g4], N0, rfl⟩)
        · refine gIcmpY Xt10 hx (hb hby d_prog_88_method_3_58) (pc' := 76) (XT.ii_ne_t g3) (by decide) (by decide) ?_
          show Goes p e below _ (Tt10.setTop (mkF m 76 #[.val (.ref a1), .val (.ref a2), .val (.ref a2)] []))
          refine gIconst Xt10 hx (hb hby d_prog_88_method_3_76) (v := (0 : Int32)) rfl ?_
          exact goRetN Xt10 hx (t := .boolean) hret hlocks (by simp) (hb hby d_prog_88_method_3_77) (z' := (0 : Int32)) rfl (by decide) (by decide) et10 (⟨by simp [own_eq, g3], N0, rfl⟩)
      · refine gIcmpY Xt8 hx (hb hby d_prog_88_method_3_47) (pc' := 76) (XT.ii_ne_t g2) (by decide) (by decide) ?_
        show Goes p e below _ (Tt8.setTop (mkF m 76 #[.val (.ref a1), .val (.ref a2), .val (.ref a2)] []))
        refine gIconst Xt8 hx (hb hby d_prog_88_method_3_76) (v := (0 : Int32)) rfl ?_
        exact goRetN Xt8 hx (t := .boolean) hret hlocks (by simp) (hb hby d_prog_88_method_3_77) (z' := (0 : Int32)) rfl (by decide) (by decide) et8 (⟨by simp [own_eq, g2], N0, rfl⟩)
    · refine gIcmpY Xt6 hx (hb hby d_prog_88_method_3_36) (pc' := 76) (XT.ii_ne_t g1) (by decide) (by decide) ?_
      show Goes p e below _ (Tt6.setTop (mkF m 76 #[.val (.ref a1), .val (.ref a2), .val (.ref a2)] []))
      refine gIconst Xt6 hx (hb hby d_prog_88_method_3_76) (v := (0 : Int32)) rfl ?_
      exact goRetN Xt6 hx (t := .boolean) hret hlocks (by simp) (hb hby d_prog_88_method_3_77) (z' := (0 : Int32)) rfl (by decide) (by decide) et6 (⟨by simp [own_eq, g1], N0, rfl⟩)
  · refine gIcmpY Xt4 hx (hb hby d_prog_88_method_3_25) (pc' := 76) (XT.ii_ne_t g0) (by decide) (by decide) ?_
    show Goes p e below _ (Tt4.setTop (mkF m 76 #[.val (.ref a1), .val (.ref a2), .val (.ref a2)] []))
    refine gIconst Xt4 hx (hb hby d_prog_88_method_3_76) (v := (0 : Int32)) rfl ?_
    exact goRetN Xt4 hx (t := .boolean) hret hlocks (by simp) (hb hby d_prog_88_method_3_77) (z' := (0 : Int32)) rfl (by decide) (by decide) et4 (⟨by simp [own_eq, g0], N0, rfl⟩)
theorem own_no {Z : State} {a0 : Array Value} (hw : ∀ d ∈ tables_1, d.before a0 Z = true) : ∃ c t, Z.vm.findClass "java/lang/Integer" = some c ∧ Z.vm.findClass "com/example/querent/querent/hl7/Delimiters" = some t ∧ Z.vm.assignable c t = false := by
  obtain ⟨t, k, g0, g2, g3, g4, -⟩ := Cond.instantiable_spec (hw _ (List.mem_of_getElem? (i := 1) rfl))
  obtain ⟨cO, kO, o1, o2, o3, -, -⟩ := Cond.noSuperclass_spec (hw _ (List.mem_of_getElem? (i := 59) rfl))
  obtain ⟨cN, n1⟩ := found_sup (hw _ (List.mem_of_getElem? (i := 58) rfl))
  obtain ⟨pN, kN, kpN, n2, n3, -, n4, -⟩ := Cond.superclass_spec n1 (hw _ (List.mem_of_getElem? (i := 58) rfl))
  obtain ⟨cI, i1⟩ := found_sup (hw _ (List.mem_of_getElem? (i := 57) rfl))
  obtain ⟨pI, kI, kpI, i2, i3, -, i4, i5, -⟩ := Cond.superclass_spec i1 (hw _ (List.mem_of_getElem? (i := 57) rfl))
  cases o1.symm.trans n2
  cases n1.symm.trans i2
  have q1 := ids_ne o1 g0 (by decide)
  have q2 := ids_ne n1 g0 (by decide)
  have q3 := ids_ne i1 g0 (by decide)
  have hf : k.isInterface = false := by
    cases hk : k.isInterface
    · rfl
    · rw [hk] at g4; cases g4
  have s1 : ∀ fuel, Z.vm.isSubclassAux fuel cO t = false := fun fuel => by
    cases fuel with
    | zero => rfl
    | succ f => simp [Vm.isSubclassAux, q1, o2, o3]
  have s2 : ∀ fuel, Z.vm.isSubclassAux fuel cN t = false := fun fuel => by
    cases fuel with
    | zero => rfl
    | succ f => simp [Vm.isSubclassAux, q2, n3, n4, s1]
  have s3 : ∀ fuel, Z.vm.isSubclassAux fuel cI t = false := fun fuel => by
    cases fuel with
    | zero => rfl
    | succ f => simp [Vm.isSubclassAux, q3, i3, i4, s2]
  refine ⟨cI, t, i1, g0, ?_⟩
  show Z.vm.assignableAux (255 + 1) cI t = false
  simp [Vm.assignableAux, q3, i3, g2, i5, g3, hf, Vm.isSubclass, s3]
theorem own_bit (sel : Int32) (k : Int32) (n : Nat) (hk : k.toBitVec.toNat % 32 = n) : (XT.ushr sel k &&& 1).toInt = (sel.toInt % 4294967296) / (2 ^ n : Nat) % 2 := by
  have h1 : (XT.ushr sel k &&& 1).toInt = (XT.ushr sel k).toInt % 2 := c_mask (XT.ushr sel k) 1 1 (by decide) (by decide)
  rw [h1]
  rcases Nat.eq_zero_or_pos n with h0 | h0
  · subst h0
    have e : (k &&& 31) = 0 := by
      apply Int32.toBitVec_inj.mp
      apply BitVec.eq_of_toNat_eq
      have : (k &&& 31).toBitVec.toNat = k.toBitVec.toNat % 2 ^ 5 := by
        show (k.toBitVec &&& 31#32).toNat = _
        rw [BitVec.toNat_and]
        exact Nat.and_two_pow_sub_one_eq_mod k.toBitVec.toNat 5
      rw [this, hk]; rfl
    have : XT.ushr sel k = sel := by
      show (sel.toUInt32 >>> (k &&& 31).toUInt32).toInt32 = sel
      rw [e]
      apply Int32.toBitVec_inj.mp
      show sel.toBitVec >>> (0 % 32) = sel.toBitVec
      simp
    rw [this]; simp
  · have := c_iushr sel k n hk h0
    show ((sel.toUInt32 >>> (k &&& 31).toUInt32).toInt32).toInt % 2 = _
    rw [this]
theorem own_ne (v d : Int32) (hd : ¬ d = 0) : ¬ v = v ^^^ d := fun q => hd (by
  have : v ^^^ (v ^^^ d) = v ^^^ v := by rw [← q]
  rw [← Int32.xor_assoc, Int32.xor_self, Int32.zero_xor] at this
  exact this)
theorem own_law (sel d : Int32) (hd : ¬ d = 0) (f c r e s : Int32) : own_eq f c r e s (own_pick f sel 0 d) (own_pick c sel 1 d) (own_pick r sel 2 d) (own_pick e sel 3 d) (own_pick s sel 4 d) = if sel &&& 31 = 0 then 1 else 0 := by
  have hv : ∀ v k : Int32, v = own_pick v sel k d ↔ XT.ushr sel k &&& 1 = 0 := fun v k => by
    unfold own_pick
    constructor
    · intro q
      by_cases g : XT.ushr sel k &&& 1 = 0
      · exact g
      · rw [if_neg g] at q; exact absurd q (own_ne v d hd)
    · intro g; rw [if_pos g]
  have hb : ∀ k : Int32, XT.ushr sel k &&& 1 = 0 ↔ (XT.ushr sel k &&& 1).toInt = 0 := fun k => by rw [← Int32.toInt_inj]; rfl
  have b0 := own_bit sel 0 0 (by decide)
  have b1 := own_bit sel 1 1 (by decide)
  have b2 := own_bit sel 2 2 (by decide)
  have b3 := own_bit sel 3 3 (by decide)
  have b4 := own_bit sel 4 4 (by decide)
  have m : (sel &&& 31).toInt = sel.toInt % 32 := c_mask sel 31 5 (by decide) (by decide)
  have z : (sel &&& 31 = 0) ↔ sel.toInt % 32 = 0 := by rw [← Int32.toInt_inj, m]; rfl
  unfold own_eq
  simp only [hv, hb, b0, b1, b2, b3, b4, z]
  congr 1
  apply propext
  constructor <;> intro q <;> omega
theorem own_law' (sel d : Int32) (hd : ¬ d = 0) (f c r e s : Int32) : own_eq (own_pick f sel 0 d) (own_pick c sel 1 d) (own_pick r sel 2 d) (own_pick e sel 3 d) (own_pick s sel 4 d) f c r e s = if sel &&& 31 = 0 then 1 else 0 := by
  rw [← own_law sel d hd f c r e s]
  unfold own_eq
  simp only [eq_comm (a := own_pick f sel 0 d), eq_comm (a := own_pick c sel 1 d), eq_comm (a := own_pick r sel 2 d), eq_comm (a := own_pick e sel 3 d), eq_comm (a := own_pick s sel 4 d)]
theorem pd_2 : parseMethodDescriptor "(IIIII)V" = some ⟨[.int, .int, .int, .int, .int], none⟩ := by decide +kernel
theorem pd_3 : parseMethodDescriptor "(IIII)I" = some ⟨[.int, .int, .int, .int], some .int⟩ := by decide +kernel
theorem pd_4 : parseMethodDescriptor "(I)Ljava/lang/Integer;" = some ⟨[.int], some (.object "java/lang/Integer")⟩ := by decide +kernel
theorem pd_5 : parseMethodDescriptor "(Ljava/lang/Object;)Z" = some ⟨[(.object "java/lang/Object")], some .boolean⟩ := by decide +kernel
theorem ef_rm0 (m : MethodId) (x0 : Int32) (x1 : Int32) (x2 : Int32) (x3 : Int32) (x4 : Int32) (x5 : Int32) : entryFrame m #[(.int x0), (.int x1), (.int x2), (.int x3), (.int x4), (.int x5)] maxLocals = mkF m 0 #[.val (.int x0), .val (.int x1), .val (.int x2), .val (.int x3), .val (.int x4), .val (.int x5), .unset, .unset, .unset, .unset, .unset, .unset] [] := by first | (simp [entryFrame, mkF, argsToLocals, Value.category, maxLocals]; done) | rfl
set_option maxRecDepth 65536 in
set_option maxHeartbeats 40000000 in
theorem rm0 (l : Launch) (Z : State) (a0 : Array Value) (hw : ∀ d ∈ tables_1, d.before a0 Z = true) (w1 : Addr) (cl1 : Cell) (val1 : Int32 → Value) (p0 : Int32) (p1 : Int32) (p2 : Int32) (p3 : Int32) (p4 : Int32) (p5 : Int32) (h0 : Heap) (O0 : Ext Z.heap h0) (S1 : Sta Z Z.heap "java/lang/Integer$IntegerCache" "high" "I" (.int (127 : Int32))) (S2 : Sta Z Z.heap "java/lang/Integer$IntegerCache" "cache" "[Ljava/lang/Integer;" (.ref w1)) (B1 : Bxs Z w1 cl1 "java/lang/Integer" "I" (256 : Int32) val1) :
    Ctr l Z x code maxLocals ret tables_1 room_1 #[(.int p0), (.int p1), (.int p2), (.int p3), (.int p4), (.int p5)] h0 (fun v h L => v = some (.int 1) ∧ Fr Z.heap.size L) := by
  refine ctr (plainFor_of_name pn_4) ?_
  intro p e s m below meth c s₁ hx hby hml hown hnm hret hlocks hZ X0 e0
  have N0 := Fr.nil Z.heap.size
  have hsz : ∀ {Ls : Array Slot}, Ls.size = 12 → Ls.size = c.maxLocals := fun q => q.trans hml.symm
  refine goE (ef_rm0 m (p0) (p1) (p2) (p3) (p4) (p5)) ?_
  show Goes p e below _ (s₁.setTop (mkF m 0 #[.val (.int p0), .val (.int p1), .val (.int p2), .val (.int p3), .val (.int p4), .val (.int p5), .unset, .unset, .unset, .unset, .unset, .unset] []))
  refine gIload X0 hx (hb hby at_0) rfl ?_
  refine gBipush X0 hx (hb hby at_2) (v := (-128 : Int32)) rfl ?_
  refine gIand X0 hx (hb hby at_4) ?_
  refine gIstore X0 hx (hb hby at_5) (l' := #[.val (.int p0), .val (.int p1), .val (.int p2), .val (.int p3), .val (.int p4), .val (.int p5), .val (.int (p5 &&& (-128 : Int32))), .unset, .unset, .unset, .unset, .unset]) rfl ?_
  refine gIload X0 hx (hb hby at_7) rfl ?_
  have J1 : ∀ (d : Int32), ¬ d = 0 → Goes p e below (EndN s (fun v h L => v = some (.int 1) ∧ Fr Z.heap.size L) room_1.cells room_1.slots) (s₁.setTop (mkF m 15 #[.val (.int p0), .val (.int p1), .val (.int p2), .val (.int p3), .val (.int p4), .val (.int p5), .val (.int d), .unset, .unset, .unset, .unset, .unset] [])) := by
    intro d hd
    obtain ⟨Tt1, ht1, Xt1, et1, Et1, At1, Dt1, -, stt1⟩ := newO X0 hx hZ hown (hw _ (List.mem_of_getElem? (i := 0) rfl)) (hw _ (List.mem_of_getElem? (i := 1) rfl)) (hw _ (List.mem_of_getElem? (i := 2) rfl)) e0 (g := (mkF m 15 #[.val (.int p0), .val (.int p1), .val (.int p2), .val (.int p3), .val (.int p4), .val (.int p5), .val (.int d), .unset, .unset, .unset, .unset, .unset] [])) rfl (hb hby at_15) (by decide) (by decide)
    obtain ⟨b2, gb2⟩ : ∃ z, z = h0.size := ⟨_, rfl⟩
    rw [← gb2] at At1 Dt1 stt1
    refine go stt1 ?_
    have fr_b2 : Z.heap.size ≤ b2 := gb2 ▸ O0.1
    have O3 : Ext Z.heap ht1 := extT O0 Et1
    have F_field_b2 : Fld Z ht1 b2 "com/example/querent/querent/hl7/Delimiters" "field" "I" (.int (0 : Int32)) := Dt1 (Or.inr (hw _ (List.mem_of_getElem? (i := 15) rfl))) (ty := .int) (by decide)
    have F_component_b2 : Fld Z ht1 b2 "com/example/querent/querent/hl7/Delimiters" "component" "I" (.int (0 : Int32)) := Dt1 (Or.inr (hw _ (List.mem_of_getElem? (i := 17) rfl))) (ty := .int) (by decide)
    have F_repetition_b2 : Fld Z ht1 b2 "com/example/querent/querent/hl7/Delimiters" "repetition" "I" (.int (0 : Int32)) := Dt1 (Or.inr (hw _ (List.mem_of_getElem? (i := 19) rfl))) (ty := .int) (by decide)
    have F_escape_b2 : Fld Z ht1 b2 "com/example/querent/querent/hl7/Delimiters" "escape" "I" (.int (0 : Int32)) := Dt1 (Or.inr (hw _ (List.mem_of_getElem? (i := 21) rfl))) (ty := .int) (by decide)
    have F_subcomponent_b2 : Fld Z ht1 b2 "com/example/querent/querent/hl7/Delimiters" "subcomponent" "I" (.int (0 : Int32)) := Dt1 (Or.inr (hw _ (List.mem_of_getElem? (i := 23) rfl))) (ty := .int) (by decide)
    show Goes p e below _ (Tt1.setTop (mkF m 18 #[.val (.int p0), .val (.int p1), .val (.int p2), .val (.int p3), .val (.int p4), .val (.int p5), .val (.int d), .unset, .unset, .unset, .unset, .unset] [(.ref b2)]))
    refine gDup Xt1 hx (hb hby at_18) rfl ?_
    refine gIloadN Xt1 hx (hb hby at_19) rfl ?_
    refine gIloadN Xt1 hx (hb hby at_20) rfl ?_
    refine gIloadN Xt1 hx (hb hby at_21) rfl ?_
    refine gIloadN Xt1 hx (hb hby at_22) rfl ?_
    refine gIload Xt1 hx (hb hby at_23) rfl ?_
    refine goCallI Xt1 hx hZ rfl hown (hw _ (List.mem_of_getElem? (i := 3) rfl)) (hw _ (List.mem_of_getElem? (i := 4) rfl)) (hw _ (List.mem_of_getElem? (i := 2) rfl)) (hw _ (List.mem_of_getElem? (i := 5) rfl)) (by decide) (rm1 l Z a0 hw b2 p0 p1 p2 p3 p4 ht1 O3 At1 F_field_b2 F_component_b2 F_repetition_b2 F_escape_b2 F_subcomponent_b2 fr_b2) 1 (by decide) (by decide) et1 (hsz rfl) b2 [(.int p0), (.int p1), (.int p2), (.int p3), (.int p4)] [(.ref b2)] pd_2 rfl rfl rfl (Nat.le_of_eq rfl) (hb hby at_25) (by decide) (by decide) (fun Tt4 vt4 Lt4 Xt4 qt4 => ?_)
    obtain ⟨ht4, et4⟩ : ∃ z, Tt4.heap = z := ⟨_, rfl⟩
    rw [et4] at qt4
    obtain ⟨rfl, N5, Kct4, Hx_field, Hx_component, Hx_repetition, Hx_escape, Hx_subcomponent⟩ := qt4
    have N6 := Fr.app N0 N5
    replace At1 := At1.keep Kct4
    have O7 : Ext Z.heap ht4 := extK O3 Kct4 (allS fr_b2 all0)
    show Goes p e below _ (Tt4.setTop (mkF m 28 #[.val (.int p0), .val (.int p1), .val (.int p2), .val (.int p3), .val (.int p4), .val (.int p5), .val (.int d), .unset, .unset, .unset, .unset, .unset] [(.ref b2)]))
    refine gAstore Xt4 hx (hb hby at_28) rfl (l' := #[.val (.int p0), .val (.int p1), .val (.int p2), .val (.int p3), .val (.int p4), .val (.int p5), .val (.int d), .val (.ref b2), .unset, .unset, .unset, .unset]) rfl ?_
    obtain ⟨Tt8, ht8, Xt8, et8, Et8, At8, Dt8, -, stt8⟩ := newO Xt4 hx hZ hown (hw _ (List.mem_of_getElem? (i := 0) rfl)) (hw _ (List.mem_of_getElem? (i := 1) rfl)) (hw _ (List.mem_of_getElem? (i := 2) rfl)) et4 (g := (mkF m 30 #[.val (.int p0), .val (.int p1), .val (.int p2), .val (.int p3), .val (.int p4), .val (.int p5), .val (.int d), .val (.ref b2), .unset, .unset, .unset, .unset] [])) rfl (hb hby at_30) (by decide) (by decide)
    obtain ⟨b9, gb9⟩ : ∃ z, z = ht4.size := ⟨_, rfl⟩
    rw [← gb9] at At8 Dt8 stt8
    refine go stt8 ?_
    have ne_b2_b9 : b2 ≠ b9 := Nat.ne_of_lt (gb9 ▸ At1.lt)
    have fr_b9 : Z.heap.size ≤ b9 := gb9 ▸ O7.1
    replace At1 := At1.ext Et8
    replace Hx_field := Hx_field.ext Et8
    replace Hx_component := Hx_component.ext Et8
    replace Hx_repetition := Hx_repetition.ext Et8
    replace Hx_escape := Hx_escape.ext Et8
    replace Hx_subcomponent := Hx_subcomponent.ext Et8
    have O10 : Ext Z.heap ht8 := extT O7 Et8
    have F_field_b9 : Fld Z ht8 b9 "com/example/querent/querent/hl7/Delimiters" "field" "I" (.int (0 : Int32)) := Dt8 (Or.inr (hw _ (List.mem_of_getElem? (i := 15) rfl))) (ty := .int) (by decide)
    have F_component_b9 : Fld Z ht8 b9 "com/example/querent/querent/hl7/Delimiters" "component" "I" (.int (0 : Int32)) := Dt8 (Or.inr (hw _ (List.mem_of_getElem? (i := 17) rfl))) (ty := .int) (by decide)
    have F_repetition_b9 : Fld Z ht8 b9 "com/example/querent/querent/hl7/Delimiters" "repetition" "I" (.int (0 : Int32)) := Dt8 (Or.inr (hw _ (List.mem_of_getElem? (i := 19) rfl))) (ty := .int) (by decide)
    have F_escape_b9 : Fld Z ht8 b9 "com/example/querent/querent/hl7/Delimiters" "escape" "I" (.int (0 : Int32)) := Dt8 (Or.inr (hw _ (List.mem_of_getElem? (i := 21) rfl))) (ty := .int) (by decide)
    have F_subcomponent_b9 : Fld Z ht8 b9 "com/example/querent/querent/hl7/Delimiters" "subcomponent" "I" (.int (0 : Int32)) := Dt8 (Or.inr (hw _ (List.mem_of_getElem? (i := 23) rfl))) (ty := .int) (by decide)
    show Goes p e below _ (Tt8.setTop (mkF m 33 #[.val (.int p0), .val (.int p1), .val (.int p2), .val (.int p3), .val (.int p4), .val (.int p5), .val (.int d), .val (.ref b2), .unset, .unset, .unset, .unset] [(.ref b9)]))
    refine gDup Xt8 hx (hb hby at_33) rfl ?_
    refine gIloadN Xt8 hx (hb hby at_34) rfl ?_
    refine gIload Xt8 hx (hb hby at_35) rfl ?_
    refine gIconst Xt8 hx (hb hby at_37) (v := (0 : Int32)) rfl ?_
    refine gIload Xt8 hx (hb hby at_38) rfl ?_
    refine goCallS Xt8 hx hZ hown (hw _ (List.mem_of_getElem? (i := 24) rfl)) (hw _ (List.mem_of_getElem? (i := 25) rfl)) (hw _ (List.mem_of_getElem? (i := 26) rfl)) (hw _ (List.mem_of_getElem? (i := 27) rfl)) (by decide) (rm4 l Z a0 hw p0 p5 (0 : Int32) d ht8 O10) 2 (by decide) (by decide) et8 (hsz rfl) [(.int p0), (.int p5), (.int (0 : Int32)), (.int d)] [(.ref b9), (.ref b9)] pd_3 rfl rfl rfl (Nat.le_of_eq rfl) (hb hby at_40) (by decide) (by decide) (fun Tt11 vt11 Lt11 Xt11 qt11 => ?_)
    obtain ⟨rfl, N12, et11⟩ := qt11
    have N13 := Fr.app N6 N12
    show Goes p e below _ (Tt11.setTop (mkF m 43 #[.val (.int p0), .val (.int p1), .val (.int p2), .val (.int p3), .val (.int p4), .val (.int p5), .val (.int d), .val (.ref b2), .unset, .unset, .unset, .unset] [(.int (own_pick p0 p5 (0 : Int32) d)), (.ref b9), (.ref b9)]))
    refine gIloadN Xt11 hx (hb hby at_43) rfl ?_
    refine gIload Xt11 hx (hb hby at_44) rfl ?_
    refine gIconst Xt11 hx (hb hby at_46) (v := (1 : Int32)) rfl ?_
    refine gIload Xt11 hx (hb hby at_47) rfl ?_
    refine goCallS Xt11 hx hZ hown (hw _ (List.mem_of_getElem? (i := 24) rfl)) (hw _ (List.mem_of_getElem? (i := 25) rfl)) (hw _ (List.mem_of_getElem? (i := 26) rfl)) (hw _ (List.mem_of_getElem? (i := 27) rfl)) (by decide) (rm4 l Z a0 hw p1 p5 (1 : Int32) d ht8 O10) 3 (by decide) (by decide) et11 (hsz rfl) [(.int p1), (.int p5), (.int (1 : Int32)), (.int d)] [(.int (own_pick p0 p5 (0 : Int32) d)), (.ref b9), (.ref b9)] pd_3 rfl rfl rfl (Nat.le_of_eq rfl) (hb hby at_49) (by decide) (by decide) (fun Tt14 vt14 Lt14 Xt14 qt14 => ?_)
    obtain ⟨rfl, N15, et14⟩ := qt14
    have N16 := Fr.app N13 N15
    show Goes p e below _ (Tt14.setTop (mkF m 52 #[.val (.int p0), .val (.int p1), .val (.int p2), .val (.int p3), .val (.int p4), .val (.int p5), .val (.int d), .val (.ref b2), .unset, .unset, .unset, .unset] [(.int (own_pick p1 p5 (1 : Int32) d)), (.int (own_pick p0 p5 (0 : Int32) d)), (.ref b9), (.ref b9)]))
    refine gIloadN Xt14 hx (hb hby at_52) rfl ?_
    refine gIload Xt14 hx (hb hby at_53) rfl ?_
    refine gIconst Xt14 hx (hb hby at_55) (v := (2 : Int32)) rfl ?_
    refine gIload Xt14 hx (hb hby at_56) rfl ?_
    refine goCallS Xt14 hx hZ hown (hw _ (List.mem_of_getElem? (i := 24) rfl)) (hw _ (List.mem_of_getElem? (i := 25) rfl)) (hw _ (List.mem_of_getElem? (i := 26) rfl)) (hw _ (List.mem_of_getElem? (i := 27) rfl)) (by decide) (rm4 l Z a0 hw p2 p5 (2 : Int32) d ht8 O10) 4 (by decide) (by decide) et14 (hsz rfl) [(.int p2), (.int p5), (.int (2 : Int32)), (.int d)] [(.int (own_pick p1 p5 (1 : Int32) d)), (.int (own_pick p0 p5 (0 : Int32) d)), (.ref b9), (.ref b9)] pd_3 rfl rfl rfl (Nat.le_of_eq rfl) (hb hby at_58) (by decide) (by decide) (fun Tt17 vt17 Lt17 Xt17 qt17 => ?_)
    obtain ⟨rfl, N18, et17⟩ := qt17
    have N19 := Fr.app N16 N18
    show Goes p e below _ (Tt17.setTop (mkF m 61 #[.val (.int p0), .val (.int p1), .val (.int p2), .val (.int p3), .val (.int p4), .val (.int p5), .val (.int d), .val (.ref b2), .unset, .unset, .unset, .unset] [(.int (own_pick p2 p5 (2 : Int32) d)), (.int (own_pick p1 p5 (1 : Int32) d)), (.int (own_pick p0 p5 (0 : Int32) d)), (.ref b9), (.ref b9)]))
    refine gIloadN Xt17 hx (hb hby at_61) rfl ?_
    refine gIload Xt17 hx (hb hby at_62) rfl ?_
    refine gIconst Xt17 hx (hb hby at_64) (v := (3 : Int32)) rfl ?_
    refine gIload Xt17 hx (hb hby at_65) rfl ?_
    refine goCallS Xt17 hx hZ hown (hw _ (List.mem_of_getElem? (i := 24) rfl)) (hw _ (List.mem_of_getElem? (i := 25) rfl)) (hw _ (List.mem_of_getElem? (i := 26) rfl)) (hw _ (List.mem_of_getElem? (i := 27) rfl)) (by decide) (rm4 l Z a0 hw p3 p5 (3 : Int32) d ht8 O10) 5 (by decide) (by decide) et17 (hsz rfl) [(.int p3), (.int p5), (.int (3 : Int32)), (.int d)] [(.int (own_pick p2 p5 (2 : Int32) d)), (.int (own_pick p1 p5 (1 : Int32) d)), (.int (own_pick p0 p5 (0 : Int32) d)), (.ref b9), (.ref b9)] pd_3 rfl rfl rfl (Nat.le_of_eq rfl) (hb hby at_67) (by decide) (by decide) (fun Tt20 vt20 Lt20 Xt20 qt20 => ?_)
    obtain ⟨rfl, N21, et20⟩ := qt20
    have N22 := Fr.app N19 N21
    show Goes p e below _ (Tt20.setTop (mkF m 70 #[.val (.int p0), .val (.int p1), .val (.int p2), .val (.int p3), .val (.int p4), .val (.int p5), .val (.int d), .val (.ref b2), .unset, .unset, .unset, .unset] [(.int (own_pick p3 p5 (3 : Int32) d)), (.int (own_pick p2 p5 (2 : Int32) d)), (.int (own_pick p1 p5 (1 : Int32) d)), (.int (own_pick p0 p5 (0 : Int32) d)), (.ref b9), (.ref b9)]))
    refine gIload Xt20 hx (hb hby at_70) rfl ?_
    refine gIload Xt20 hx (hb hby at_72) rfl ?_
    refine gIconst Xt20 hx (hb hby at_74) (v := (4 : Int32)) rfl ?_
    refine gIload Xt20 hx (hb hby at_75) rfl ?_
    refine goCallS Xt20 hx hZ hown (hw _ (List.mem_of_getElem? (i := 24) rfl)) (hw _ (List.mem_of_getElem? (i := 25) rfl)) (hw _ (List.mem_of_getElem? (i := 26) rfl)) (hw _ (List.mem_of_getElem? (i := 27) rfl)) (by decide) (rm4 l Z a0 hw p4 p5 (4 : Int32) d ht8 O10) 6 (by decide) (by decide) et20 (hsz rfl) [(.int p4), (.int p5), (.int (4 : Int32)), (.int d)] [(.int (own_pick p3 p5 (3 : Int32) d)), (.int (own_pick p2 p5 (2 : Int32) d)), (.int (own_pick p1 p5 (1 : Int32) d)), (.int (own_pick p0 p5 (0 : Int32) d)), (.ref b9), (.ref b9)] pd_3 rfl rfl rfl (Nat.le_of_eq rfl) (hb hby at_77) (by decide) (by decide) (fun Tt23 vt23 Lt23 Xt23 qt23 => ?_)
    obtain ⟨rfl, N24, et23⟩ := qt23
    have N25 := Fr.app N22 N24
    show Goes p e below _ (Tt23.setTop (mkF m 80 #[.val (.int p0), .val (.int p1), .val (.int p2), .val (.int p3), .val (.int p4), .val (.int p5), .val (.int d), .val (.ref b2), .unset, .unset, .unset, .unset] [(.int (own_pick p4 p5 (4 : Int32) d)), (.int (own_pick p3 p5 (3 : Int32) d)), (.int (own_pick p2 p5 (2 : Int32) d)), (.int (own_pick p1 p5 (1 : Int32) d)), (.int (own_pick p0 p5 (0 : Int32) d)), (.ref b9), (.ref b9)]))
    refine goCallI Xt23 hx hZ rfl hown (hw _ (List.mem_of_getElem? (i := 3) rfl)) (hw _ (List.mem_of_getElem? (i := 4) rfl)) (hw _ (List.mem_of_getElem? (i := 2) rfl)) (hw _ (List.mem_of_getElem? (i := 5) rfl)) (by decide) (rm1 l Z a0 hw b9 (own_pick p0 p5 (0 : Int32) d) (own_pick p1 p5 (1 : Int32) d) (own_pick p2 p5 (2 : Int32) d) (own_pick p3 p5 (3 : Int32) d) (own_pick p4 p5 (4 : Int32) d) ht8 O10 At8 F_field_b9 F_component_b9 F_repetition_b9 F_escape_b9 F_subcomponent_b9 fr_b9) 1 (by decide) (by decide) et23 (hsz rfl) b9 [(.int (own_pick p0 p5 (0 : Int32) d)), (.int (own_pick p1 p5 (1 : Int32) d)), (.int (own_pick p2 p5 (2 : Int32) d)), (.int (own_pick p3 p5 (3 : Int32) d)), (.int (own_pick p4 p5 (4 : Int32) d))] [(.ref b9)] pd_2 rfl rfl rfl (Nat.le_of_eq rfl) (hb hby at_80) (by decide) (by decide) (fun Tt26 vt26 Lt26 Xt26 qt26 => ?_)
    obtain ⟨ht26, et26⟩ : ∃ z, Tt26.heap = z := ⟨_, rfl⟩
    rw [et26] at qt26
    obtain ⟨rfl, N27, Kct26, Hy_field, Hy_component, Hy_repetition, Hy_escape, Hy_subcomponent⟩ := qt26
    have N28 := Fr.app N25 N27
    replace At1 := At1.keep Kct26
    replace Hx_field := Hx_field.keep Kct26 (ninS ne_b2_b9 nin0)
    replace Hx_component := Hx_component.keep Kct26 (ninS ne_b2_b9 nin0)
    replace Hx_repetition := Hx_repetition.keep Kct26 (ninS ne_b2_b9 nin0)
    replace Hx_escape := Hx_escape.keep Kct26 (ninS ne_b2_b9 nin0)
    replace Hx_subcomponent := Hx_subcomponent.keep Kct26 (ninS ne_b2_b9 nin0)
    replace At8 := At8.keep Kct26
    have O29 : Ext Z.heap ht26 := extK O10 Kct26 (allS fr_b9 all0)
    show Goes p e below _ (Tt26.setTop (mkF m 83 #[.val (.int p0), .val (.int p1), .val (.int p2), .val (.int p3), .val (.int p4), .val (.int p5), .val (.int d), .val (.ref b2), .unset, .unset, .unset, .unset] [(.ref b9)]))
    refine gAstore Xt26 hx (hb hby at_83) rfl (l' := #[.val (.int p0), .val (.int p1), .val (.int p2), .val (.int p3), .val (.int p4), .val (.int p5), .val (.int d), .val (.ref b2), .val (.ref b9), .unset, .unset, .unset]) rfl ?_
    refine gIloadN Xt26 hx (hb hby at_85) rfl ?_
    refine goCallS Xt26 hx hZ hown (hw _ (List.mem_of_getElem? (i := 28) rfl)) (hw _ (List.mem_of_getElem? (i := 29) rfl)) (hw _ (List.mem_of_getElem? (i := 30) rfl)) (hw _ (List.mem_of_getElem? (i := 31) rfl)) (by decide) (rm5 l Z a0 hw w1 cl1 val1 p0 ht26 O29 S1 S2 B1) 0 (by decide) (by decide) et26 (hsz rfl) [(.int p0)] [] pd_4 rfl rfl rfl (Nat.le_of_eq rfl) (hb hby at_86) (by decide) (by decide) (fun Tt30 vt30 Lt30 Xt30 qt30 => ?_)
    obtain ⟨ht30, et30⟩ : ∃ z, Tt30.heap = z := ⟨_, rfl⟩
    rw [et30] at qt30
    obtain ⟨ob, rfl, N31, Kct30, Eo⟩ := qt30
    have N32 := Fr.app N28 N31
    replace At1 := At1.keep Kct30
    replace Hx_field := Hx_field.keep Kct30 nin0
    replace Hx_component := Hx_component.keep Kct30 nin0
    replace Hx_repetition := Hx_repetition.keep Kct30 nin0
    replace Hx_escape := Hx_escape.keep Kct30 nin0
    replace Hx_subcomponent := Hx_subcomponent.keep Kct30 nin0
    replace At8 := At8.keep Kct30
    replace Hy_field := Hy_field.keep Kct30 nin0
    replace Hy_component := Hy_component.keep Kct30 nin0
    replace Hy_repetition := Hy_repetition.keep Kct30 nin0
    replace Hy_escape := Hy_escape.keep Kct30 nin0
    replace Hy_subcomponent := Hy_subcomponent.keep Kct30 nin0
    have O33 : Ext Z.heap ht30 := extK O29 Kct30 all0
    show Goes p e below _ (Tt30.setTop (mkF m 89 #[.val (.int p0), .val (.int p1), .val (.int p2), .val (.int p3), .val (.int p4), .val (.int p5), .val (.int d), .val (.ref b2), .val (.ref b9), .unset, .unset, .unset] [(.ref ob)]))
    refine gAstore Xt30 hx (hb hby at_89) rfl (l' := #[.val (.int p0), .val (.int p1), .val (.int p2), .val (.int p3), .val (.int p4), .val (.int p5), .val (.int d), .val (.ref b2), .val (.ref b9), .val (.ref ob), .unset, .unset]) rfl ?_
    refine gIload Xt30 hx (hb hby at_91) rfl ?_
    refine gIconst Xt30 hx (hb hby at_93) (v := (5 : Int32)) rfl ?_
    refine gIushr Xt30 hx (hb hby at_94) ?_
    refine gIconst Xt30 hx (hb hby at_95) (v := (3 : Int32)) rfl ?_
    refine gIand Xt30 hx (hb hby at_96) ?_
    refine gIstore Xt30 hx (hb hby at_97) (l' := #[.val (.int p0), .val (.int p1), .val (.int p2), .val (.int p3), .val (.int p4), .val (.int p5), .val (.int d), .val (.ref b2), .val (.ref b9), .val (.ref ob), .val (.int ((XT.ushr p5 (5 : Int32)) &&& (3 : Int32))), .unset]) rfl ?_
    show Goes p e below _ (Tt30.setTop (mkF m 99 #[.val (.int p0), .val (.int p1), .val (.int p2), .val (.int p3), .val (.int p4), .val (.int p5), .val (.int d), .val (.ref b2), .val (.ref b9), .val (.ref ob), .val (.int ((XT.ushr p5 (5 : Int32)) &&& (3 : Int32))), .unset] []))
    refine gIload Xt30 hx (hb hby at_99) rfl ?_
    refine gIconst Xt30 hx (hb hby at_101) (v := (1 : Int32)) rfl ?_
    by_cases m1 : ((XT.ushr p5 (5 : Int32)) &&& (3 : Int32)) = (1 : Int32)
    · refine gIcmpN Xt30 hx (hb hby at_102) (XT.ii_ne_f m1) ?_
      show Goes p e below _ (Tt30.setTop (mkF m 105 #[.val (.int p0), .val (.int p1), .val (.int p2), .val (.int p3), .val (.int p4), .val (.int p5), .val (.int d), .val (.ref b2), .val (.ref b9), .val (.ref ob), .val (.int ((XT.ushr p5 (5 : Int32)) &&& (3 : Int32))), .unset] []))
      refine gAload Xt30 hx (hb hby at_105) rfl rfl ?_
      refine gAnull Xt30 hx (hb hby at_107) ?_
      refine goCallV Xt30 hx hZ hown (hw _ (List.mem_of_getElem? (i := 35) rfl)) (hw _ (List.mem_of_getElem? (i := 36) rfl)) (hw _ (List.mem_of_getElem? (i := 38) rfl)) (hw _ (List.mem_of_getElem? (i := 37) rfl)) (hw _ (List.mem_of_getElem? (i := 2) rfl)) (hw _ (List.mem_of_getElem? (i := 39) rfl)) (by decide) (rm6n l Z a0 hw b2 ht30 O33) 0 (by decide) (by decide) et30 At1 (hsz rfl) [.null] [] pd_5 rfl rfl rfl (Nat.le_of_eq rfl) (hb hby at_108) (by decide) (by decide) (fun Tt34 vt34 Lt34 Xt34 qt34 => ?_)
      obtain ⟨rfl, N35, et34⟩ := qt34
      have N36 := Fr.app N32 N35
      show Goes p e below _ (Tt34.setTop (mkF m 111 #[.val (.int p0), .val (.int p1), .val (.int p2), .val (.int p3), .val (.int p4), .val (.int p5), .val (.int d), .val (.ref b2), .val (.ref b9), .val (.ref ob), .val (.int ((XT.ushr p5 (5 : Int32)) &&& (3 : Int32))), .unset] [(.int (0 : Int32))]))
      refine gIfN Xt34 hx (hb hby at_111) (XT.i0_ne_f (by decide)) ?_
      show Goes p e below _ (Tt34.setTop (mkF m 114 #[.val (.int p0), .val (.int p1), .val (.int p2), .val (.int p3), .val (.int p4), .val (.int p5), .val (.int d), .val (.ref b2), .val (.ref b9), .val (.ref ob), .val (.int ((XT.ushr p5 (5 : Int32)) &&& (3 : Int32))), .unset] []))
      refine gIconst Xt34 hx (hb hby at_114) (v := (1 : Int32)) rfl ?_
      refine gGoto Xt34 hx (hb hby at_115) (pc' := 119) (by decide) (by decide) ?_
      show Goes p e below _ (Tt34.setTop (mkF m 119 #[.val (.int p0), .val (.int p1), .val (.int p2), .val (.int p3), .val (.int p4), .val (.int p5), .val (.int d), .val (.ref b2), .val (.ref b9), .val (.ref ob), .val (.int ((XT.ushr p5 (5 : Int32)) &&& (3 : Int32))), .unset] [(.int (1 : Int32))]))
      exact goRetN Xt34 hx (t := .boolean) hret hlocks (by simp) (hb hby at_119) (z' := (1 : Int32)) rfl (by decide) (by decide) et34 (⟨rfl, N36⟩)
    · refine gIcmpY Xt30 hx (hb hby at_102) (pc' := 120) (XT.ii_ne_t m1) (by decide) (by decide) ?_
      show Goes p e below _ (Tt30.setTop (mkF m 120 #[.val (.int p0), .val (.int p1), .val (.int p2), .val (.int p3), .val (.int p4), .val (.int p5), .val (.int d), .val (.ref b2), .val (.ref b9), .val (.ref ob), .val (.int ((XT.ushr p5 (5 : Int32)) &&& (3 : Int32))), .unset] []))
      refine gIload Xt30 hx (hb hby at_120) rfl ?_
      refine gIconst Xt30 hx (hb hby at_122) (v := (2 : Int32)) rfl ?_
      by_cases m2 : ((XT.ushr p5 (5 : Int32)) &&& (3 : Int32)) = (2 : Int32)
      · refine gIcmpN Xt30 hx (hb hby at_123) (XT.ii_ne_f m2) ?_
        show Goes p e below _ (Tt30.setTop (mkF m 126 #[.val (.int p0), .val (.int p1), .val (.int p2), .val (.int p3), .val (.int p4), .val (.int p5), .val (.int d), .val (.ref b2), .val (.ref b9), .val (.ref ob), .val (.int ((XT.ushr p5 (5 : Int32)) &&& (3 : Int32))), .unset] []))
        refine gAload Xt30 hx (hb hby at_126) rfl rfl ?_
        refine gAload Xt30 hx (hb hby at_128) rfl rfl ?_
        refine goCallV Xt30 hx hZ hown (hw _ (List.mem_of_getElem? (i := 35) rfl)) (hw _ (List.mem_of_getElem? (i := 36) rfl)) (hw _ (List.mem_of_getElem? (i := 38) rfl)) (hw _ (List.mem_of_getElem? (i := 37) rfl)) (hw _ (List.mem_of_getElem? (i := 2) rfl)) (hw _ (List.mem_of_getElem? (i := 39) rfl)) (by decide) (rm6i l Z a0 hw b2 ob ht30 O33 At1 Eo (own_no hw)) 0 (by decide) (by decide) et30 At1 (hsz rfl) [(.ref ob)] [] pd_5 rfl rfl rfl (Nat.le_of_eq rfl) (hb hby at_130) (by decide) (by decide) (fun Tt37 vt37 Lt37 Xt37 qt37 => ?_)
        obtain ⟨rfl, N38, et37⟩ := qt37
        have N39 := Fr.app N32 N38
        show Goes p e below _ (Tt37.setTop (mkF m 133 #[.val (.int p0), .val (.int p1), .val (.int p2), .val (.int p3), .val (.int p4), .val (.int p5), .val (.int d), .val (.ref b2), .val (.ref b9), .val (.ref ob), .val (.int ((XT.ushr p5 (5 : Int32)) &&& (3 : Int32))), .unset] [(.int (0 : Int32))]))
        refine gIfN Xt37 hx (hb hby at_133) (XT.i0_ne_f (by decide)) ?_
        show Goes p e below _ (Tt37.setTop (mkF m 136 #[.val (.int p0), .val (.int p1), .val (.int p2), .val (.int p3), .val (.int p4), .val (.int p5), .val (.int d), .val (.ref b2), .val (.ref b9), .val (.ref ob), .val (.int ((XT.ushr p5 (5 : Int32)) &&& (3 : Int32))), .unset] []))
        refine gIconst Xt37 hx (hb hby at_136) (v := (1 : Int32)) rfl ?_
        refine gGoto Xt37 hx (hb hby at_137) (pc' := 141) (by decide) (by decide) ?_
        show Goes p e below _ (Tt37.setTop (mkF m 141 #[.val (.int p0), .val (.int p1), .val (.int p2), .val (.int p3), .val (.int p4), .val (.int p5), .val (.int d), .val (.ref b2), .val (.ref b9), .val (.ref ob), .val (.int ((XT.ushr p5 (5 : Int32)) &&& (3 : Int32))), .unset] [(.int (1 : Int32))]))
        exact goRetN Xt37 hx (t := .boolean) hret hlocks (by simp) (hb hby at_141) (z' := (1 : Int32)) rfl (by decide) (by decide) et37 (⟨rfl, N39⟩)
      · refine gIcmpY Xt30 hx (hb hby at_123) (pc' := 142) (XT.ii_ne_t m2) (by decide) (by decide) ?_
        show Goes p e below _ (Tt30.setTop (mkF m 142 #[.val (.int p0), .val (.int p1), .val (.int p2), .val (.int p3), .val (.int p4), .val (.int p5), .val (.int d), .val (.ref b2), .val (.ref b9), .val (.ref ob), .val (.int ((XT.ushr p5 (5 : Int32)) &&& (3 : Int32))), .unset] []))
        refine gIload Xt30 hx (hb hby at_142) rfl ?_
        refine gIconst Xt30 hx (hb hby at_144) (v := (3 : Int32)) rfl ?_
        by_cases m3 : ((XT.ushr p5 (5 : Int32)) &&& (3 : Int32)) = (3 : Int32)
        · refine gIcmpN Xt30 hx (hb hby at_145) (XT.ii_ne_f m3) ?_
          show Goes p e below _ (Tt30.setTop (mkF m 148 #[.val (.int p0), .val (.int p1), .val (.int p2), .val (.int p3), .val (.int p4), .val (.int p5), .val (.int d), .val (.ref b2), .val (.ref b9), .val (.ref ob), .val (.int ((XT.ushr p5 (5 : Int32)) &&& (3 : Int32))), .unset] []))
          refine gAload Xt30 hx (hb hby at_148) rfl rfl ?_
          refine gAload Xt30 hx (hb hby at_150) rfl rfl ?_
          refine goCallV Xt30 hx hZ hown (hw _ (List.mem_of_getElem? (i := 35) rfl)) (hw _ (List.mem_of_getElem? (i := 36) rfl)) (hw _ (List.mem_of_getElem? (i := 38) rfl)) (hw _ (List.mem_of_getElem? (i := 37) rfl)) (hw _ (List.mem_of_getElem? (i := 2) rfl)) (hw _ (List.mem_of_getElem? (i := 39) rfl)) (by decide) (rm6s l Z a0 hw b2 ht30 O33) 0 (by decide) (by decide) et30 At1 (hsz rfl) [(.ref b2)] [] pd_5 rfl rfl rfl (Nat.le_of_eq rfl) (hb hby at_152) (by decide) (by decide) (fun Tt40 vt40 Lt40 Xt40 qt40 => ?_)
          obtain ⟨rfl, N41, et40⟩ := qt40
          have N42 := Fr.app N32 N41
          show Goes p e below _ (Tt40.setTop (mkF m 155 #[.val (.int p0), .val (.int p1), .val (.int p2), .val (.int p3), .val (.int p4), .val (.int p5), .val (.int d), .val (.ref b2), .val (.ref b9), .val (.ref ob), .val (.int ((XT.ushr p5 (5 : Int32)) &&& (3 : Int32))), .unset] [(.int (1 : Int32))]))
          exact goRetN Xt40 hx (t := .boolean) hret hlocks (by simp) (hb hby at_155) (z' := (1 : Int32)) rfl (by decide) (by decide) et40 (⟨rfl, N42⟩)
        · refine gIcmpY Xt30 hx (hb hby at_145) (pc' := 156) (XT.ii_ne_t m3) (by decide) (by decide) ?_
          show Goes p e below _ (Tt30.setTop (mkF m 156 #[.val (.int p0), .val (.int p1), .val (.int p2), .val (.int p3), .val (.int p4), .val (.int p5), .val (.int d), .val (.ref b2), .val (.ref b9), .val (.ref ob), .val (.int ((XT.ushr p5 (5 : Int32)) &&& (3 : Int32))), .unset] []))
          refine gIload Xt30 hx (hb hby at_156) rfl ?_
          refine gBipush Xt30 hx (hb hby at_158) (v := (31 : Int32)) rfl ?_
          refine gIand Xt30 hx (hb hby at_160) ?_
          by_cases m4 : (p5 &&& (31 : Int32)) = 0
          · refine gIfN Xt30 hx (hb hby at_161) (XT.i0_ne_f m4) ?_
            show Goes p e below _ (Tt30.setTop (mkF m 164 #[.val (.int p0), .val (.int p1), .val (.int p2), .val (.int p3), .val (.int p4), .val (.int p5), .val (.int d), .val (.ref b2), .val (.ref b9), .val (.ref ob), .val (.int ((XT.ushr p5 (5 : Int32)) &&& (3 : Int32))), .unset] []))
            refine gIconst Xt30 hx (hb hby at_164) (v := (1 : Int32)) rfl ?_
            refine gGoto Xt30 hx (hb hby at_165) (pc' := 169) (by decide) (by decide) ?_
            show Goes p e below _ (Tt30.setTop (mkF m 169 #[.val (.int p0), .val (.int p1), .val (.int p2), .val (.int p3), .val (.int p4), .val (.int p5), .val (.int d), .val (.ref b2), .val (.ref b9), .val (.ref ob), .val (.int ((XT.ushr p5 (5 : Int32)) &&& (3 : Int32))), .unset] [(.int (1 : Int32))]))
            refine gIstore Xt30 hx (hb hby at_169) (l' := #[.val (.int p0), .val (.int p1), .val (.int p2), .val (.int p3), .val (.int p4), .val (.int p5), .val (.int d), .val (.ref b2), .val (.ref b9), .val (.ref ob), .val (.int ((XT.ushr p5 (5 : Int32)) &&& (3 : Int32))), .val (.int (1 : Int32))]) rfl ?_
            refine gAload Xt30 hx (hb hby at_171) rfl rfl ?_
            refine gAload Xt30 hx (hb hby at_173) rfl rfl ?_
            refine goCallV Xt30 hx hZ hown (hw _ (List.mem_of_getElem? (i := 35) rfl)) (hw _ (List.mem_of_getElem? (i := 36) rfl)) (hw _ (List.mem_of_getElem? (i := 38) rfl)) (hw _ (List.mem_of_getElem? (i := 37) rfl)) (hw _ (List.mem_of_getElem? (i := 2) rfl)) (hw _ (List.mem_of_getElem? (i := 39) rfl)) (by decide) (rm6d l Z a0 hw p0 p1 p2 p3 p4 (own_pick p0 p5 (0 : Int32) d) (own_pick p1 p5 (1 : Int32) d) (own_pick p2 p5 (2 : Int32) d) (own_pick p3 p5 (3 : Int32) d) (own_pick p4 p5 (4 : Int32) d) b2 b9 ht30 O33 ne_b2_b9 At8 Hx_field Hy_field Hx_component Hy_component Hx_repetition Hy_repetition Hx_escape Hy_escape Hx_subcomponent Hy_subcomponent) 0 (by decide) (by decide) et30 At1 (hsz rfl) [(.ref b9)] [] pd_5 rfl rfl rfl (Nat.le_of_eq rfl) (hb hby at_175) (by decide) (by decide) (fun Tt43 vt43 Lt43 Xt43 qt43 => ?_)
            obtain ⟨rfl, N44, et43⟩ := qt43
            have N45 := Fr.app N32 N44
            show Goes p e below _ (Tt43.setTop (mkF m 178 #[.val (.int p0), .val (.int p1), .val (.int p2), .val (.int p3), .val (.int p4), .val (.int p5), .val (.int d), .val (.ref b2), .val (.ref b9), .val (.ref ob), .val (.int ((XT.ushr p5 (5 : Int32)) &&& (3 : Int32))), .val (.int (1 : Int32))] [(.int (own_eq p0 p1 p2 p3 p4 (own_pick p0 p5 (0 : Int32) d) (own_pick p1 p5 (1 : Int32) d) (own_pick p2 p5 (2 : Int32) d) (own_pick p3 p5 (3 : Int32) d) (own_pick p4 p5 (4 : Int32) d)))]))
            refine gIload Xt43 hx (hb hby at_178) rfl ?_
            refine gIcmpN Xt43 hx (hb hby at_180) (XT.ii_ne_f ((own_law p5 d hd p0 p1 p2 p3 p4).trans (by simp [m4]))) ?_
            show Goes p e below _ (Tt43.setTop (mkF m 183 #[.val (.int p0), .val (.int p1), .val (.int p2), .val (.int p3), .val (.int p4), .val (.int p5), .val (.int d), .val (.ref b2), .val (.ref b9), .val (.ref ob), .val (.int ((XT.ushr p5 (5 : Int32)) &&& (3 : Int32))), .val (.int (1 : Int32))] []))
            refine gAload Xt43 hx (hb hby at_183) rfl rfl ?_
            refine gAload Xt43 hx (hb hby at_185) rfl rfl ?_
            refine goCallV Xt43 hx hZ hown (hw _ (List.mem_of_getElem? (i := 35) rfl)) (hw _ (List.mem_of_getElem? (i := 36) rfl)) (hw _ (List.mem_of_getElem? (i := 38) rfl)) (hw _ (List.mem_of_getElem? (i := 37) rfl)) (hw _ (List.mem_of_getElem? (i := 2) rfl)) (hw _ (List.mem_of_getElem? (i := 39) rfl)) (by decide) (rm6d l Z a0 hw (own_pick p0 p5 (0 : Int32) d) (own_pick p1 p5 (1 : Int32) d) (own_pick p2 p5 (2 : Int32) d) (own_pick p3 p5 (3 : Int32) d) (own_pick p4 p5 (4 : Int32) d) p0 p1 p2 p3 p4 b9 b2 ht30 O33 (Ne.symm ne_b2_b9) At1 Hy_field Hx_field Hy_component Hx_component Hy_repetition Hx_repetition Hy_escape Hx_escape Hy_subcomponent Hx_subcomponent) 0 (by decide) (by decide) et43 At8 (hsz rfl) [(.ref b2)] [] pd_5 rfl rfl rfl (Nat.le_of_eq rfl) (hb hby at_187) (by decide) (by decide) (fun Tt46 vt46 Lt46 Xt46 qt46 => ?_)
            obtain ⟨rfl, N47, et46⟩ := qt46
            have N48 := Fr.app N45 N47
            show Goes p e below _ (Tt46.setTop (mkF m 190 #[.val (.int p0), .val (.int p1), .val (.int p2), .val (.int p3), .val (.int p4), .val (.int p5), .val (.int d), .val (.ref b2), .val (.ref b9), .val (.ref ob), .val (.int ((XT.ushr p5 (5 : Int32)) &&& (3 : Int32))), .val (.int (1 : Int32))] [(.int (own_eq (own_pick p0 p5 (0 : Int32) d) (own_pick p1 p5 (1 : Int32) d) (own_pick p2 p5 (2 : Int32) d) (own_pick p3 p5 (3 : Int32) d) (own_pick p4 p5 (4 : Int32) d) p0 p1 p2 p3 p4))]))
            refine gIload Xt46 hx (hb hby at_190) rfl ?_
            refine gIcmpN Xt46 hx (hb hby at_192) (XT.ii_ne_f ((own_law' p5 d hd p0 p1 p2 p3 p4).trans (by simp [m4]))) ?_
            show Goes p e below _ (Tt46.setTop (mkF m 195 #[.val (.int p0), .val (.int p1), .val (.int p2), .val (.int p3), .val (.int p4), .val (.int p5), .val (.int d), .val (.ref b2), .val (.ref b9), .val (.ref ob), .val (.int ((XT.ushr p5 (5 : Int32)) &&& (3 : Int32))), .val (.int (1 : Int32))] []))
            refine gIconst Xt46 hx (hb hby at_195) (v := (1 : Int32)) rfl ?_
            refine gGoto Xt46 hx (hb hby at_196) (pc' := 200) (by decide) (by decide) ?_
            show Goes p e below _ (Tt46.setTop (mkF m 200 #[.val (.int p0), .val (.int p1), .val (.int p2), .val (.int p3), .val (.int p4), .val (.int p5), .val (.int d), .val (.ref b2), .val (.ref b9), .val (.ref ob), .val (.int ((XT.ushr p5 (5 : Int32)) &&& (3 : Int32))), .val (.int (1 : Int32))] [(.int (1 : Int32))]))
            exact goRetN Xt46 hx (t := .boolean) hret hlocks (by simp) (hb hby at_200) (z' := (1 : Int32)) rfl (by decide) (by decide) et46 (⟨rfl, N48⟩)
          · refine gIfY Xt30 hx (hb hby at_161) (pc' := 168) (XT.i0_ne_t m4) (by decide) (by decide) ?_
            show Goes p e below _ (Tt30.setTop (mkF m 168 #[.val (.int p0), .val (.int p1), .val (.int p2), .val (.int p3), .val (.int p4), .val (.int p5), .val (.int d), .val (.ref b2), .val (.ref b9), .val (.ref ob), .val (.int ((XT.ushr p5 (5 : Int32)) &&& (3 : Int32))), .unset] []))
            refine gIconst Xt30 hx (hb hby at_168) (v := (0 : Int32)) rfl ?_
            refine gIstore Xt30 hx (hb hby at_169) (l' := #[.val (.int p0), .val (.int p1), .val (.int p2), .val (.int p3), .val (.int p4), .val (.int p5), .val (.int d), .val (.ref b2), .val (.ref b9), .val (.ref ob), .val (.int ((XT.ushr p5 (5 : Int32)) &&& (3 : Int32))), .val (.int (0 : Int32))]) rfl ?_
            refine gAload Xt30 hx (hb hby at_171) rfl rfl ?_
            refine gAload Xt30 hx (hb hby at_173) rfl rfl ?_
            refine goCallV Xt30 hx hZ hown (hw _ (List.mem_of_getElem? (i := 35) rfl)) (hw _ (List.mem_of_getElem? (i := 36) rfl)) (hw _ (List.mem_of_getElem? (i := 38) rfl)) (hw _ (List.mem_of_getElem? (i := 37) rfl)) (hw _ (List.mem_of_getElem? (i := 2) rfl)) (hw _ (List.mem_of_getElem? (i := 39) rfl)) (by decide) (rm6d l Z a0 hw p0 p1 p2 p3 p4 (own_pick p0 p5 (0 : Int32) d) (own_pick p1 p5 (1 : Int32) d) (own_pick p2 p5 (2 : Int32) d) (own_pick p3 p5 (3 : Int32) d) (own_pick p4 p5 (4 : Int32) d) b2 b9 ht30 O33 ne_b2_b9 At8 Hx_field Hy_field Hx_component Hy_component Hx_repetition Hy_repetition Hx_escape Hy_escape Hx_subcomponent Hy_subcomponent) 0 (by decide) (by decide) et30 At1 (hsz rfl) [(.ref b9)] [] pd_5 rfl rfl rfl (Nat.le_of_eq rfl) (hb hby at_175) (by decide) (by decide) (fun Tt49 vt49 Lt49 Xt49 qt49 => ?_)
            obtain ⟨rfl, N50, et49⟩ := qt49
            have N51 := Fr.app N32 N50
            show Goes p e below _ (Tt49.setTop (mkF m 178 #[.val (.int p0), .val (.int p1), .val (.int p2), .val (.int p3), .val (.int p4), .val (.int p5), .val (.int d), .val (.ref b2), .val (.ref b9), .val (.ref ob), .val (.int ((XT.ushr p5 (5 : Int32)) &&& (3 : Int32))), .val (.int (0 : Int32))] [(.int (own_eq p0 p1 p2 p3 p4 (own_pick p0 p5 (0 : Int32) d) (own_pick p1 p5 (1 : Int32) d) (own_pick p2 p5 (2 : Int32) d) (own_pick p3 p5 (3 : Int32) d) (own_pick p4 p5 (4 : Int32) d)))]))
            refine gIload Xt49 hx (hb hby at_178) rfl ?_
            refine gIcmpN Xt49 hx (hb hby at_180) (XT.ii_ne_f ((own_law p5 d hd p0 p1 p2 p3 p4).trans (by simp [m4]))) ?_
            show Goes p e below _ (Tt49.setTop (mkF m 183 #[.val (.int p0), .val (.int p1), .val (.int p2), .val (.int p3), .val (.int p4), .val (.int p5), .val (.int d), .val (.ref b2), .val (.ref b9), .val (.ref ob), .val (.int ((XT.ushr p5 (5 : Int32)) &&& (3 : Int32))), .val (.int (0 : Int32))] []))
            refine gAload Xt49 hx (hb hby at_183) rfl rfl ?_
            refine gAload Xt49 hx (hb hby at_185) rfl rfl ?_
            refine goCallV Xt49 hx hZ hown (hw _ (List.mem_of_getElem? (i := 35) rfl)) (hw _ (List.mem_of_getElem? (i := 36) rfl)) (hw _ (List.mem_of_getElem? (i := 38) rfl)) (hw _ (List.mem_of_getElem? (i := 37) rfl)) (hw _ (List.mem_of_getElem? (i := 2) rfl)) (hw _ (List.mem_of_getElem? (i := 39) rfl)) (by decide) (rm6d l Z a0 hw (own_pick p0 p5 (0 : Int32) d) (own_pick p1 p5 (1 : Int32) d) (own_pick p2 p5 (2 : Int32) d) (own_pick p3 p5 (3 : Int32) d) (own_pick p4 p5 (4 : Int32) d) p0 p1 p2 p3 p4 b9 b2 ht30 O33 (Ne.symm ne_b2_b9) At1 Hy_field Hx_field Hy_component Hx_component Hy_repetition Hx_repetition Hy_escape Hx_escape Hy_subcomponent Hx_subcomponent) 0 (by decide) (by decide) et49 At8 (hsz rfl) [(.ref b2)] [] pd_5 rfl rfl rfl (Nat.le_of_eq rfl) (hb hby at_187) (by decide) (by decide) (fun Tt52 vt52 Lt52 Xt52 qt52 => ?_)
            obtain ⟨rfl, N53, et52⟩ := qt52
            have N54 := Fr.app N51 N53
            show Goes p e below _ (Tt52.setTop (mkF m 190 #[.val (.int p0), .val (.int p1), .val (.int p2), .val (.int p3), .val (.int p4), .val (.int p5), .val (.int d), .val (.ref b2), .val (.ref b9), .val (.ref ob), .val (.int ((XT.ushr p5 (5 : Int32)) &&& (3 : Int32))), .val (.int (0 : Int32))] [(.int (own_eq (own_pick p0 p5 (0 : Int32) d) (own_pick p1 p5 (1 : Int32) d) (own_pick p2 p5 (2 : Int32) d) (own_pick p3 p5 (3 : Int32) d) (own_pick p4 p5 (4 : Int32) d) p0 p1 p2 p3 p4))]))
            refine gIload Xt52 hx (hb hby at_190) rfl ?_
            refine gIcmpN Xt52 hx (hb hby at_192) (XT.ii_ne_f ((own_law' p5 d hd p0 p1 p2 p3 p4).trans (by simp [m4]))) ?_
            show Goes p e below _ (Tt52.setTop (mkF m 195 #[.val (.int p0), .val (.int p1), .val (.int p2), .val (.int p3), .val (.int p4), .val (.int p5), .val (.int d), .val (.ref b2), .val (.ref b9), .val (.ref ob), .val (.int ((XT.ushr p5 (5 : Int32)) &&& (3 : Int32))), .val (.int (0 : Int32))] []))
            refine gIconst Xt52 hx (hb hby at_195) (v := (1 : Int32)) rfl ?_
            refine gGoto Xt52 hx (hb hby at_196) (pc' := 200) (by decide) (by decide) ?_
            show Goes p e below _ (Tt52.setTop (mkF m 200 #[.val (.int p0), .val (.int p1), .val (.int p2), .val (.int p3), .val (.int p4), .val (.int p5), .val (.int d), .val (.ref b2), .val (.ref b9), .val (.ref ob), .val (.int ((XT.ushr p5 (5 : Int32)) &&& (3 : Int32))), .val (.int (0 : Int32))] [(.int (1 : Int32))]))
            exact goRetN Xt52 hx (t := .boolean) hret hlocks (by simp) (hb hby at_200) (z' := (1 : Int32)) rfl (by decide) (by decide) et52 (⟨rfl, N54⟩)
  by_cases g1 : (p5 &&& (-128 : Int32)) = 0
  · refine gIfN X0 hx (hb hby at_9) (XT.i0_ne_f g1) ?_
    show Goes p e below _ (s₁.setTop (mkF m 12 #[.val (.int p0), .val (.int p1), .val (.int p2), .val (.int p3), .val (.int p4), .val (.int p5), .val (.int (p5 &&& (-128 : Int32))), .unset, .unset, .unset, .unset, .unset] []))
    refine gIconst X0 hx (hb hby at_12) (v := (1 : Int32)) rfl ?_
    refine gIstore X0 hx (hb hby at_13) (l' := #[.val (.int p0), .val (.int p1), .val (.int p2), .val (.int p3), .val (.int p4), .val (.int p5), .val (.int (1 : Int32)), .unset, .unset, .unset, .unset, .unset]) rfl ?_
    exact J1 _ (by decide)
  · refine gIfY X0 hx (hb hby at_9) (pc' := 15) (XT.i0_ne_t g1) (by decide) (by decide) ?_
    show Goes p e below _ (s₁.setTop (mkF m 15 #[.val (.int p0), .val (.int p1), .val (.int p2), .val (.int p3), .val (.int p4), .val (.int p5), .val (.int (p5 &&& (-128 : Int32))), .unset, .unset, .unset, .unset, .unset] []))
    exact J1 _ g1
set_option maxRecDepth 65536 in
set_option maxHeartbeats 40000000 in
theorem comes_1 {Post : Tables → Env → Array Value → State → Outcome → State → Prop} (hpost : ∀ tb e args s v u, (limb_1_1.after args s (.returned v) u = true ∧ limb_1_2.after args s (.returned v) u = true ∧ True) → FrameEnd s (.returned v) u (Jvm.fieldLocs frame_1_writes args s ++ Jvm.arrayLocs frame_1_arrays args s ++ Jvm.staticLocs frame_1_statics s) 16 128 → Post tb e args s (.returned v) u) :
    ArmFor flags0 classFile x code maxLocals ret World_1 tables_1 room_1 Calls_1 rest_1 Pre_1 Post := by
  intro l hfl _ _ p e ha hc hk s m args below hf hA hF happ hP
  obtain ⟨hcalls, hrest, hpre⟩ := hP
  obtain ⟨-, -, -, hnamed, -, -, -, hat⟩ := (Spec.applies_iff hf).mp happ
  obtain ⟨hg, hn⟩ := and_e (Cond.before_iff.mp (show (Jvm.Cond.and given_1 narrow_1).before args s = true from hpre))
  obtain ⟨hc0, r0⟩ := and_e hg
  obtain ⟨c0, r1⟩ := and_e r0
  obtain ⟨c1, r2⟩ := and_e r1
  obtain ⟨c2, r3⟩ := and_e r2
  obtain ⟨c3, r4⟩ := and_e r3
  obtain ⟨c4, r5⟩ := and_e r4
  have c5 := r5
  obtain ⟨w0, w1, w2, w3, w4, w5, rfl⟩ : ∃ w0 w1 w2 w3 w4 w5 : Value, args = #[w0, w1, w2, w3, w4, w5] := by
    have hs : args.size = 6 := by simpa [Cond.value, given_1] using hc0
    obtain ⟨L⟩ := args
    match L, hs with
    | [w0, w1, w2, w3, w4, w5], _ => exact ⟨w0, w1, w2, w3, w4, w5, rfl⟩
  have hw := fun d (hd : d ∈ tables_1) => atoms_spec (ws := Jvm.Cond.code x code maxLocals ret :: tables_1) hat d (List.mem_cons_of_mem _ hd)
  obtain ⟨hsets, hown0⟩ := atoms_of _ (rest_1_c_eq ▸ (show rest_1_c.before _ s = true from hrest))
  have hfit : Fit s := fun {y c} hc i hi => by
    obtain ⟨ha, rfl⟩ := Array.getElem?_eq_some_iff.mp hc
    have q := List.all_eq_true.mp ((Array.all_eq_true_iff_forall_mem.mp hF) _ (Array.getElem_mem ha)) i (List.mem_range.mpr hi)
    simpa [Array.getElem?_eq_getElem hi] using q
  obtain ⟨x0, y0⟩ := is_v c0
  obtain rfl : w0 = (.int x0) := Option.some.inj y0
  obtain ⟨x1, y1⟩ := is_v c1
  obtain rfl : w1 = (.int x1) := Option.some.inj y1
  obtain ⟨x2, y2⟩ := is_v c2
  obtain rfl : w2 = (.int x2) := Option.some.inj y2
  obtain ⟨x3, y3⟩ := is_v c3
  obtain rfl : w3 = (.int x3) := Option.some.inj y3
  obtain ⟨x4, y4⟩ := is_v c4
  obtain rfl : w4 = (.int x4) := Option.some.inj y4
  obtain ⟨x5, y5⟩ := is_v c5
  obtain rfl : w5 = (.int x5) := Option.some.inj y5
  have k1 := eqI_v (Cond.before_iff.mp (hsets _ (List.mem_of_getElem? (i := 3) rfl)))
  have S1 : Sta s s.heap "java/lang/Integer$IntegerCache" "high" "I" (.int (127 : Int32)) := Sta.start k1 (Or.inl (hsets _ (List.mem_of_getElem? (i := 1) rfl)))
  have k2 := Cond.before_iff.mp (hsets _ (List.mem_of_getElem? (i := 4) rfl))
  obtain ⟨w1, q1⟩ := arr_v k2
  have S2 : Sta s s.heap "java/lang/Integer$IntegerCache" "cache" "[Ljava/lang/Integer;" (.ref w1) := Sta.start q1 (Or.inr ⟨hw _ (List.mem_of_getElem? (i := 33) rfl), hsets _ (List.mem_of_getElem? (i := 2) rfl)⟩)
  obtain ⟨cl1, A1⟩ := Arr.start q1 k2
  have k3 := eqI_v (Cond.before_iff.mp (hsets _ (List.mem_of_getElem? (i := 6) rfl)))
  have hq9 : cl1.slots.size < 2 ^ 31 := Jvm.Free.SBG.length_lt q1 (A1.fin (Vm.Alike.refl _)) k3
  have hs9 : cl1.slots.size.toInt32 = (256 : Int32) := by
    have := (len_f q1 (A1.fin (Vm.Alike.refl _)) hq9).symm.trans k3
    simpa using this
  have B1 := Bxs.start (val := fun j => .int (j - 128)) (z := 256) (fun idx => q1) A1 hq9 hs9 (by decide) (Cond.before_iff.mp (hsets _ (List.mem_of_getElem? (i := 7) rfl))) (fun X j hj hv => eqv_i (by simp [Term.eval, (back32 hj).1]) hv)
  obtain ⟨n, o, h1, h2, h3, _, L, rfl, ⟨rfl, N⟩, hq⟩ := rm0 l s _ hw _ _ _ x0 x1 x2 x3 x4 x5 s.heap ⟨Nat.le_refl _, fun _ _ q => q⟩ S1 S2 B1 p e ha hc hk s m _ below hf ((Spec.applies_iff_loose hf).mp happ).1 ⟨rfl, State.Warmed39.refl s, rfl⟩ trivial
  refine ⟨n, _, h1, h2, h3, hpost _ _ _ _ _ _ ⟨Cond.after_iff.mpr rfl, Cond.after_iff.mpr (eq_i res_at (Term.int_eval (1)) rfl), trivial⟩ ⟨hq.1, hq.2.1, (hq.2.2.sift fun y hy => Or.inr (N y hy)).mono (by decide) (by decide)⟩⟩
theorem main_1_1 : Claimed_1_1 := comes_1 fun _ _ _ _ _ _ h hF => ⟨h.1, hF⟩
theorem main_1_2 : Claimed_1_2 := comes_1 fun _ _ _ _ _ _ h hF => ⟨h.2.1, hF⟩
end Jvm.Pilot.@@N@@
namespace Jvm.Pilot.@@N@@
open Jvm Jvm.ClassFile Sem Op Lib Jvm.Free Jvm.Stand Jvm.Pilot.@@N@@.Jvm.D
/-! MADE BY PROGRAM (witnessworld.py) out of the Statement's table words and the real class files: 17 classes; the members and pool entries that the words name. The judged class is class 1, her method 2. -/
namespace start1
open Jvm.ClassFile
def u (s : String) : CpInfo := .utf8 (stringToUtf16 s)
/-- a pool by its gaps: so many unusable entries, then the entry; so many at the end -/
def gap : Nat → List CpInfo → List CpInfo
  | 0, r => r
  | n + 1, r => .unusable :: gap n r
def poolList (es : List (Nat × CpInfo)) (last : Nat) : List CpInfo := es.foldr (fun e r => gap e.1 (e.2 :: r)) (gap last [])
def pool (es : List (Nat × CpInfo)) (last : Nat) : Array CpInfo := ⟨poolList es last⟩
def fileOf (pool : Array CpInfo) (this : Nat) (attrs : Array Attribute := #[]) (ms : Array MethodInfo := #[]) (fl : Nat := 33) (sup : Nat := 0) (ifs : Array Nat := #[]) (fds : Array FieldInfo := #[]) : ClassFile where
  minorVersion := 0
  majorVersion := 65
  constantPool := pool
  accessFlags := fl
  thisClass := this
  superClass := sup
  interfaces := ifs
  fields := fds
  methods := ms
  attributes := attrs
def plain (name : String) (sup : Option ClassId) : Class where
  name := name
  kind := .ordinary
  loader := none
  accessFlags := 33
  super := sup
  interfaces := #[]
  cf := none
  fields := #[]
  methods := #[]
  instanceTypes := #[]
  staticTypes := #[]
  resolved := #[]
  callSites := []
  init := .initialized
  statics := none
  mirror := none

def pool0 : Array CpInfo := pool [(5, u "<init>"), (0, u "()V"), (1, .class_ 10), (1, u "java/lang/Object")] 113

def k0c0 : Code := { maxStack := 0, maxLocals := 1, code := object_method_1_code, exceptionTable := #[], attributes := #[] }
def k0m0 : Method := { name := "<init>", desc := "()V", sig := { parameters := [], returnType := none }, accessFlags := 1, code := some k0c0 }
/-- java/lang/Object -/
def k0 : Class := { plain "java/lang/Object" none with
  accessFlags := 33
  interfaces := #[]
  cf := some (fileOf pool0 8 #[] #[{ accessFlags := 1, nameIndex := 5, descriptorIndex := 6, attributes := #[] }] 33 0 #[] #[])
  fields := #[]
  methods := #[k0m0]
  instanceTypes := #[]
  staticTypes := #[]
  resolved := Array.replicate 124 none
  statics := none }

def pool1 : Array CpInfo := pool [(2, .class_ 4), (1, u "java/lang/Object"), (0, u "<init>"), (0, u "()V"), (0, .class_ 8), (0, u "com/example/querent/querent/hl7/Delimiters"), (0, .methodref 7 10), (0, .nameAndType 5 11), (0, u "(IIIII)V"), (0, .methodref 13 14), (0, .class_ 15), (0, .nameAndType 16 17), (0, u "com/example/querent/querent/hl7/DelimitersEqualsPinLaw"), (0, u "pick"), (0, u "(IIII)I"), (0, .methodref 19 20), (0, .class_ 21), (0, .nameAndType 22 23), (0, u "java/lang/Integer"), (0, u "valueOf"), (0, u "(I)Ljava/lang/Integer;"), (0, .methodref 7 25), (0, .nameAndType 26 27), (0, u "equals"), (0, u "(Ljava/lang/Object;)Z"), (3, u "law"), (0, u "(IIIIII)Z")] 2

def k1m0 : Method := { name := "<init>", desc := "()V", sig := { parameters := [], returnType := none }, accessFlags := 2, code := none }
def k1c1 : Code := { maxStack := 2, maxLocals := 4, code := method_2_code, exceptionTable := #[], attributes := #[] }
def k1m1 : Method := { name := "pick", desc := "(IIII)I", sig := { parameters := [.int, .int, .int, .int], returnType := some .int }, accessFlags := 10, code := some k1c1 }
def k1c2 : Code := { maxStack := 10, maxLocals := 12, code := code, exceptionTable := #[], attributes := #[] }
def k1m2 : Method := { name := "law", desc := "(IIIIII)Z", sig := { parameters := [.int, .int, .int, .int, .int, .int], returnType := some .boolean }, accessFlags := 9, code := some k1c2 }
/-- com/example/querent/querent/hl7/DelimitersEqualsPinLaw -/
def k1 : Class := { plain "com/example/querent/querent/hl7/DelimitersEqualsPinLaw" (some 0) with
  accessFlags := 49
  interfaces := #[]
  cf := some (fileOf pool1 13 #[] #[{ accessFlags := 2, nameIndex := 5, descriptorIndex := 6, attributes := #[] }, { accessFlags := 10, nameIndex := 16, descriptorIndex := 17, attributes := #[] }, { accessFlags := 9, nameIndex := 31, descriptorIndex := 32, attributes := #[] }] 49 2 #[] #[])
  fields := #[]
  methods := #[k1m0, k1m1, k1m2]
  instanceTypes := #[]
  staticTypes := #[]
  resolved := Array.replicate 35 none
  statics := none }

def pool2 : Array CpInfo := pool [(1, .methodref 2 3), (0, .class_ 4), (0, .nameAndType 5 6), (0, u "java/lang/Object"), (0, u "<init>"), (0, u "()V"), (0, .class_ 8), (0, u "java/lang/Record")] 13

def k2c0 : Code := { maxStack := 1, maxLocals := 1, code := jdk_30_method_1_code, exceptionTable := #[], attributes := #[] }
def k2m0 : Method := { name := "<init>", desc := "()V", sig := { parameters := [], returnType := none }, accessFlags := 4, code := some k2c0 }
/-- java/lang/Record -/
def k2 : Class := { plain "java/lang/Record" (some 0) with
  accessFlags := 1057
  interfaces := #[]
  cf := some (fileOf pool2 7 #[] #[{ accessFlags := 4, nameIndex := 5, descriptorIndex := 6, attributes := #[] }] 1057 2 #[] #[])
  fields := #[]
  methods := #[k2m0]
  instanceTypes := #[]
  staticTypes := #[]
  resolved := Array.replicate 22 none
  statics := none }

def pool3 : Array CpInfo := pool [(1, .methodref 2 3), (0, .class_ 4), (0, .nameAndType 5 6), (0, u "java/lang/Record"), (0, u "<init>"), (0, u "()V"), (0, .fieldref 8 9), (0, .class_ 10), (0, .nameAndType 11 12), (0, u "com/example/querent/querent/hl7/Delimiters"), (0, u "field"), (0, u "I"), (0, .fieldref 8 14), (0, .nameAndType 15 12), (0, u "component"), (0, .fieldref 8 17), (0, .nameAndType 18 12), (0, u "repetition"), (0, .fieldref 8 20), (0, .nameAndType 21 12), (0, u "escape"), (0, .fieldref 8 23), (0, .nameAndType 24 12), (0, u "subcomponent"), (54, u "(IIIII)V"), (2, u "STANDARD"), (0, u "Lcom/example/querent/querent/hl7/Delimiters;"), (2, u "equals"), (0, u "(Ljava/lang/Object;)Z"), (132, .class_ 221), (0, u "com/example/querent/querent/hl7/Delimiters$Units"), (40, u "FRAMING"), (0, u "[I"), (18, u "FRAMING_NAMES"), (0, u "Ljava/util/List;"), (39, u "NONE"), (4, u "REPLACEMENT"), (24, .class_ 354), (0, u "com/example/querent/querent/hl7/Delimiters$Match")] 50

def k3c0 : Code := { maxStack := 2, maxLocals := 6, code := prog_88_method_1_code, exceptionTable := #[], attributes := #[] }
def k3m0 : Method := { name := "<init>", desc := "(IIIII)V", sig := { parameters := [.int, .int, .int, .int, .int], returnType := none }, accessFlags := 1, code := some k3c0 }
def k3c1 : Code := { maxStack := 2, maxLocals := 3, code := prog_88_method_3_code, exceptionTable := #[], attributes := #[] }
def k3m1 : Method := { name := "equals", desc := "(Ljava/lang/Object;)Z", sig := { parameters := [(.object "java/lang/Object")], returnType := some .boolean }, accessFlags := 1, code := some k3c1 }
/-- com/example/querent/querent/hl7/Delimiters -/
def k3 : Class := { plain "com/example/querent/querent/hl7/Delimiters" (some 2) with
  accessFlags := 49
  interfaces := #[]
  cf := some (fileOf pool3 8 #[.nestMembers #[353, 220]] #[{ accessFlags := 1, nameIndex := 5, descriptorIndex := 79, attributes := #[] }, { accessFlags := 1, nameIndex := 86, descriptorIndex := 87, attributes := #[] }] 49 2 #[] #[{ accessFlags := 18, nameIndex := 11, descriptorIndex := 12, attributes := #[] }, { accessFlags := 18, nameIndex := 15, descriptorIndex := 12, attributes := #[] }, { accessFlags := 18, nameIndex := 18, descriptorIndex := 12, attributes := #[] }, { accessFlags := 18, nameIndex := 21, descriptorIndex := 12, attributes := #[] }, { accessFlags := 18, nameIndex := 24, descriptorIndex := 12, attributes := #[] }, { accessFlags := 25, nameIndex := 82, descriptorIndex := 83, attributes := #[] }, { accessFlags := 26, nameIndex := 323, descriptorIndex := 12, attributes := #[] }, { accessFlags := 26, nameIndex := 262, descriptorIndex := 263, attributes := #[] }, { accessFlags := 26, nameIndex := 282, descriptorIndex := 283, attributes := #[] }, { accessFlags := 26, nameIndex := 328, descriptorIndex := 12, attributes := #[] }])
  fields := #[{ name := "field", type := .int, accessFlags := 18, slot := 0, constantValue := 0 }, { name := "component", type := .int, accessFlags := 18, slot := 1, constantValue := 0 }, { name := "repetition", type := .int, accessFlags := 18, slot := 2, constantValue := 0 }, { name := "escape", type := .int, accessFlags := 18, slot := 3, constantValue := 0 }, { name := "subcomponent", type := .int, accessFlags := 18, slot := 4, constantValue := 0 }, { name := "STANDARD", type := (.object "com/example/querent/querent/hl7/Delimiters"), accessFlags := 25, slot := 0, constantValue := 0 }, { name := "NONE", type := .int, accessFlags := 26, slot := 1, constantValue := 0 }, { name := "FRAMING", type := (.array .int), accessFlags := 26, slot := 2, constantValue := 0 }, { name := "FRAMING_NAMES", type := (.object "java/util/List"), accessFlags := 26, slot := 3, constantValue := 0 }, { name := "REPLACEMENT", type := .int, accessFlags := 26, slot := 4, constantValue := 0 }]
  methods := #[k3m0, k3m1]
  instanceTypes := #[.int, .int, .int, .int, .int]
  staticTypes := #[(.object "com/example/querent/querent/hl7/Delimiters"), .int, (.array .int), (.object "java/util/List"), .int]
  resolved := Array.replicate 405 none
  statics := none }

def pool4 : Array CpInfo := pool [(1, .class_ 2), (0, u "java/io/Serializable"), (0, .class_ 4), (0, u "java/lang/Object")] 2

/-- java/io/Serializable -/
def k4 : Class := { plain "java/io/Serializable" (some 0) with
  accessFlags := 1537
  interfaces := #[]
  cf := some (fileOf pool4 1 #[] #[] 1537 3 #[] #[])
  fields := #[]
  methods := #[]
  instanceTypes := #[]
  staticTypes := #[]
  resolved := Array.replicate 7 none
  statics := none }

def pool5 : Array CpInfo := pool [(1, .methodref 2 3), (0, .class_ 4), (0, .nameAndType 5 6), (0, u "java/lang/Object"), (0, u "<init>"), (0, u "()V"), (1, .class_ 10), (1, u "java/lang/Number"), (2, .class_ 14), (0, u "java/io/Serializable"), (0, u "serialVersionUID"), (0, u "J")] 20

def k5c0 : Code := { maxStack := 1, maxLocals := 1, code := jdk_18_method_1_code, exceptionTable := #[], attributes := #[] }
def k5m0 : Method := { name := "<init>", desc := "()V", sig := { parameters := [], returnType := none }, accessFlags := 1, code := some k5c0 }
/-- java/lang/Number -/
def k5 : Class := { plain "java/lang/Number" (some 0) with
  accessFlags := 1057
  interfaces := #[4]
  cf := some (fileOf pool5 8 #[] #[{ accessFlags := 1, nameIndex := 5, descriptorIndex := 6, attributes := #[] }] 1057 2 #[13] #[{ accessFlags := 26, nameIndex := 15, descriptorIndex := 16, attributes := #[] }])
  fields := #[{ name := "serialVersionUID", type := .long, accessFlags := 26, slot := 0, constantValue := 0 }]
  methods := #[k5m0]
  instanceTypes := #[]
  staticTypes := #[.long]
  resolved := Array.replicate 37 none
  statics := none }

def pool6 : Array CpInfo := pool [(1, .class_ 2), (0, u "java/lang/Comparable"), (0, .class_ 4), (0, u "java/lang/Object")] 7

/-- java/lang/Comparable -/
def k6 : Class := { plain "java/lang/Comparable" (some 0) with
  accessFlags := 1537
  interfaces := #[]
  cf := some (fileOf pool6 1 #[] #[] 1537 3 #[] #[])
  fields := #[]
  methods := #[]
  instanceTypes := #[]
  staticTypes := #[]
  resolved := Array.replicate 12 none
  statics := none }

def pool7 : Array CpInfo := pool [(1, .class_ 2), (0, u "java/lang/constant/Constable"), (0, .class_ 4), (0, u "java/lang/Object")] 6

/-- java/lang/constant/Constable -/
def k7 : Class := { plain "java/lang/constant/Constable" (some 0) with
  accessFlags := 1537
  interfaces := #[]
  cf := some (fileOf pool7 1 #[] #[] 1537 3 #[] #[])
  fields := #[]
  methods := #[]
  instanceTypes := #[]
  staticTypes := #[]
  resolved := Array.replicate 11 none
  statics := none }

def pool8 : Array CpInfo := pool [(1, .class_ 2), (0, u "java/lang/constant/ConstantDesc"), (0, .class_ 4), (0, u "java/lang/Object")] 32

/-- java/lang/constant/ConstantDesc -/
def k8 : Class := { plain "java/lang/constant/ConstantDesc" (some 0) with
  accessFlags := 1537
  interfaces := #[]
  cf := some (fileOf pool8 1 #[] #[] 1537 3 #[] #[])
  fields := #[]
  methods := #[]
  instanceTypes := #[]
  staticTypes := #[]
  resolved := Array.replicate 37 none
  statics := none }

def pool9 : Array CpInfo := pool [(1, .class_ 2), (0, u "java/lang/Integer"), (16, u "digits"), (0, u "[C"), (46, u "<init>"), (17, u "DigitOnes"), (0, u "[B"), (2, u "DigitTens"), (10, .nameAndType 67 101), (0, u "()V"), (85, u "valueOf"), (0, u "(I)Ljava/lang/Integer;"), (0, .class_ 190), (0, u "java/lang/Integer$IntegerCache"), (0, .fieldref 189 192), (0, .nameAndType 193 194), (0, u "high"), (0, u "I"), (0, .fieldref 189 196), (0, .nameAndType 197 198), (0, u "cache"), (0, u "[Ljava/lang/Integer;"), (0, .methodref 1 200), (0, .nameAndType 67 201), (0, u "(I)V"), (0, .methodref 203 100), (0, .class_ 204), (0, u "java/lang/Number"), (0, .fieldref 1 206), (0, .nameAndType 207 194), (0, u "value"), (94, u "TYPE"), (0, u "Ljava/lang/Class;"), (0, .class_ 305), (0, u "java/lang/Comparable"), (0, .class_ 307), (0, u "java/lang/constant/Constable"), (0, .class_ 309), (0, u "java/lang/constant/ConstantDesc"), (0, u "MIN_VALUE"), (1, u "MAX_VALUE"), (3, u "SIZE"), (1, u "BYTES"), (1, u "serialVersionUID"), (0, u "J")] 131

def k9c0 : Code := { maxStack := 3, maxLocals := 1, code := jdk_33_method_22_code, exceptionTable := #[], attributes := #[] }
def k9m0 : Method := { name := "valueOf", desc := "(I)Ljava/lang/Integer;", sig := { parameters := [.int], returnType := some (.object "java/lang/Integer") }, accessFlags := 9, code := some k9c0 }
def k9c1 : Code := { maxStack := 2, maxLocals := 2, code := jdk_33_method_23_code, exceptionTable := #[], attributes := #[] }
def k9m1 : Method := { name := "<init>", desc := "(I)V", sig := { parameters := [.int], returnType := none }, accessFlags := 1, code := some k9c1 }
/-- java/lang/Integer -/
def k9 : Class := { plain "java/lang/Integer" (some 5) with
  accessFlags := 49
  interfaces := #[6, 7, 8]
  cf := some (fileOf pool9 1 #[.nestMembers #[189]] #[{ accessFlags := 9, nameIndex := 187, descriptorIndex := 188, attributes := #[] }, { accessFlags := 1, nameIndex := 67, descriptorIndex := 201, attributes := #[] }] 49 203 #[304, 306, 308] #[{ accessFlags := 25, nameIndex := 310, descriptorIndex := 194, attributes := #[] }, { accessFlags := 25, nameIndex := 312, descriptorIndex := 194, attributes := #[] }, { accessFlags := 25, nameIndex := 302, descriptorIndex := 303, attributes := #[] }, { accessFlags := 24, nameIndex := 19, descriptorIndex := 20, attributes := #[] }, { accessFlags := 24, nameIndex := 89, descriptorIndex := 86, attributes := #[] }, { accessFlags := 24, nameIndex := 85, descriptorIndex := 86, attributes := #[] }, { accessFlags := 18, nameIndex := 207, descriptorIndex := 194, attributes := #[] }, { accessFlags := 25, nameIndex := 316, descriptorIndex := 194, attributes := #[] }, { accessFlags := 25, nameIndex := 318, descriptorIndex := 194, attributes := #[] }, { accessFlags := 26, nameIndex := 320, descriptorIndex := 321, attributes := #[] }])
  fields := #[{ name := "MIN_VALUE", type := .int, accessFlags := 25, slot := 0, constantValue := 0 }, { name := "MAX_VALUE", type := .int, accessFlags := 25, slot := 1, constantValue := 0 }, { name := "TYPE", type := (.object "java/lang/Class"), accessFlags := 25, slot := 2, constantValue := 0 }, { name := "digits", type := (.array .char), accessFlags := 24, slot := 3, constantValue := 0 }, { name := "DigitTens", type := (.array .byte), accessFlags := 24, slot := 4, constantValue := 0 }, { name := "DigitOnes", type := (.array .byte), accessFlags := 24, slot := 5, constantValue := 0 }, { name := "value", type := .int, accessFlags := 18, slot := 0, constantValue := 0 }, { name := "SIZE", type := .int, accessFlags := 25, slot := 6, constantValue := 0 }, { name := "BYTES", type := .int, accessFlags := 25, slot := 7, constantValue := 0 }, { name := "serialVersionUID", type := .long, accessFlags := 26, slot := 8, constantValue := 0 }]
  methods := #[k9m0, k9m1]
  instanceTypes := #[.int]
  staticTypes := #[.int, .int, (.object "java/lang/Class"), (.array .char), (.array .byte), (.array .byte), .int, .int, .long]
  resolved := Array.replicate 453 none
  statics := none }

def pool10 : Array CpInfo := pool [(2, .class_ 4), (1, u "java/lang/Object"), (0, u "<init>"), (0, u "()V"), (0, .class_ 8), (0, u "java/lang/Integer"), (7, .class_ 18), (1, u "java/lang/Integer$IntegerCache"), (0, u "$assertionsDisabled"), (0, u "Z"), (26, u "high"), (0, u "I"), (8, u "archivedCache"), (0, u "[Ljava/lang/Integer;"), (12, u "cache"), (0, u "low")] 27

def k10m0 : Method := { name := "<init>", desc := "()V", sig := { parameters := [], returnType := none }, accessFlags := 2, code := none }
/-- java/lang/Integer$IntegerCache -/
def k10 : Class := { plain "java/lang/Integer$IntegerCache" (some 0) with
  accessFlags := 48
  interfaces := #[]
  cf := some (fileOf pool10 16 #[.nestHost 7] #[{ accessFlags := 2, nameIndex := 5, descriptorIndex := 6, attributes := #[] }] 48 2 #[] #[{ accessFlags := 24, nameIndex := 72, descriptorIndex := 48, attributes := #[] }, { accessFlags := 24, nameIndex := 47, descriptorIndex := 48, attributes := #[] }, { accessFlags := 24, nameIndex := 71, descriptorIndex := 58, attributes := #[] }, { accessFlags := 8, nameIndex := 57, descriptorIndex := 58, attributes := #[] }, { accessFlags := 4120, nameIndex := 19, descriptorIndex := 20, attributes := #[] }])
  fields := #[{ name := "low", type := .int, accessFlags := 24, slot := 0, constantValue := 0 }, { name := "high", type := .int, accessFlags := 24, slot := 1, constantValue := 0 }, { name := "cache", type := (.array (.object "java/lang/Integer")), accessFlags := 24, slot := 2, constantValue := 0 }, { name := "archivedCache", type := (.array (.object "java/lang/Integer")), accessFlags := 8, slot := 3, constantValue := 0 }, { name := "$assertionsDisabled", type := .boolean, accessFlags := 4120, slot := 4, constantValue := 0 }]
  methods := #[k10m0]
  instanceTypes := #[]
  staticTypes := #[.int, .int, (.array (.object "java/lang/Integer")), (.array (.object "java/lang/Integer")), .boolean]
  resolved := Array.replicate 100 none
  statics := some 0 }

def pool11 : Array CpInfo := pool [(1, u "java/lang/Cloneable"), (0, .class_ 1), (0, u "java/lang/Object"), (0, .class_ 3)] 3

/-- java/lang/Cloneable -/
def k11 : Class := { plain "java/lang/Cloneable" (some 0) with
  accessFlags := 1537
  interfaces := #[]
  cf := some (fileOf pool11 2 #[] #[] 1537 4 #[] #[])
  fields := #[]
  methods := #[]
  instanceTypes := #[]
  staticTypes := #[]
  resolved := Array.replicate 8 none
  statics := none }

/-- the primitive byte -/
def k12 : Class := { plain "byte" none with kind := .primitive 'B', accessFlags := 0x411 }
/-- [B -/
def k13 : Class := { plain "[B" (some 0) with kind := .array 12 .byte, interfaces := #[11, 4], accessFlags := 1041 }

/-- the primitive int -/
def k14 : Class := { plain "int" none with kind := .primitive 'I', accessFlags := 0x411 }
/-- [I -/
def k15 : Class := { plain "[I" (some 0) with kind := .array 14 .int, interfaces := #[11, 4], accessFlags := 1041 }

/-- [Ljava/lang/Integer; -/
def k16 : Class := { plain "[Ljava/lang/Integer;" (some 0) with kind := .array 9 (.object "java/lang/Integer"), interfaces := #[11, 4], accessFlags := 1041 }

def heap : Heap := #[{ cls := 10, slots := #[.int 0, .int 127, .ref 1, .null, .int 0], vm := .statics 10 },
  { cls := 16, slots := #[.ref 2, .ref 3, .ref 4, .ref 5, .ref 6, .ref 7, .ref 8, .ref 9, .ref 10, .ref 11, .ref 12, .ref 13, .ref 14, .ref 15, .ref 16, .ref 17, .ref 18, .ref 19, .ref 20, .ref 21, .ref 22, .ref 23, .ref 24, .ref 25, .ref 26, .ref 27, .ref 28, .ref 29, .ref 30, .ref 31, .ref 32, .ref 33, .ref 34, .ref 35, .ref 36, .ref 37, .ref 38, .ref 39, .ref 40, .ref 41, .ref 42, .ref 43, .ref 44, .ref 45, .ref 46, .ref 47, .ref 48, .ref 49, .ref 50, .ref 51, .ref 52, .ref 53, .ref 54, .ref 55, .ref 56, .ref 57, .ref 58, .ref 59, .ref 60, .ref 61, .ref 62, .ref 63, .ref 64, .ref 65, .ref 66, .ref 67, .ref 68, .ref 69, .ref 70, .ref 71, .ref 72, .ref 73, .ref 74, .ref 75, .ref 76, .ref 77, .ref 78, .ref 79, .ref 80, .ref 81, .ref 82, .ref 83, .ref 84, .ref 85, .ref 86, .ref 87, .ref 88, .ref 89, .ref 90, .ref 91, .ref 92, .ref 93, .ref 94, .ref 95, .ref 96, .ref 97, .ref 98, .ref 99, .ref 100, .ref 101, .ref 102, .ref 103, .ref 104, .ref 105, .ref 106, .ref 107, .ref 108, .ref 109, .ref 110, .ref 111, .ref 112, .ref 113, .ref 114, .ref 115, .ref 116, .ref 117, .ref 118, .ref 119, .ref 120, .ref 121, .ref 122, .ref 123, .ref 124, .ref 125, .ref 126, .ref 127, .ref 128, .ref 129, .ref 130, .ref 131, .ref 132, .ref 133, .ref 134, .ref 135, .ref 136, .ref 137, .ref 138, .ref 139, .ref 140, .ref 141, .ref 142, .ref 143, .ref 144, .ref 145, .ref 146, .ref 147, .ref 148, .ref 149, .ref 150, .ref 151, .ref 152, .ref 153, .ref 154, .ref 155, .ref 156, .ref 157, .ref 158, .ref 159, .ref 160, .ref 161, .ref 162, .ref 163, .ref 164, .ref 165, .ref 166, .ref 167, .ref 168, .ref 169, .ref 170, .ref 171, .ref 172, .ref 173, .ref 174, .ref 175, .ref 176, .ref 177, .ref 178, .ref 179, .ref 180, .ref 181, .ref 182, .ref 183, .ref 184, .ref 185, .ref 186, .ref 187, .ref 188, .ref 189, .ref 190, .ref 191, .ref 192, .ref 193, .ref 194, .ref 195, .ref 196, .ref 197, .ref 198, .ref 199, .ref 200, .ref 201, .ref 202, .ref 203, .ref 204, .ref 205, .ref 206, .ref 207, .ref 208, .ref 209, .ref 210, .ref 211, .ref 212, .ref 213, .ref 214, .ref 215, .ref 216, .ref 217, .ref 218, .ref 219, .ref 220, .ref 221, .ref 222, .ref 223, .ref 224, .ref 225, .ref 226, .ref 227, .ref 228, .ref 229, .ref 230, .ref 231, .ref 232, .ref 233, .ref 234, .ref 235, .ref 236, .ref 237, .ref 238, .ref 239, .ref 240, .ref 241, .ref 242, .ref 243, .ref 244, .ref 245, .ref 246, .ref 247, .ref 248, .ref 249, .ref 250, .ref 251, .ref 252, .ref 253, .ref 254, .ref 255, .ref 256, .ref 257], vm := .none },
  { cls := 9, slots := #[.int (-128)], vm := .none },
  { cls := 9, slots := #[.int (-127)], vm := .none },
  { cls := 9, slots := #[.int (-126)], vm := .none },
  { cls := 9, slots := #[.int (-125)], vm := .none },
  { cls := 9, slots := #[.int (-124)], vm := .none },
  { cls := 9, slots := #[.int (-123)], vm := .none },
  { cls := 9, slots := #[.int (-122)], vm := .none },
  { cls := 9, slots := #[.int (-121)], vm := .none },
  { cls := 9, slots := #[.int (-120)], vm := .none },
  { cls := 9, slots := #[.int (-119)], vm := .none },
  { cls := 9, slots := #[.int (-118)], vm := .none },
  { cls := 9, slots := #[.int (-117)], vm := .none },
  { cls := 9, slots := #[.int (-116)], vm := .none },
  { cls := 9, slots := #[.int (-115)], vm := .none },
  { cls := 9, slots := #[.int (-114)], vm := .none },
  { cls := 9, slots := #[.int (-113)], vm := .none },
  { cls := 9, slots := #[.int (-112)], vm := .none },
  { cls := 9, slots := #[.int (-111)], vm := .none },
  { cls := 9, slots := #[.int (-110)], vm := .none },
  { cls := 9, slots := #[.int (-109)], vm := .none },
  { cls := 9, slots := #[.int (-108)], vm := .none },
  { cls := 9, slots := #[.int (-107)], vm := .none },
  { cls := 9, slots := #[.int (-106)], vm := .none },
  { cls := 9, slots := #[.int (-105)], vm := .none },
  { cls := 9, slots := #[.int (-104)], vm := .none },
  { cls := 9, slots := #[.int (-103)], vm := .none },
  { cls := 9, slots := #[.int (-102)], vm := .none },
  { cls := 9, slots := #[.int (-101)], vm := .none },
  { cls := 9, slots := #[.int (-100)], vm := .none },
  { cls := 9, slots := #[.int (-99)], vm := .none },
  { cls := 9, slots := #[.int (-98)], vm := .none },
  { cls := 9, slots := #[.int (-97)], vm := .none },
  { cls := 9, slots := #[.int (-96)], vm := .none },
  { cls := 9, slots := #[.int (-95)], vm := .none },
  { cls := 9, slots := #[.int (-94)], vm := .none },
  { cls := 9, slots := #[.int (-93)], vm := .none },
  { cls := 9, slots := #[.int (-92)], vm := .none },
  { cls := 9, slots := #[.int (-91)], vm := .none },
  { cls := 9, slots := #[.int (-90)], vm := .none },
  { cls := 9, slots := #[.int (-89)], vm := .none },
  { cls := 9, slots := #[.int (-88)], vm := .none },
  { cls := 9, slots := #[.int (-87)], vm := .none },
  { cls := 9, slots := #[.int (-86)], vm := .none },
  { cls := 9, slots := #[.int (-85)], vm := .none },
  { cls := 9, slots := #[.int (-84)], vm := .none },
  { cls := 9, slots := #[.int (-83)], vm := .none },
  { cls := 9, slots := #[.int (-82)], vm := .none },
  { cls := 9, slots := #[.int (-81)], vm := .none },
  { cls := 9, slots := #[.int (-80)], vm := .none },
  { cls := 9, slots := #[.int (-79)], vm := .none },
  { cls := 9, slots := #[.int (-78)], vm := .none },
  { cls := 9, slots := #[.int (-77)], vm := .none },
  { cls := 9, slots := #[.int (-76)], vm := .none },
  { cls := 9, slots := #[.int (-75)], vm := .none },
  { cls := 9, slots := #[.int (-74)], vm := .none },
  { cls := 9, slots := #[.int (-73)], vm := .none },
  { cls := 9, slots := #[.int (-72)], vm := .none },
  { cls := 9, slots := #[.int (-71)], vm := .none },
  { cls := 9, slots := #[.int (-70)], vm := .none },
  { cls := 9, slots := #[.int (-69)], vm := .none },
  { cls := 9, slots := #[.int (-68)], vm := .none },
  { cls := 9, slots := #[.int (-67)], vm := .none },
  { cls := 9, slots := #[.int (-66)], vm := .none },
  { cls := 9, slots := #[.int (-65)], vm := .none },
  { cls := 9, slots := #[.int (-64)], vm := .none },
  { cls := 9, slots := #[.int (-63)], vm := .none },
  { cls := 9, slots := #[.int (-62)], vm := .none },
  { cls := 9, slots := #[.int (-61)], vm := .none },
  { cls := 9, slots := #[.int (-60)], vm := .none },
  { cls := 9, slots := #[.int (-59)], vm := .none },
  { cls := 9, slots := #[.int (-58)], vm := .none },
  { cls := 9, slots := #[.int (-57)], vm := .none },
  { cls := 9, slots := #[.int (-56)], vm := .none },
  { cls := 9, slots := #[.int (-55)], vm := .none },
  { cls := 9, slots := #[.int (-54)], vm := .none },
  { cls := 9, slots := #[.int (-53)], vm := .none },
  { cls := 9, slots := #[.int (-52)], vm := .none },
  { cls := 9, slots := #[.int (-51)], vm := .none },
  { cls := 9, slots := #[.int (-50)], vm := .none },
  { cls := 9, slots := #[.int (-49)], vm := .none },
  { cls := 9, slots := #[.int (-48)], vm := .none },
  { cls := 9, slots := #[.int (-47)], vm := .none },
  { cls := 9, slots := #[.int (-46)], vm := .none },
  { cls := 9, slots := #[.int (-45)], vm := .none },
  { cls := 9, slots := #[.int (-44)], vm := .none },
  { cls := 9, slots := #[.int (-43)], vm := .none },
  { cls := 9, slots := #[.int (-42)], vm := .none },
  { cls := 9, slots := #[.int (-41)], vm := .none },
  { cls := 9, slots := #[.int (-40)], vm := .none },
  { cls := 9, slots := #[.int (-39)], vm := .none },
  { cls := 9, slots := #[.int (-38)], vm := .none },
  { cls := 9, slots := #[.int (-37)], vm := .none },
  { cls := 9, slots := #[.int (-36)], vm := .none },
  { cls := 9, slots := #[.int (-35)], vm := .none },
  { cls := 9, slots := #[.int (-34)], vm := .none },
  { cls := 9, slots := #[.int (-33)], vm := .none },
  { cls := 9, slots := #[.int (-32)], vm := .none },
  { cls := 9, slots := #[.int (-31)], vm := .none },
  { cls := 9, slots := #[.int (-30)], vm := .none },
  { cls := 9, slots := #[.int (-29)], vm := .none },
  { cls := 9, slots := #[.int (-28)], vm := .none },
  { cls := 9, slots := #[.int (-27)], vm := .none },
  { cls := 9, slots := #[.int (-26)], vm := .none },
  { cls := 9, slots := #[.int (-25)], vm := .none },
  { cls := 9, slots := #[.int (-24)], vm := .none },
  { cls := 9, slots := #[.int (-23)], vm := .none },
  { cls := 9, slots := #[.int (-22)], vm := .none },
  { cls := 9, slots := #[.int (-21)], vm := .none },
  { cls := 9, slots := #[.int (-20)], vm := .none },
  { cls := 9, slots := #[.int (-19)], vm := .none },
  { cls := 9, slots := #[.int (-18)], vm := .none },
  { cls := 9, slots := #[.int (-17)], vm := .none },
  { cls := 9, slots := #[.int (-16)], vm := .none },
  { cls := 9, slots := #[.int (-15)], vm := .none },
  { cls := 9, slots := #[.int (-14)], vm := .none },
  { cls := 9, slots := #[.int (-13)], vm := .none },
  { cls := 9, slots := #[.int (-12)], vm := .none },
  { cls := 9, slots := #[.int (-11)], vm := .none },
  { cls := 9, slots := #[.int (-10)], vm := .none },
  { cls := 9, slots := #[.int (-9)], vm := .none },
  { cls := 9, slots := #[.int (-8)], vm := .none },
  { cls := 9, slots := #[.int (-7)], vm := .none },
  { cls := 9, slots := #[.int (-6)], vm := .none },
  { cls := 9, slots := #[.int (-5)], vm := .none },
  { cls := 9, slots := #[.int (-4)], vm := .none },
  { cls := 9, slots := #[.int (-3)], vm := .none },
  { cls := 9, slots := #[.int (-2)], vm := .none },
  { cls := 9, slots := #[.int (-1)], vm := .none },
  { cls := 9, slots := #[.int (0)], vm := .none },
  { cls := 9, slots := #[.int (1)], vm := .none },
  { cls := 9, slots := #[.int (2)], vm := .none },
  { cls := 9, slots := #[.int (3)], vm := .none },
  { cls := 9, slots := #[.int (4)], vm := .none },
  { cls := 9, slots := #[.int (5)], vm := .none },
  { cls := 9, slots := #[.int (6)], vm := .none },
  { cls := 9, slots := #[.int (7)], vm := .none },
  { cls := 9, slots := #[.int (8)], vm := .none },
  { cls := 9, slots := #[.int (9)], vm := .none },
  { cls := 9, slots := #[.int (10)], vm := .none },
  { cls := 9, slots := #[.int (11)], vm := .none },
  { cls := 9, slots := #[.int (12)], vm := .none },
  { cls := 9, slots := #[.int (13)], vm := .none },
  { cls := 9, slots := #[.int (14)], vm := .none },
  { cls := 9, slots := #[.int (15)], vm := .none },
  { cls := 9, slots := #[.int (16)], vm := .none },
  { cls := 9, slots := #[.int (17)], vm := .none },
  { cls := 9, slots := #[.int (18)], vm := .none },
  { cls := 9, slots := #[.int (19)], vm := .none },
  { cls := 9, slots := #[.int (20)], vm := .none },
  { cls := 9, slots := #[.int (21)], vm := .none },
  { cls := 9, slots := #[.int (22)], vm := .none },
  { cls := 9, slots := #[.int (23)], vm := .none },
  { cls := 9, slots := #[.int (24)], vm := .none },
  { cls := 9, slots := #[.int (25)], vm := .none },
  { cls := 9, slots := #[.int (26)], vm := .none },
  { cls := 9, slots := #[.int (27)], vm := .none },
  { cls := 9, slots := #[.int (28)], vm := .none },
  { cls := 9, slots := #[.int (29)], vm := .none },
  { cls := 9, slots := #[.int (30)], vm := .none },
  { cls := 9, slots := #[.int (31)], vm := .none },
  { cls := 9, slots := #[.int (32)], vm := .none },
  { cls := 9, slots := #[.int (33)], vm := .none },
  { cls := 9, slots := #[.int (34)], vm := .none },
  { cls := 9, slots := #[.int (35)], vm := .none },
  { cls := 9, slots := #[.int (36)], vm := .none },
  { cls := 9, slots := #[.int (37)], vm := .none },
  { cls := 9, slots := #[.int (38)], vm := .none },
  { cls := 9, slots := #[.int (39)], vm := .none },
  { cls := 9, slots := #[.int (40)], vm := .none },
  { cls := 9, slots := #[.int (41)], vm := .none },
  { cls := 9, slots := #[.int (42)], vm := .none },
  { cls := 9, slots := #[.int (43)], vm := .none },
  { cls := 9, slots := #[.int (44)], vm := .none },
  { cls := 9, slots := #[.int (45)], vm := .none },
  { cls := 9, slots := #[.int (46)], vm := .none },
  { cls := 9, slots := #[.int (47)], vm := .none },
  { cls := 9, slots := #[.int (48)], vm := .none },
  { cls := 9, slots := #[.int (49)], vm := .none },
  { cls := 9, slots := #[.int (50)], vm := .none },
  { cls := 9, slots := #[.int (51)], vm := .none },
  { cls := 9, slots := #[.int (52)], vm := .none },
  { cls := 9, slots := #[.int (53)], vm := .none },
  { cls := 9, slots := #[.int (54)], vm := .none },
  { cls := 9, slots := #[.int (55)], vm := .none },
  { cls := 9, slots := #[.int (56)], vm := .none },
  { cls := 9, slots := #[.int (57)], vm := .none },
  { cls := 9, slots := #[.int (58)], vm := .none },
  { cls := 9, slots := #[.int (59)], vm := .none },
  { cls := 9, slots := #[.int (60)], vm := .none },
  { cls := 9, slots := #[.int (61)], vm := .none },
  { cls := 9, slots := #[.int (62)], vm := .none },
  { cls := 9, slots := #[.int (63)], vm := .none },
  { cls := 9, slots := #[.int (64)], vm := .none },
  { cls := 9, slots := #[.int (65)], vm := .none },
  { cls := 9, slots := #[.int (66)], vm := .none },
  { cls := 9, slots := #[.int (67)], vm := .none },
  { cls := 9, slots := #[.int (68)], vm := .none },
  { cls := 9, slots := #[.int (69)], vm := .none },
  { cls := 9, slots := #[.int (70)], vm := .none },
  { cls := 9, slots := #[.int (71)], vm := .none },
  { cls := 9, slots := #[.int (72)], vm := .none },
  { cls := 9, slots := #[.int (73)], vm := .none },
  { cls := 9, slots := #[.int (74)], vm := .none },
  { cls := 9, slots := #[.int (75)], vm := .none },
  { cls := 9, slots := #[.int (76)], vm := .none },
  { cls := 9, slots := #[.int (77)], vm := .none },
  { cls := 9, slots := #[.int (78)], vm := .none },
  { cls := 9, slots := #[.int (79)], vm := .none },
  { cls := 9, slots := #[.int (80)], vm := .none },
  { cls := 9, slots := #[.int (81)], vm := .none },
  { cls := 9, slots := #[.int (82)], vm := .none },
  { cls := 9, slots := #[.int (83)], vm := .none },
  { cls := 9, slots := #[.int (84)], vm := .none },
  { cls := 9, slots := #[.int (85)], vm := .none },
  { cls := 9, slots := #[.int (86)], vm := .none },
  { cls := 9, slots := #[.int (87)], vm := .none },
  { cls := 9, slots := #[.int (88)], vm := .none },
  { cls := 9, slots := #[.int (89)], vm := .none },
  { cls := 9, slots := #[.int (90)], vm := .none },
  { cls := 9, slots := #[.int (91)], vm := .none },
  { cls := 9, slots := #[.int (92)], vm := .none },
  { cls := 9, slots := #[.int (93)], vm := .none },
  { cls := 9, slots := #[.int (94)], vm := .none },
  { cls := 9, slots := #[.int (95)], vm := .none },
  { cls := 9, slots := #[.int (96)], vm := .none },
  { cls := 9, slots := #[.int (97)], vm := .none },
  { cls := 9, slots := #[.int (98)], vm := .none },
  { cls := 9, slots := #[.int (99)], vm := .none },
  { cls := 9, slots := #[.int (100)], vm := .none },
  { cls := 9, slots := #[.int (101)], vm := .none },
  { cls := 9, slots := #[.int (102)], vm := .none },
  { cls := 9, slots := #[.int (103)], vm := .none },
  { cls := 9, slots := #[.int (104)], vm := .none },
  { cls := 9, slots := #[.int (105)], vm := .none },
  { cls := 9, slots := #[.int (106)], vm := .none },
  { cls := 9, slots := #[.int (107)], vm := .none },
  { cls := 9, slots := #[.int (108)], vm := .none },
  { cls := 9, slots := #[.int (109)], vm := .none },
  { cls := 9, slots := #[.int (110)], vm := .none },
  { cls := 9, slots := #[.int (111)], vm := .none },
  { cls := 9, slots := #[.int (112)], vm := .none },
  { cls := 9, slots := #[.int (113)], vm := .none },
  { cls := 9, slots := #[.int (114)], vm := .none },
  { cls := 9, slots := #[.int (115)], vm := .none },
  { cls := 9, slots := #[.int (116)], vm := .none },
  { cls := 9, slots := #[.int (117)], vm := .none },
  { cls := 9, slots := #[.int (118)], vm := .none },
  { cls := 9, slots := #[.int (119)], vm := .none },
  { cls := 9, slots := #[.int (120)], vm := .none },
  { cls := 9, slots := #[.int (121)], vm := .none },
  { cls := 9, slots := #[.int (122)], vm := .none },
  { cls := 9, slots := #[.int (123)], vm := .none },
  { cls := 9, slots := #[.int (124)], vm := .none },
  { cls := 9, slots := #[.int (125)], vm := .none },
  { cls := 9, slots := #[.int (126)], vm := .none },
  { cls := 9, slots := #[.int (127)], vm := .none }]
def classes : Array Class := #[k0, k1, k2, k3, k4, k5, k6, k7, k8, k9, k10, k11, k12, k13, k14, k15, k16]
def interned : List (Array UInt16 × Addr) := []
def slotsUsed : Nat := 517
def theMethod : MethodId := ⟨1, 2⟩
def args0 : Array Value := #[.int 5, .int 80, .int 3, .int 9, .int 1, .int 7]
def aboutOver (below : List Frame) : State where
  vm := { classes := classes, interned := interned.toArray }
  heap := heap
  slotsUsed := slotsUsed
  threads := #[{ frames := .invoking theMethod args0 :: below }]
def below0 : List Frame := [.native { method := ⟨0, 0⟩, args := #[] }]
def about1 : State := aboutOver below0
def p0 : Program := .bare "" "" ""
def e0 : Env := launch0.env 0 0 0
theorem w_frames : about1.frames = Frame.invoking theMethod args0 :: below0 := rfl
set_option maxRecDepth 65536 in
theorem w_args : argsFit about1.vm theMethod args0 = true := by decide +kernel
set_option maxRecDepth 65536 in
theorem w_heap : heapFits about1 = true := by decide +kernel
set_option maxRecDepth 65536 in
theorem w_runnable : about1.curStatus? = some .runnable := by decide +kernel
set_option maxRecDepth 65536 in
theorem w_alone : about1.alone = true := by decide +kernel
set_option maxRecDepth 65536 in
theorem w_named : about1.methodNamed? x = some theMethod := by decide +kernel
set_option maxRecDepth 65536 in
theorem w_hears : about1.hears theMethod below0 = true := by decide +kernel
set_option maxRecDepth 65536 in
theorem w_ripe : about1.ripe theMethod args0 below0 = true := by decide +kernel
theorem w_running : about1.status = .running := rfl
set_option maxRecDepth 65536 in
theorem w_room : about1.hasRoom e0.platform room_1 = true :=
  launch0.hasRoom_least _ room_1 (by decide +kernel) (by decide +kernel) (by decide +kernel) (by decide +kernel) (by decide +kernel) (by decide +kernel)
theorem allAtoms_all (ts : List Jvm.Cond) (a : Array Jvm.Value) (st : Jvm.State) : (allAtoms ts).before a st = ts.all (fun c => c.before a st) := by
  induction ts with
  | nil => rfl
  | cons c t ih =>
    show (Jvm.Cond.and c (allAtoms t)).before a st = _
    rw [Jvm.Cond.before_and, ih, List.all_cons]
def words1 : List Jvm.Cond := Jvm.Cond.code x code maxLocals ret :: tables_1
/-- a 'code' word, met by the world's own term for the bytes: nothing is compared byte by byte -/
theorem code_word {y : MethodName} {bytes : ByteArray} {mx : Nat} {rt : Option FieldType} {a : Array Value} {s : State} {m : MethodId} {meth : Method} {c : Code} (h1 : s.methodNamed? y = some m) (h2 : s.vm.method? m = some meth) (h3 : meth.code = some c) (h4 : c.code = bytes)
    (h5 : (c.maxLocals == mx && c.exceptionTable.isEmpty && decide (c.maxStack ≤ mostOperands) && decide (meth.sig.returnType = rt) && !meth.locks && decide (parseMethodDescriptor y.desc = some meth.sig)) = true) : (Jvm.Cond.code y bytes mx rt).before a s = true := by
  simp only [Bool.and_eq_true, beq_iff_eq, Bool.not_eq_true', decide_eq_true_eq] at h5
  obtain ⟨⟨⟨⟨⟨g1, g2⟩, g3⟩, g4⟩, g5⟩, g6⟩ := h5
  simp [Cond.before, Cond.holds, Cond.value, h1, h2, h3, h4, g1, g2, g3, g4, g5, g6]
def isCode : Jvm.Cond → Bool
  | .code _ _ _ _ => true
  | _ => false
theorem all_split {L : List Jvm.Cond} {P : Jvm.Cond → Bool} (h1 : L.all (fun c => isCode c || P c) = true) (h2 : ∀ c ∈ L.filter isCode, P c = true) : L.all P = true := by
  refine List.all_eq_true.mpr fun c hc => ?_
  have h := List.all_eq_true.mp h1 c hc
  rcases Bool.eq_false_or_eq_true (isCode c) with hi | hi
  · exact h2 c (List.mem_filter.mpr ⟨hc, hi⟩)
  · simpa [hi] using h
set_option maxRecDepth 65536 in
theorem w_c0 : (Jvm.Cond.code x code maxLocals ret).before args0 about1 = true := code_word (m := ⟨1, 2⟩) (meth := k1m2) (c := k1c2) (by decide +kernel) rfl rfl rfl (by decide +kernel)
set_option maxRecDepth 65536 in
theorem w_c1 : (Jvm.Cond.code ({ cls := "com/example/querent/querent/hl7/Delimiters", name := "<init>", desc := "(IIIII)V" } : Jvm.MethodName) prog_88_method_1_code (6 : Nat) (Option.none : Option Jvm.ClassFile.FieldType)).before args0 about1 = true := code_word (m := ⟨3, 0⟩) (meth := k3m0) (c := k3c0) (by decide +kernel) rfl rfl rfl (by decide +kernel)
set_option maxRecDepth 65536 in
theorem w_c2 : (Jvm.Cond.code ({ cls := "java/lang/Record", name := "<init>", desc := "()V" } : Jvm.MethodName) jdk_30_method_1_code (1 : Nat) (Option.none : Option Jvm.ClassFile.FieldType)).before args0 about1 = true := code_word (m := ⟨2, 0⟩) (meth := k2m0) (c := k2c0) (by decide +kernel) rfl rfl rfl (by decide +kernel)
set_option maxRecDepth 65536 in
theorem w_c3 : (Jvm.Cond.code ({ cls := "java/lang/Object", name := "<init>", desc := "()V" } : Jvm.MethodName) object_method_1_code (1 : Nat) (Option.none : Option Jvm.ClassFile.FieldType)).before args0 about1 = true := code_word (m := ⟨0, 0⟩) (meth := k0m0) (c := k0c0) (by decide +kernel) rfl rfl rfl (by decide +kernel)
set_option maxRecDepth 65536 in
theorem w_c4 : (Jvm.Cond.code ({ cls := "com/example/querent/querent/hl7/DelimitersEqualsPinLaw", name := "pick", desc := "(IIII)I" } : Jvm.MethodName) method_2_code (4 : Nat) (Option.some Jvm.ClassFile.FieldType.int)).before args0 about1 = true := code_word (m := ⟨1, 1⟩) (meth := k1m1) (c := k1c1) (by decide +kernel) rfl rfl rfl (by decide +kernel)
set_option maxRecDepth 65536 in
theorem w_c5 : (Jvm.Cond.code ({ cls := "java/lang/Integer", name := "valueOf", desc := "(I)Ljava/lang/Integer;" } : Jvm.MethodName) jdk_33_method_22_code (1 : Nat) (Option.some (Jvm.ClassFile.FieldType.object "java/lang/Integer"))).before args0 about1 = true := code_word (m := ⟨9, 0⟩) (meth := k9m0) (c := k9c0) (by decide +kernel) rfl rfl rfl (by decide +kernel)
set_option maxRecDepth 65536 in
theorem w_c6 : (Jvm.Cond.code ({ cls := "com/example/querent/querent/hl7/Delimiters", name := "equals", desc := "(Ljava/lang/Object;)Z" } : Jvm.MethodName) prog_88_method_3_code (3 : Nat) (Option.some Jvm.ClassFile.FieldType.boolean)).before args0 about1 = true := code_word (m := ⟨3, 1⟩) (meth := k3m1) (c := k3c1) (by decide +kernel) rfl rfl rfl (by decide +kernel)
set_option maxRecDepth 65536 in
theorem w_c7 : (Jvm.Cond.code ({ cls := "java/lang/Integer", name := "<init>", desc := "(I)V" } : Jvm.MethodName) jdk_33_method_23_code (2 : Nat) (Option.none : Option Jvm.ClassFile.FieldType)).before args0 about1 = true := code_word (m := ⟨9, 1⟩) (meth := k9m1) (c := k9c1) (by decide +kernel) rfl rfl rfl (by decide +kernel)
set_option maxRecDepth 65536 in
theorem w_c8 : (Jvm.Cond.code ({ cls := "java/lang/Number", name := "<init>", desc := "()V" } : Jvm.MethodName) jdk_18_method_1_code (1 : Nat) (Option.none : Option Jvm.ClassFile.FieldType)).before args0 about1 = true := code_word (m := ⟨5, 0⟩) (meth := k5m0) (c := k5c0) (by decide +kernel) rfl rfl rfl (by decide +kernel)
def codes1 : List Jvm.Cond := [Jvm.Cond.code x code maxLocals ret, Jvm.Cond.code ({ cls := "com/example/querent/querent/hl7/Delimiters", name := "<init>", desc := "(IIIII)V" } : Jvm.MethodName) prog_88_method_1_code (6 : Nat) (Option.none : Option Jvm.ClassFile.FieldType), Jvm.Cond.code ({ cls := "java/lang/Record", name := "<init>", desc := "()V" } : Jvm.MethodName) jdk_30_method_1_code (1 : Nat) (Option.none : Option Jvm.ClassFile.FieldType), Jvm.Cond.code ({ cls := "java/lang/Object", name := "<init>", desc := "()V" } : Jvm.MethodName) object_method_1_code (1 : Nat) (Option.none : Option Jvm.ClassFile.FieldType), Jvm.Cond.code ({ cls := "com/example/querent/querent/hl7/DelimitersEqualsPinLaw", name := "pick", desc := "(IIII)I" } : Jvm.MethodName) method_2_code (4 : Nat) (Option.some Jvm.ClassFile.FieldType.int), Jvm.Cond.code ({ cls := "java/lang/Integer", name := "valueOf", desc := "(I)Ljava/lang/Integer;" } : Jvm.MethodName) jdk_33_method_22_code (1 : Nat) (Option.some (Jvm.ClassFile.FieldType.object "java/lang/Integer")), Jvm.Cond.code ({ cls := "com/example/querent/querent/hl7/Delimiters", name := "equals", desc := "(Ljava/lang/Object;)Z" } : Jvm.MethodName) prog_88_method_3_code (3 : Nat) (Option.some Jvm.ClassFile.FieldType.boolean), Jvm.Cond.code ({ cls := "java/lang/Integer", name := "<init>", desc := "(I)V" } : Jvm.MethodName) jdk_33_method_23_code (2 : Nat) (Option.none : Option Jvm.ClassFile.FieldType), Jvm.Cond.code ({ cls := "java/lang/Number", name := "<init>", desc := "()V" } : Jvm.MethodName) jdk_18_method_1_code (1 : Nat) (Option.none : Option Jvm.ClassFile.FieldType)]
set_option maxRecDepth 65536 in
theorem codes_eq : words1.filter isCode = codes1 := rfl
theorem w_codes : ∀ c ∈ words1.filter isCode, c.before args0 about1 = true := by
  rw [codes_eq]
  intro c hc
  simp only [codes1, List.mem_cons, List.not_mem_nil, or_false] at hc
  rcases hc with rfl | rfl | rfl | rfl | rfl | rfl | rfl | rfl | rfl
  · exact w_c0
  · exact w_c1
  · exact w_c2
  · exact w_c3
  · exact w_c4
  · exact w_c5
  · exact w_c6
  · exact w_c7
  · exact w_c8
set_option maxRecDepth 65536 in
theorem w_t1 : (words1.take 24).all (fun c => isCode c || c.before args0 about1) = true := by decide +kernel
set_option maxRecDepth 65536 in
theorem w_t2 : ((words1.drop 24).take 24).all (fun c => isCode c || c.before args0 about1) = true := by decide +kernel
set_option maxRecDepth 65536 in
theorem w_t3 : ((words1.drop 24).drop 24).all (fun c => isCode c || c.before args0 about1) = true := by decide +kernel
theorem w_tables : (allAtoms (Jvm.Cond.code x code maxLocals ret :: tables_1)).before args0 about1 = true := by
  rw [allAtoms_all]
  show words1.all (fun c => c.before args0 about1) = true
  refine all_split ?_ w_codes
  rw [← List.take_append_drop 24 words1, List.all_append, w_t1, ← List.take_append_drop 24 (words1.drop 24), List.all_append, w_t2, w_t3]
  rfl
set_option maxRecDepth 65536 in
theorem w_rest : rest_1_c.before args0 about1 = true := by decide +kernel
set_option maxRecDepth 65536 in
theorem w_case : (Jvm.Cond.and given_1 narrow_1).before args0 about1 = true := by decide +kernel
theorem w_applies : (headSpec (Jvm.Cond.code x code maxLocals ret :: tables_1) room_1).applies x e0.platform about1 = true :=
  (Spec.applies_iff w_frames).mpr ⟨w_running, w_runnable, w_alone, w_named, w_hears, w_ripe, w_room, w_tables⟩
theorem atStart : AtStart classFile x code maxLocals ret World_1 tables_1 room_1 Calls_1 rest_1 Pre_1 launch0 p0 e0 about1 theMethod args0 below0 :=
  ⟨lists_1, trivial, launch0.admits_env _ _ _, launch0.least_env, fairChoices_fair.cas, fairChoices_fair.clock, w_frames, w_args, w_heap, w_applies, trivial, w_rest, w_case⟩
end start1
theorem witness_1 : WitnessClaimed_1 := ⟨start1.p0, start1.e0, start1.about1, start1.theMethod, start1.args0, start1.below0, start1.atStart⟩
end Jvm.Pilot.@@N@@
